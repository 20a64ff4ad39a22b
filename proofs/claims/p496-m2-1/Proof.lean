import JvmDerived
import JvmDerived.Pilot.@@N@@Statement
import JvmDerived.Pilot.@@N@@Code
set_option linter.unusedVariables false
set_option linter.unusedSimpArgs false
namespace Jvm.OwnGo
open Jvm Jvm.ClassFile Sem Op Lib Jvm.Free Jvm.Stand Jvm.LawKit Jvm.RoadKit Bundle
/-! THE GO KIT: a walk of a body told backwards: 'Go k h os cells slots pc Ls st': from pc with these locals and this stack, over the heap h, the body comes to its end as its contract says. -/
abbrev QT : Type := Option Value → Heap → List Addr → Prop
abbrev KT : Type := Program × Launch × Env × Room × State × MethodId × Array Value × List Frame × Method × Code × State × List (String × Nat) × Bool × List Addr × QT
def Own (Z : State) (h0 : Heap) (EL : List (String × Nat)) (wr : List Addr) (vm : Vm) (h : Heap) (x : Addr) : Prop :=
  Safe Z EL vm h x ∧ Z.heap.size ≤ x ∧ x < h.size ∧ (x ∈ wr ∨ h0.size ≤ x)
def Done (Z : State) (EL : List (String × Nat)) (wd : Bool) (R : Room) (wr : List Addr) (Q : QT) (s : State) (o : Outcome) (s' : State) : Prop :=
  ∃ v L os, o = .returned v ∧ Q v s'.heap os ∧ (∀ x ∈ os, Safe Z EL s'.vm s'.heap x ∧ s.heap.size ≤ x ∧ x < s'.heap.size) ∧ Keep s.heap s'.heap wr ∧ Fr Z.heap.size L ∧
    CHr Z EL s.vm s.heap s'.vm s'.heap ∧ ReturnedEndW s o s' L R.cells R.slots ∧ (wd = false → FrameEnd s o s' L R.cells R.slots)
def Fen (p : Program) (e : Env) (below : List Frame) (P : Outcome → State → Prop) (A : State) : Prop :=
  ∃ s' o, Steps p.tables e below A s' ∧ s'.status = .running ∧ Ended s' below o ∧ P o s'
theorem Fen.of {p : Program} {e : Env} {below : List Frame} {P : Outcome → State → Prop} {A B : State} (st : ∀ t, Steps p.tables e below B t → Steps p.tables e below A t) (F : Fen p e below P B) : Fen p e below P A := by
  obtain ⟨s', o, h1, h2⟩ := F
  exact ⟨s', o, st _ h1, h2⟩
def Go : KT → Heap → List Addr → Nat → Nat → Nat → Array Slot → List Value → Prop :=
  fun ⟨p, l, e, R, s, m, args, below, meth, c, Z, EL, wd, wr, Q⟩ h os cells slots pc Ls st =>
    ∀ (T : State) (locs : List Loc) (vm : Vm), Stand p l e R (s.setVm vm) m args below meth c T locs cells slots → T.heap = h → Fr Z.heap.size locs → s.Since vm h.size → (wd = false → s.WarmedH vm) →
      CHr Z EL s.vm s.heap vm h → Keep s.heap h wr → (∀ x ∈ os, Own Z s.heap EL wr vm h x) → Fen p e below (Done Z EL wd R wr Q s) (T.setTop (mkF m pc Ls st))
def Ctx (k : KT) (l : Launch) (y : MethodName) (bytes : ByteArray) (maxL : Nat) (ret : Option FieldType) (R : Room) (Z : State) (a0 : Array Value) (EL : List (String × Nat)) (wd : Bool) (wr : List Addr) (h0 : Heap) (Q : QT) : Prop :=
  match k with
  | ⟨p, l', e, R', s, m, args, below, meth, c, Z', EL', wd', wr', Q'⟩ => (l' = l ∧ R' = R ∧ Z' = Z ∧ EL' = EL ∧ wd' = wd ∧ wr' = wr ∧ Q' = Q ∧ s.heap = h0) ∧ p.tables.exec = Jvm.exec ∧ c.code = bytes ∧ c.maxLocals = maxL ∧ meth.sig.returnType = ret ∧
      meth.locks = false ∧ meth.name = y.name ∧ Z'.Warmed39 s.vm ∧ s.vm.findClass y.cls = some m.cls ∧ EW Z' a0 EL' ∧ Ext Z'.heap s.heap ∧ (∀ x ∈ wr, Z'.heap.size ≤ x)
/-- a body's contract -/
def Con (l : Launch) (Z : State) (EL : List (String × Nat)) (wd : Bool) (y : MethodName) (bytes : ByteArray) (maxL : Nat) (ret : Option FieldType) (rm : Room) (ws : List Jvm.Cond) (as' : Array Value) (h : Heap) (wr : List Addr) (Q : QT) : Prop :=
  MetFree l y (head1 (Cond.code y bytes maxL ret :: ws) rm) (fun a U => a = as' ∧ Z.Warmed39 U.vm ∧ U.heap = h ∧ CHv Z EL U.vm h ∧ Ext Z.heap h ∧ ∀ x ∈ wr, Safe Z EL U.vm h x ∧ Z.heap.size ≤ x ∧ x < h.size) (fun _ _ _ _ _ => True)
    (fun _ U o U' => Done Z EL wd rm wr Q U o U')
section Base
variable {p : Program} {l : Launch} {e : Env} {R : Room} {s : State} {m : MethodId} {args : Array Value} {below : List Frame} {meth : Method} {c : Code} {T T' : State} {locs locs' : List Loc} {cells slots cells' slots' : Nat}
variable {Z : State} {a0 : Array Value} {EL : List (String × Nat)} {wd : Bool} {wr ws os : List Addr} {h h' h0 : Heap} {vm vm' : Vm} {Q : QT}
theorem Since.up {n n' : Nat} (S : s.Since vm n) (q : n ≤ n') : s.Since vm n' := ⟨S.1, fun j p hj hp => ⟨(S.2 j p hj hp).1, Nat.lt_of_lt_of_le (S.2 j p hj hp).2 q⟩⟩
theorem Own.chr {x : Addr} (O : Own Z h0 EL wr vm h x) (A : CHr Z EL vm h vm' h') : Own Z h0 EL wr vm' h' x := ⟨A.safe O.2.2.1 O.1, O.2.1, Nat.lt_of_lt_of_le O.2.2.1 A.2.1, O.2.2.2⟩
theorem keepOs (K : Keep h0 h wr) (K' : Keep h h' ws) (ow : ∀ x ∈ os, Own Z h0 EL wr vm h x) (q : ∀ x ∈ ws, x ∈ os) : Keep h0 h' wr := K.trans K' fun x hx => (ow x (q x hx)).2.2.2
theorem Keep.ofExt (E : Ext h h') : Keep h h' ws := (Keep.refl h ws).ext E
theorem safeOs (ow : ∀ x ∈ os, Own Z h0 EL wr vm h x) (q : ∀ x ∈ ws, x ∈ os) : ∀ x ∈ ws, Safe Z EL vm h x := fun x hx => (ow x (q x hx)).1
end Base
/-! decode facts -/
def De (b : ByteArray) (pc : Nat) (i : Instr) (n pc' : Nat) : Prop := decode b pc = .ok (i, n) ∧ pc' = pc + n
def DeJ (b : ByteArray) (pc : Nat) (i : Int → Instr) (pc' pcT : Nat) : Prop := ∃ o : Int, decode b pc = .ok (i o, 3) ∧ pc' = pc + 3 ∧ 0 ≤ (pc : Int) + o ∧ ((pc : Int) + o).toNat = pcT
/-! facts of the heap: an object by its fields, an array by its values -/
abbrev FL : Type := List (String × String × String)
def Obj (Z : State) (h : Heap) (a : Addr) (C : String) (F : FL) (vs : List Value) : Prop := Exa Z h a C ∧ F.length = vs.length ∧ ∀ (i : Nat) (q : String × String × String) (v : Value), F[i]? = some q → vs[i]? = some v → Fld Z h a q.1 q.2.1 q.2.2 v
def Av (Z : State) (h : Heap) (a : Addr) (ty : FieldType) (vs : List Value) : Prop := ∃ (k : ClassId) (z : Int32), Arv Z h a k ty z vs (defaultValue ty) ∧ z.toNatClampNeg = vs.length
def LaidL (Z : State) (a0 : Array Value) (C : String) : FL → Prop
  | [] => True
  | q :: r => (Laid Z a0 C q.1 q.2.1 q.2.2 ∧ ∃ t, parseFieldDescriptor q.2.2 = some t) ∧ LaidL Z a0 C r
section Facts
variable {Z : State} {a0 : Array Value} {h h' : Heap} {a b : Addr} {C : String} {F : FL} {vs : List Value} {ws : List Addr} {ty : FieldType}
theorem LaidL.at {q : String × String × String} : ∀ {F : FL}, LaidL Z a0 C F → q ∈ F → Laid Z a0 C q.1 q.2.1 q.2.2 ∧ ∃ t, parseFieldDescriptor q.2.2 = some t
  | [], _, hq => nomatch hq
  | x :: r, L, hq => by
    rcases List.mem_cons.mp hq with rfl | hq
    · exact L.1
    · exact LaidL.at L.2 hq
theorem Obj.lt (O : Obj Z h a C F vs) : a < h.size := O.1.lt
theorem Obj.keep (O : Obj Z h a C F vs) (K : Keep h h' ws) (q : a ∉ ws) : Obj Z h' a C F vs := ⟨O.1.keep K, O.2.1, fun i p v h1 h2 => (O.2.2 i p v h1 h2).keep K q⟩
theorem Obj.k0 (O : Obj Z h a C F vs) (K : Keep h h' []) : Obj Z h' a C F vs := O.keep K nin0
theorem Obj.k1 (O : Obj Z h a C F vs) (K : Keep h h' [b]) (q : a ≠ b) : Obj Z h' a C F vs := O.keep K (ninS q nin0)
theorem Av.lt (O : Av Z h a ty vs) : a < h.size := by obtain ⟨k, z, A, -⟩ := O; exact A.lt
theorem Av.keep (O : Av Z h a ty vs) (K : Keep h h' ws) (q : a ∉ ws) : Av Z h' a ty vs := by obtain ⟨k, z, A, e⟩ := O; exact ⟨k, z, A.keep K q, e⟩
theorem Av.k0 (O : Av Z h a ty vs) (K : Keep h h' []) : Av Z h' a ty vs := O.keep K nin0
theorem Av.k1 (O : Av Z h a ty vs) (K : Keep h h' [b]) (q : a ≠ b) : Av Z h' a ty vs := O.keep K (ninS q nin0)
theorem Obj.new {A : Exa Z h a C} (D : ∀ {O nm d : String} {ty : FieldType}, Laid Z a0 C O nm d → parseFieldDescriptor d = some ty → Fld Z h a O nm d (defaultValue ty)) (L : LaidL Z a0 C F) (dv : F.map (fun q => (parseFieldDescriptor q.2.2).map defaultValue) = vs.map some) : Obj Z h a C F vs := by
  refine ⟨A, by simpa using congrArg List.length dv, fun i q v h1 h2 => ?_⟩
  obtain ⟨l1, t, l2⟩ := L.at (List.mem_of_getElem? h1)
  have e := congrArg (fun l => l[i]?) dv
  simp only [List.getElem?_map, h1, h2, Option.map_some, l2, Option.some.injEq] at e
  rw [← e]; exact D l1 l2
theorem nodup_ne {α : Type} : ∀ {l : List α} {i j : Nat} {x y : α}, l.Nodup → l[i]? = some x → l[j]? = some y → i ≠ j → x ≠ y := fun {l i j x y} hn h1 h2 hij e => by
  subst e
  obtain ⟨hi, e1⟩ := List.getElem?_eq_some_iff.mp h1
  obtain ⟨hj, e2⟩ := List.getElem?_eq_some_iff.mp h2
  exact hij ((List.getElem_inj hn).mp (e1.trans e2.symm))
theorem Obj.put {q : String × String × String} {v : Value} {i : Nat} (O : Obj Z h a C F vs) (W : Wr h h' a (RoadKit.slotOf Z q.1 q.2.1 q.2.2) v) (hq : F[i]? = some q) (L : LaidL Z a0 C F) (nd : (F.map (fun q => q.2.1)).Nodup) : Obj Z h' a C F (vs.set i v) := by
  refine ⟨O.1.wr W, by simpa using O.2.1, fun j p w h1 h2 => ?_⟩
  obtain ⟨l1, t, l2⟩ := L.at (List.mem_of_getElem? hq)
  obtain ⟨m1, u, m2⟩ := L.at (List.mem_of_getElem? h1)
  have hj : j < vs.length := by rw [← O.2.1]; exact (List.getElem?_eq_some_iff.mp h1).1
  by_cases e : i = j
  · subst e
    rw [hq] at h1; cases h1
    simp [hj] at h2; subst h2
    exact (O.2.2 i q _ hq (List.getElem?_eq_getElem hj)).same W
  · rw [List.getElem?_set_ne e] at h2
    refine (O.2.2 j p w h1 h2).other W (Or.inr ?_)
    have hn : p.2.1 ≠ q.2.1 := nodup_ne nd (i := j) (j := i) (by simp [h1]) (by simp [hq]) (fun z => e z.symm)
    exact slot_ne m1 l1 hn m2 l2
theorem Av.len (V : Av Z h a ty vs) : vs.length < 2147483648 := by
  obtain ⟨k, z, ⟨c, A, r1, r2, r3, H, G⟩, e⟩ := V
  rw [← e]; exact (back32 r3).2
theorem Av.lenI {bs : List Int32} (V : Av Z h a ty (List.map Value.int bs)) : bs.length < 2147483648 := by have := V.len; rwa [List.length_map] at this
theorem Av.new {k : ClassId} {z : Int32} (A : Arr Z h a (newA k ty z) ty) (q : ¬ z < 0) {n : Nat} (hn : z.toNatClampNeg = n) : Av Z h a ty (List.replicate n (defaultValue ty)) :=
  ⟨k, z, by have := (Arv.new A q).pad (pad_rep [] (defaultValue ty) n); simpa using this, by simpa using hn⟩
theorem Av.fit (V : Av Z h a ty vs) {i : Nat} {v : Value} (hv : vs[i]? = some v) : fits ty v = true := by
  obtain ⟨k, z, ⟨c, A, r1, r2, r3, H, G⟩, e⟩ := V
  have hi := (List.getElem?_eq_some_iff.mp hv).1
  have g := G i (by rw [r2, e]; exact hi)
  rw [List.getD_eq_getElem?_getD, hv] at g; exact g
end Facts
/-- a Latin-1 String: its object a, its bytes at t -/
def fStr : FL := [("java/lang/String", "value", "[B"), ("java/lang/String", "coder", "B")]
def Str (Z : State) (h : Heap) (a t : Addr) (bs : List Int32) : Prop := Obj Z h a "java/lang/String" fStr [.ref t, .int 0] ∧ Av Z h t .byte (bs.map .int)
section StrFacts
variable {Z : State} {h h' : Heap} {a t : Addr} {bs : List Int32} {ws : List Addr}
theorem Str.exa (S : Str Z h a t bs) : Exa Z h a "java/lang/String" := S.1.1
theorem Str.lt (S : Str Z h a t bs) : a < h.size := S.1.lt
theorem Str.lt1 (S : Str Z h a t bs) : t < h.size := S.2.lt
theorem Str.keep (S : Str Z h a t bs) (K : Keep h h' ws) (q1 : a ∉ ws) (q2 : t ∉ ws) : Str Z h' a t bs := ⟨S.1.keep K q1, S.2.keep K q2⟩
theorem Str.k0 (S : Str Z h a t bs) (K : Keep h h' []) : Str Z h' a t bs := S.keep K nin0 nin0
theorem Fld.det {Z : State} {h : Heap} {a : Addr} {C n d : String} {v w : Value} (F : Fld Z h a C n d v) (G : Fld Z h a C n d w) : v = w := Decidable.byContradiction fun q => Fld.ne F G q rfl
theorem Av.det {Z : State} {h : Heap} {a : Addr} {ty : FieldType} {vs vs' : List Value} (V : Av Z h a ty vs) (V' : Av Z h a ty vs') : vs = vs' := by
  obtain ⟨k, z, ⟨c, A, r1, r2, r3, H, G⟩, e⟩ := V
  obtain ⟨k', z', ⟨c', A', r1', r2', r3', H', G'⟩, e'⟩ := V'
  cases A.1.symm.trans A'.1
  have hl : vs.length = vs'.length := by rw [← e, ← e', ← r2, ← r2']
  refine List.ext_getElem hl fun i h1 h2 => ?_
  have a1 := H i (by rw [r2, e]; exact h1)
  have a2 := H' i (by rw [r2', e']; exact h2)
  rw [a1] at a2
  simpa [List.getD_eq_getElem?_getD, h1, h2] using a2
theorem map_int_inj {xs ys : List Int32} (q : xs.map Value.int = ys.map Value.int) : xs = ys := (List.map_inj_right (fun _ _ z => Value.int.inj z)).mp q
theorem Str.det {bs' : List Int32} {t' : Addr} (S : Str Z h a t bs) (S' : Str Z h a t' bs') : t = t' ∧ bs = bs' := by
  have e : (Value.ref t) = .ref t' := Fld.det (S.1.2.2 0 _ _ rfl rfl) (S'.1.2.2 0 _ _ rfl rfl)
  cases e
  exact ⟨rfl, map_int_inj (Av.det S.2 S'.2)⟩
end StrFacts
/-- an array of references, whose class's components are C's -/
def Avr (Z : State) (h : Heap) (a : Addr) (C : String) (vs : List Value) : Prop := ∃ (k : ClassId) (z : Int32), Arv Z h a k (.object C) z vs .null ∧ z.toNatClampNeg = vs.length ∧ Ovr Z k C
theorem Avr.av {Z : State} {h : Heap} {a : Addr} {C : String} {vs : List Value} (V : Avr Z h a C vs) : Av Z h a (.object C) vs := by obtain ⟨k, z, A, e, -⟩ := V; exact ⟨k, z, A, e⟩
theorem Avr.lt {Z : State} {h : Heap} {a : Addr} {C : String} {vs : List Value} (V : Avr Z h a C vs) : a < h.size := V.av.lt
theorem Avr.keep {Z : State} {h h' : Heap} {a : Addr} {C : String} {vs : List Value} {ws : List Addr} (V : Avr Z h a C vs) (K : Keep h h' ws) (q : a ∉ ws) : Avr Z h' a C vs := by obtain ⟨k, z, A, e, O⟩ := V; exact ⟨k, z, A.keep K q, e, O⟩
theorem Avr.k0 {Z : State} {h h' : Heap} {a : Addr} {C : String} {vs : List Value} (V : Avr Z h a C vs) (K : Keep h h' []) : Avr Z h' a C vs := V.keep K nin0
theorem cat_ref {v : Value} (q : v.isRef = true) : v.category = 1 := by rcases ref_cases q with rfl | ⟨a, rfl⟩ <;> rfl
theorem catI (x : Int32) : (Value.int x).category = 1 := rfl
theorem catJ (x : Int64) : (Value.long x).category = 2 := rfl
theorem catD (x : UInt64) : (Value.double x).category = 2 := rfl
theorem catR (a : Addr) : (Value.ref a).category = 1 := rfl
theorem catN : (Value.null).category = 1 := rfl
theorem fits_refv {ty : FieldType} {v : Value} (ht : ty.isReference = true) (hv : v.isRef = true) : fits ty v = true := by rcases ref_cases hv with rfl | ⟨a, rfl⟩ <;> cases ty <;> first | rfl | cases ht
theorem nar01 {z : Int32} (q : z = 0 ∨ z = 1) : narrow .boolean (.int z) = .int z ∧ fits .boolean (.int z) = true := by rcases q with rfl | rfl <;> exact ⟨rfl, rfl⟩
/-- a local that holds nothing or one word -/
def Sl (s : Slot) : Prop := s = .unset ∨ ∃ v, s = .val v ∧ v.category = 1
theorem Sl.u : Sl .unset := Or.inl rfl
theorem Sl.val {v : Value} (q : v.category = 1) : Sl (.val v) := Or.inr ⟨v, rfl, q⟩
theorem sto1 {Ls Ls' : Array Slot} {n : Nat} {v : Value} {s : Slot} (hold : Ls[n]? = some s) (hs : Sl s) (hv : v.category = 1) (e : Ls.setIfInBounds n (.val v) = Ls') : storeLocals Ls n v = some Ls' := e ▸ XS.store1 hold hs hv
section Small
theorem nI_int {n : Nat} (q : n < 2147483648) : (Int32.ofNat n).toInt = n := Int32.toInt_ofNat_of_lt q
theorem nI_nat {n : Nat} (q : n < 2147483648) : (Int32.ofNat n).toNatClampNeg = n := by rw [Int32.toNatClampNeg, nI_int q]; rfl
theorem nI_nn {n : Nat} (q : n < 2147483648) : ¬ Int32.ofNat n < 0 := by rw [Int32.lt_iff_toInt_lt, nI_int q]; show ¬ (n : Int) < 0; omega
theorem nI_lt {i n : Nat} (q1 : i < 2147483648) (q2 : n < 2147483648) : Int32.ofNat i < Int32.ofNat n ↔ i < n := by rw [Int32.lt_iff_toInt_lt, nI_int q1, nI_int q2]; omega
theorem nI_eq {i n : Nat} (q1 : i < 2147483648) (q2 : n < 2147483648) : Int32.ofNat i = Int32.ofNat n ↔ i = n := by rw [← Int32.toInt_inj, nI_int q1, nI_int q2]; omega
theorem nI_succ (i : Nat) : Int32.ofNat i + Int32.ofInt 1 = Int32.ofNat (i + 1) := by rw [Int32.ofNat_add]; rfl
theorem nI_nn' {x : Int32} (q : ¬ x < 0) : x = Int32.ofNat x.toNatClampNeg ∧ x.toNatClampNeg < 2147483648 := ⟨(back32 q).1.symm, (back32 q).2⟩
end Small
section Steps
variable {l : Launch} {y : MethodName} {bytes : ByteArray} {maxL : Nat} {ret : Option FieldType} {R : Room} {Z : State} {a0 : Array Value} {EL : List (String × Nat)} {wd : Bool} {wr : List Addr} {h0 : Heap} {Q : QT} {h : Heap} {os : List Addr} {cells slots : Nat} {Ls : Array Slot} {st : List Value}
theorem Go.pure {k : KT} (C : Ctx k l y bytes maxL ret R Z a0 EL wd wr h0 Q) {pc pc' : Nat} {Ls' : Array Slot} {st' : List Value}
    (hs : ∀ {p : Program} {e : Env} {below : List Frame} {T target : State} {m : MethodId} {c : Code}, p.tables.exec = Jvm.exec → c.code = bytes → At T m c below → Steps p.tables e below (T.setTop (mkF m pc' Ls' st')) target → Steps p.tables e below (T.setTop (mkF m pc Ls st)) target)
    (K : Go k h os cells slots pc' Ls' st') : Go k h os cells slots pc Ls st := by
  obtain ⟨p, l', e, R', s, m, args, below, meth, c, Z', EL', wd', wr', Q'⟩ := k
  obtain ⟨-, hx, hc, -⟩ := C
  intro T locs vm X e0 N S w A Kp ow
  exact Fen.of (fun t kt => hs hx hc X.here kt) (K T locs vm X e0 N S w A Kp ow)
theorem Go.iload {k : KT} (C : Ctx k l y bytes maxL ret R Z a0 EL wd wr h0 Q) {pc pc' : Nat} {n : Nat} {x : Int32} (hd : De bytes pc (.iload n) 2 pc') (hl : Ls[n]? = some (.val (.int x))) (K : Go k h os cells slots pc' Ls (.int x :: st)) : Go k h os cells slots pc Ls (st) :=
  Go.pure C (fun hx hc X kt => by obtain ⟨h1, rfl⟩ := hd; exact XS.iload X hx rfl (hb hc h1) hl kt) K
theorem Go.iloadN {k : KT} (C : Ctx k l y bytes maxL ret R Z a0 EL wd wr h0 Q) {pc pc' : Nat} {n : Fin 4} {x : Int32} (hd : De bytes pc (.iload_n n) 1 pc') (hl : Ls[n.val]? = some (.val (.int x))) (K : Go k h os cells slots pc' Ls (.int x :: st)) : Go k h os cells slots pc Ls (st) :=
  Go.pure C (fun hx hc X kt => by obtain ⟨h1, rfl⟩ := hd; exact XS.iloadN X hx rfl (hb hc h1) hl kt) K
theorem Go.lload {k : KT} (C : Ctx k l y bytes maxL ret R Z a0 EL wd wr h0 Q) {pc pc' : Nat} {n : Nat} {x : Int64} (hd : De bytes pc (.lload n) 2 pc') (hl : Ls[n]? = some (.val (.long x))) (K : Go k h os cells slots pc' Ls (.long x :: st)) : Go k h os cells slots pc Ls (st) :=
  Go.pure C (fun hx hc X kt => by obtain ⟨h1, rfl⟩ := hd; exact XS.lload X hx rfl (hb hc h1) hl kt) K
theorem Go.lloadN {k : KT} (C : Ctx k l y bytes maxL ret R Z a0 EL wd wr h0 Q) {pc pc' : Nat} {n : Fin 4} {x : Int64} (hd : De bytes pc (.lload_n n) 1 pc') (hl : Ls[n.val]? = some (.val (.long x))) (K : Go k h os cells slots pc' Ls (.long x :: st)) : Go k h os cells slots pc Ls (st) :=
  Go.pure C (fun hx hc X kt => by obtain ⟨h1, rfl⟩ := hd; exact XS.lloadN X hx rfl (hb hc h1) hl kt) K
theorem Go.aload {k : KT} (C : Ctx k l y bytes maxL ret R Z a0 EL wd wr h0 Q) {pc pc' : Nat} {n : Nat} {v : Value} (hd : De bytes pc (.aload n) 2 pc') (hl : Ls[n]? = some (.val v)) (hv : v.isRef = true) (K : Go k h os cells slots pc' Ls (v :: st)) : Go k h os cells slots pc Ls (st) :=
  Go.pure C (fun hx hc X kt => by obtain ⟨h1, rfl⟩ := hd; exact XS.aload X hx rfl (hb hc h1) hl hv kt) K
theorem Go.aloadN {k : KT} (C : Ctx k l y bytes maxL ret R Z a0 EL wd wr h0 Q) {pc pc' : Nat} {n : Fin 4} {v : Value} (hd : De bytes pc (.aload_n n) 1 pc') (hl : Ls[n.val]? = some (.val v)) (hv : v.isRef = true) (K : Go k h os cells slots pc' Ls (v :: st)) : Go k h os cells slots pc Ls (st) :=
  Go.pure C (fun hx hc X kt => by obtain ⟨h1, rfl⟩ := hd; exact XS.aloadN X hx rfl (hb hc h1) hl hv kt) K
theorem Go.istore {k : KT} (C : Ctx k l y bytes maxL ret R Z a0 EL wd wr h0 Q) {pc pc' : Nat} {n : Nat} {x : Int32} {Ls' : Array Slot} (hd : De bytes pc (.istore n) 2 pc') (hl : storeLocals Ls n (.int x) = some Ls') (K : Go k h os cells slots pc' Ls' (st)) : Go k h os cells slots pc Ls (.int x :: st) :=
  Go.pure C (fun hx hc X kt => by obtain ⟨h1, rfl⟩ := hd; exact XS.istore X hx rfl (hb hc h1) rfl hl kt) K
theorem Go.istoreN {k : KT} (C : Ctx k l y bytes maxL ret R Z a0 EL wd wr h0 Q) {pc pc' : Nat} {n : Fin 4} {x : Int32} {Ls' : Array Slot} (hd : De bytes pc (.istore_n n) 1 pc') (hl : storeLocals Ls n.val (.int x) = some Ls') (K : Go k h os cells slots pc' Ls' (st)) : Go k h os cells slots pc Ls (.int x :: st) :=
  Go.pure C (fun hx hc X kt => by obtain ⟨h1, rfl⟩ := hd; exact XS.istoreN X hx rfl (hb hc h1) rfl hl kt) K
theorem Go.lstore {k : KT} (C : Ctx k l y bytes maxL ret R Z a0 EL wd wr h0 Q) {pc pc' : Nat} {n : Nat} {x : Int64} {Ls' : Array Slot} (hd : De bytes pc (.lstore n) 2 pc') (hl : storeLocals Ls n (.long x) = some Ls') (K : Go k h os cells slots pc' Ls' (st)) : Go k h os cells slots pc Ls (.long x :: st) :=
  Go.pure C (fun hx hc X kt => by obtain ⟨h1, rfl⟩ := hd; exact XS.lstore X hx rfl (hb hc h1) rfl hl kt) K
theorem Go.lstoreN {k : KT} (C : Ctx k l y bytes maxL ret R Z a0 EL wd wr h0 Q) {pc pc' : Nat} {n : Fin 4} {x : Int64} {Ls' : Array Slot} (hd : De bytes pc (.lstore_n n) 1 pc') (hl : storeLocals Ls n.val (.long x) = some Ls') (K : Go k h os cells slots pc' Ls' (st)) : Go k h os cells slots pc Ls (.long x :: st) :=
  Go.pure C (fun hx hc X kt => by obtain ⟨h1, rfl⟩ := hd; exact XS.lstoreN X hx rfl (hb hc h1) rfl hl kt) K
theorem Go.astore {k : KT} (C : Ctx k l y bytes maxL ret R Z a0 EL wd wr h0 Q) {pc pc' : Nat} {n : Nat} {v : Value} {Ls' : Array Slot} (hd : De bytes pc (.astore n) 2 pc') (hv : v.isRef = true) (hl : storeLocals Ls n v = some Ls') (K : Go k h os cells slots pc' Ls' (st)) : Go k h os cells slots pc Ls (v :: st) :=
  Go.pure C (fun hx hc X kt => by obtain ⟨h1, rfl⟩ := hd; exact XS.astore X hx rfl (hb hc h1) rfl hv hl kt) K
theorem Go.astoreN {k : KT} (C : Ctx k l y bytes maxL ret R Z a0 EL wd wr h0 Q) {pc pc' : Nat} {n : Fin 4} {v : Value} {Ls' : Array Slot} (hd : De bytes pc (.astore_n n) 1 pc') (hv : v.isRef = true) (hl : storeLocals Ls n.val v = some Ls') (K : Go k h os cells slots pc' Ls' (st)) : Go k h os cells slots pc Ls (v :: st) :=
  Go.pure C (fun hx hc X kt => by obtain ⟨h1, rfl⟩ := hd; exact XS.astoreN X hx rfl (hb hc h1) rfl hv hl kt) K
theorem Go.iinc {k : KT} (C : Ctx k l y bytes maxL ret R Z a0 EL wd wr h0 Q) {pc pc' : Nat} {n : Nat} {cst : Int} {x : Int32} (x' : Int32) {Ls' : Array Slot} (hd : De bytes pc (.iinc n cst) 3 pc') (hl : Ls[n]? = some (.val (.int x))) (hx' : x + Int32.ofInt cst = x') (hl' : storeLocals Ls n (.int x') = some Ls') (K : Go k h os cells slots pc' Ls' (st)) : Go k h os cells slots pc Ls (st) :=
  Go.pure C (fun hx hc X kt => by obtain ⟨h1, rfl⟩ := hd; exact XS.iinc X hx rfl (hb hc h1) hl (by rw [hx']; exact hl') kt) K
theorem Go.iconst {k : KT} (C : Ctx k l y bytes maxL ret R Z a0 EL wd wr h0 Q) {pc pc' : Nat} {i : Int} (v : Int32) (hd : De bytes pc (.iconst i) 1 pc') (hv : Int32.ofInt i = v) (K : Go k h os cells slots pc' Ls (.int v :: st)) : Go k h os cells slots pc Ls (st) :=
  Go.pure C (fun hx hc X kt => by obtain ⟨h1, rfl⟩ := hd; exact XS.iconst X hx rfl (hb hc h1) (by rw [hv]; exact kt)) K
theorem Go.bipush {k : KT} (C : Ctx k l y bytes maxL ret R Z a0 EL wd wr h0 Q) {pc pc' : Nat} {i : Int} (v : Int32) (hd : De bytes pc (.bipush i) 2 pc') (hv : (Int8.ofInt i).toInt32 = v) (K : Go k h os cells slots pc' Ls (.int v :: st)) : Go k h os cells slots pc Ls (st) :=
  Go.pure C (fun hx hc X kt => by obtain ⟨h1, rfl⟩ := hd; exact XS.bipush X hx rfl (hb hc h1) (by rw [hv]; exact kt)) K
theorem Go.sipush {k : KT} (C : Ctx k l y bytes maxL ret R Z a0 EL wd wr h0 Q) {pc pc' : Nat} {i : Int} (v : Int32) (hd : De bytes pc (.sipush i) 3 pc') (hv : (Int16.ofInt i).toInt32 = v) (K : Go k h os cells slots pc' Ls (.int v :: st)) : Go k h os cells slots pc Ls (st) :=
  Go.pure C (fun hx hc X kt => by obtain ⟨h1, rfl⟩ := hd; exact XS.sipush X hx rfl (hb hc h1) (by rw [hv]; exact kt)) K
theorem Go.lconst {k : KT} (C : Ctx k l y bytes maxL ret R Z a0 EL wd wr h0 Q) {pc pc' : Nat} {i : Fin 2} (v : Int64) (hd : De bytes pc (.lconst i) 1 pc') (hv : Int64.ofNat i = v) (K : Go k h os cells slots pc' Ls (.long v :: st)) : Go k h os cells slots pc Ls (st) :=
  Go.pure C (fun hx hc X kt => by obtain ⟨h1, rfl⟩ := hd; exact XS.lconst X hx rfl (hb hc h1) (by rw [hv]; exact kt)) K
theorem Go.aconstNull {k : KT} (C : Ctx k l y bytes maxL ret R Z a0 EL wd wr h0 Q) {pc pc' : Nat}  (hd : De bytes pc (.aconst_null) 1 pc') (K : Go k h os cells slots pc' Ls (.null :: st)) : Go k h os cells slots pc Ls (st) :=
  Go.pure C (fun hx hc X kt => by obtain ⟨h1, rfl⟩ := hd; exact XS.aconstNull X hx rfl (hb hc h1) kt) K
theorem Go.iadd {k : KT} (C : Ctx k l y bytes maxL ret R Z a0 EL wd wr h0 Q) {pc pc' : Nat} {x y' : Int32} (hd : De bytes pc (.iadd) 1 pc') (K : Go k h os cells slots pc' Ls (.int (x + y') :: st)) : Go k h os cells slots pc Ls (.int y' :: .int x :: st) :=
  Go.pure C (fun hx hc X kt => by obtain ⟨h1, rfl⟩ := hd; exact XS.iadd X hx rfl (hb hc h1) rfl kt) K
theorem Go.isub {k : KT} (C : Ctx k l y bytes maxL ret R Z a0 EL wd wr h0 Q) {pc pc' : Nat} {x y' : Int32} (hd : De bytes pc (.isub) 1 pc') (K : Go k h os cells slots pc' Ls (.int (x - y') :: st)) : Go k h os cells slots pc Ls (.int y' :: .int x :: st) :=
  Go.pure C (fun hx hc X kt => by obtain ⟨h1, rfl⟩ := hd; exact XS.isub X hx rfl (hb hc h1) rfl kt) K
theorem Go.imul {k : KT} (C : Ctx k l y bytes maxL ret R Z a0 EL wd wr h0 Q) {pc pc' : Nat} {x y' : Int32} (hd : De bytes pc (.imul) 1 pc') (K : Go k h os cells slots pc' Ls (.int (x * y') :: st)) : Go k h os cells slots pc Ls (.int y' :: .int x :: st) :=
  Go.pure C (fun hx hc X kt => by obtain ⟨h1, rfl⟩ := hd; exact XS.imul X hx rfl (hb hc h1) rfl kt) K
theorem Go.iand {k : KT} (C : Ctx k l y bytes maxL ret R Z a0 EL wd wr h0 Q) {pc pc' : Nat} {x y' : Int32} (hd : De bytes pc (.iand) 1 pc') (K : Go k h os cells slots pc' Ls (.int (x &&& y') :: st)) : Go k h os cells slots pc Ls (.int y' :: .int x :: st) :=
  Go.pure C (fun hx hc X kt => by obtain ⟨h1, rfl⟩ := hd; exact XS.iand X hx rfl (hb hc h1) rfl kt) K
theorem Go.ior {k : KT} (C : Ctx k l y bytes maxL ret R Z a0 EL wd wr h0 Q) {pc pc' : Nat} {x y' : Int32} (hd : De bytes pc (.ior) 1 pc') (K : Go k h os cells slots pc' Ls (.int (x ||| y') :: st)) : Go k h os cells slots pc Ls (.int y' :: .int x :: st) :=
  Go.pure C (fun hx hc X kt => by obtain ⟨h1, rfl⟩ := hd; exact XS.ior X hx rfl (hb hc h1) rfl kt) K
theorem Go.ixor {k : KT} (C : Ctx k l y bytes maxL ret R Z a0 EL wd wr h0 Q) {pc pc' : Nat} {x y' : Int32} (hd : De bytes pc (.ixor) 1 pc') (K : Go k h os cells slots pc' Ls (.int (x ^^^ y') :: st)) : Go k h os cells slots pc Ls (.int y' :: .int x :: st) :=
  Go.pure C (fun hx hc X kt => by obtain ⟨h1, rfl⟩ := hd; exact XS.ixor X hx rfl (hb hc h1) rfl kt) K
theorem Go.ishl {k : KT} (C : Ctx k l y bytes maxL ret R Z a0 EL wd wr h0 Q) {pc pc' : Nat} {x y' : Int32} (hd : De bytes pc (.ishl) 1 pc') (K : Go k h os cells slots pc' Ls (.int (x <<< (y' &&& 31)) :: st)) : Go k h os cells slots pc Ls (.int y' :: .int x :: st) :=
  Go.pure C (fun hx hc X kt => by obtain ⟨h1, rfl⟩ := hd; exact XS.ishl X hx rfl (hb hc h1) rfl kt) K
theorem Go.ishr {k : KT} (C : Ctx k l y bytes maxL ret R Z a0 EL wd wr h0 Q) {pc pc' : Nat} {x y' : Int32} (hd : De bytes pc (.ishr) 1 pc') (K : Go k h os cells slots pc' Ls (.int (x >>> (y' &&& 31)) :: st)) : Go k h os cells slots pc Ls (.int y' :: .int x :: st) :=
  Go.pure C (fun hx hc X kt => by obtain ⟨h1, rfl⟩ := hd; exact XS.ishr X hx rfl (hb hc h1) rfl kt) K
theorem Go.iushr {k : KT} (C : Ctx k l y bytes maxL ret R Z a0 EL wd wr h0 Q) {pc pc' : Nat} {x y' : Int32} (hd : De bytes pc (.iushr) 1 pc') (K : Go k h os cells slots pc' Ls (.int ((x.toUInt32 >>> (y' &&& 31).toUInt32).toInt32) :: st)) : Go k h os cells slots pc Ls (.int y' :: .int x :: st) :=
  Go.pure C (fun hx hc X kt => by obtain ⟨h1, rfl⟩ := hd; exact XS.iushr X hx rfl (hb hc h1) rfl kt) K
theorem Go.ladd {k : KT} (C : Ctx k l y bytes maxL ret R Z a0 EL wd wr h0 Q) {pc pc' : Nat} {x y' : Int64} (hd : De bytes pc (.ladd) 1 pc') (K : Go k h os cells slots pc' Ls (.long (x + y') :: st)) : Go k h os cells slots pc Ls (.long y' :: .long x :: st) :=
  Go.pure C (fun hx hc X kt => by obtain ⟨h1, rfl⟩ := hd; exact XS.ladd X hx rfl (hb hc h1) rfl kt) K
theorem Go.lsub {k : KT} (C : Ctx k l y bytes maxL ret R Z a0 EL wd wr h0 Q) {pc pc' : Nat} {x y' : Int64} (hd : De bytes pc (.lsub) 1 pc') (K : Go k h os cells slots pc' Ls (.long (x - y') :: st)) : Go k h os cells slots pc Ls (.long y' :: .long x :: st) :=
  Go.pure C (fun hx hc X kt => by obtain ⟨h1, rfl⟩ := hd; exact XS.lsub X hx rfl (hb hc h1) rfl kt) K
theorem Go.lmul {k : KT} (C : Ctx k l y bytes maxL ret R Z a0 EL wd wr h0 Q) {pc pc' : Nat} {x y' : Int64} (hd : De bytes pc (.lmul) 1 pc') (K : Go k h os cells slots pc' Ls (.long (x * y') :: st)) : Go k h os cells slots pc Ls (.long y' :: .long x :: st) :=
  Go.pure C (fun hx hc X kt => by obtain ⟨h1, rfl⟩ := hd; exact XS.lmul X hx rfl (hb hc h1) rfl kt) K
theorem Go.land {k : KT} (C : Ctx k l y bytes maxL ret R Z a0 EL wd wr h0 Q) {pc pc' : Nat} {x y' : Int64} (hd : De bytes pc (.land) 1 pc') (K : Go k h os cells slots pc' Ls (.long (x &&& y') :: st)) : Go k h os cells slots pc Ls (.long y' :: .long x :: st) :=
  Go.pure C (fun hx hc X kt => by obtain ⟨h1, rfl⟩ := hd; exact XS.land X hx rfl (hb hc h1) rfl kt) K
theorem Go.lor {k : KT} (C : Ctx k l y bytes maxL ret R Z a0 EL wd wr h0 Q) {pc pc' : Nat} {x y' : Int64} (hd : De bytes pc (.lor) 1 pc') (K : Go k h os cells slots pc' Ls (.long (x ||| y') :: st)) : Go k h os cells slots pc Ls (.long y' :: .long x :: st) :=
  Go.pure C (fun hx hc X kt => by obtain ⟨h1, rfl⟩ := hd; exact XS.lor X hx rfl (hb hc h1) rfl kt) K
theorem Go.lxor {k : KT} (C : Ctx k l y bytes maxL ret R Z a0 EL wd wr h0 Q) {pc pc' : Nat} {x y' : Int64} (hd : De bytes pc (.lxor) 1 pc') (K : Go k h os cells slots pc' Ls (.long (x ^^^ y') :: st)) : Go k h os cells slots pc Ls (.long y' :: .long x :: st) :=
  Go.pure C (fun hx hc X kt => by obtain ⟨h1, rfl⟩ := hd; exact XS.lxor X hx rfl (hb hc h1) rfl kt) K
theorem Go.lshl {k : KT} (C : Ctx k l y bytes maxL ret R Z a0 EL wd wr h0 Q) {pc pc' : Nat} {x : Int64} {y' : Int32} (hd : De bytes pc (.lshl) 1 pc') (K : Go k h os cells slots pc' Ls (.long (x <<< (y' &&& 0x3f).toInt64) :: st)) : Go k h os cells slots pc Ls (.int y' :: .long x :: st) :=
  Go.pure C (fun hx hc X kt => by obtain ⟨h1, rfl⟩ := hd; exact XS.lshl X hx rfl (hb hc h1) rfl kt) K
theorem Go.lshr {k : KT} (C : Ctx k l y bytes maxL ret R Z a0 EL wd wr h0 Q) {pc pc' : Nat} {x : Int64} {y' : Int32} (hd : De bytes pc (.lshr) 1 pc') (K : Go k h os cells slots pc' Ls (.long (x >>> (y' &&& 0x3f).toInt64) :: st)) : Go k h os cells slots pc Ls (.int y' :: .long x :: st) :=
  Go.pure C (fun hx hc X kt => by obtain ⟨h1, rfl⟩ := hd; exact XS.lshr X hx rfl (hb hc h1) rfl kt) K
theorem Go.lushr {k : KT} (C : Ctx k l y bytes maxL ret R Z a0 EL wd wr h0 Q) {pc pc' : Nat} {x : Int64} {y' : Int32} (hd : De bytes pc (.lushr) 1 pc') (K : Go k h os cells slots pc' Ls (.long ((x.toUInt64 >>> (y' &&& 0x3f).toInt64.toUInt64).toInt64) :: st)) : Go k h os cells slots pc Ls (.int y' :: .long x :: st) :=
  Go.pure C (fun hx hc X kt => by obtain ⟨h1, rfl⟩ := hd; exact XS.lushr X hx rfl (hb hc h1) rfl kt) K
theorem Go.idiv {k : KT} (C : Ctx k l y bytes maxL ret R Z a0 EL wd wr h0 Q) {pc pc' : Nat} {x y' : Int32} (hd : De bytes pc (.idiv) 1 pc') (hy : y' ≠ 0) (K : Go k h os cells slots pc' Ls (.int (x / y') :: st)) : Go k h os cells slots pc Ls (.int y' :: .int x :: st) :=
  Go.pure C (fun hx hc X kt => by obtain ⟨h1, rfl⟩ := hd; exact XS.idiv X hx rfl (hb hc h1) rfl hy kt) K
theorem Go.irem {k : KT} (C : Ctx k l y bytes maxL ret R Z a0 EL wd wr h0 Q) {pc pc' : Nat} {x y' : Int32} (hd : De bytes pc (.irem) 1 pc') (hy : y' ≠ 0) (K : Go k h os cells slots pc' Ls (.int (x % y') :: st)) : Go k h os cells slots pc Ls (.int y' :: .int x :: st) :=
  Go.pure C (fun hx hc X kt => by obtain ⟨h1, rfl⟩ := hd; exact XS.irem X hx rfl (hb hc h1) rfl hy (by rw [irem_eq_mod x y']; exact kt)) K
theorem Go.ldiv {k : KT} (C : Ctx k l y bytes maxL ret R Z a0 EL wd wr h0 Q) {pc pc' : Nat} {x y' : Int64} (hd : De bytes pc (.ldiv) 1 pc') (hy : y' ≠ 0) (K : Go k h os cells slots pc' Ls (.long (x / y') :: st)) : Go k h os cells slots pc Ls (.long y' :: .long x :: st) :=
  Go.pure C (fun hx hc X kt => by obtain ⟨h1, rfl⟩ := hd; exact XS.ldiv X hx rfl (hb hc h1) rfl hy kt) K
theorem Go.lcmp {k : KT} (C : Ctx k l y bytes maxL ret R Z a0 EL wd wr h0 Q) {pc pc' : Nat} {x y' : Int64} (hd : De bytes pc (.lcmp) 1 pc') (K : Go k h os cells slots pc' Ls (.int (lcmpW x y') :: st)) : Go k h os cells slots pc Ls (.long y' :: .long x :: st) :=
  Go.pure C (fun hx hc X kt => by obtain ⟨h1, rfl⟩ := hd; exact XS.lcmp X hx rfl (hb hc h1) rfl kt) K
theorem Go.ineg {k : KT} (C : Ctx k l y bytes maxL ret R Z a0 EL wd wr h0 Q) {pc pc' : Nat} {x : Int32} (hd : De bytes pc (.ineg) 1 pc') (K : Go k h os cells slots pc' Ls (.int (-x) :: st)) : Go k h os cells slots pc Ls (.int x :: st) :=
  Go.pure C (fun hx hc X kt => by obtain ⟨h1, rfl⟩ := hd; exact XS.ineg X hx rfl (hb hc h1) rfl kt) K
theorem Go.lneg {k : KT} (C : Ctx k l y bytes maxL ret R Z a0 EL wd wr h0 Q) {pc pc' : Nat} {x : Int64} (hd : De bytes pc (.lneg) 1 pc') (K : Go k h os cells slots pc' Ls (.long (-x) :: st)) : Go k h os cells slots pc Ls (.long x :: st) :=
  Go.pure C (fun hx hc X kt => by obtain ⟨h1, rfl⟩ := hd; exact XS.lneg X hx rfl (hb hc h1) rfl kt) K
theorem Go.i2l {k : KT} (C : Ctx k l y bytes maxL ret R Z a0 EL wd wr h0 Q) {pc pc' : Nat} {x : Int32} (hd : De bytes pc (.i2l) 1 pc') (K : Go k h os cells slots pc' Ls (.long (x.toInt64) :: st)) : Go k h os cells slots pc Ls (.int x :: st) :=
  Go.pure C (fun hx hc X kt => by obtain ⟨h1, rfl⟩ := hd; exact XS.i2l X hx rfl (hb hc h1) rfl kt) K
theorem Go.l2i {k : KT} (C : Ctx k l y bytes maxL ret R Z a0 EL wd wr h0 Q) {pc pc' : Nat} {x : Int64} (hd : De bytes pc (.l2i) 1 pc') (K : Go k h os cells slots pc' Ls (.int (x.toInt32) :: st)) : Go k h os cells slots pc Ls (.long x :: st) :=
  Go.pure C (fun hx hc X kt => by obtain ⟨h1, rfl⟩ := hd; exact XS.l2i X hx rfl (hb hc h1) rfl kt) K
theorem Go.i2b {k : KT} (C : Ctx k l y bytes maxL ret R Z a0 EL wd wr h0 Q) {pc pc' : Nat} {x : Int32} (hd : De bytes pc (.i2b) 1 pc') (K : Go k h os cells slots pc' Ls (.int (x.toInt8.toInt32) :: st)) : Go k h os cells slots pc Ls (.int x :: st) :=
  Go.pure C (fun hx hc X kt => by obtain ⟨h1, rfl⟩ := hd; exact XS.i2b X hx rfl (hb hc h1) rfl kt) K
theorem Go.i2s {k : KT} (C : Ctx k l y bytes maxL ret R Z a0 EL wd wr h0 Q) {pc pc' : Nat} {x : Int32} (hd : De bytes pc (.i2s) 1 pc') (K : Go k h os cells slots pc' Ls (.int (x.toInt16.toInt32) :: st)) : Go k h os cells slots pc Ls (.int x :: st) :=
  Go.pure C (fun hx hc X kt => by obtain ⟨h1, rfl⟩ := hd; exact XS.i2s X hx rfl (hb hc h1) rfl kt) K
theorem Go.i2c {k : KT} (C : Ctx k l y bytes maxL ret R Z a0 EL wd wr h0 Q) {pc pc' : Nat} {x : Int32} (hd : De bytes pc (.i2c) 1 pc') (K : Go k h os cells slots pc' Ls (.int (x.toUInt32.toUInt16.toUInt32.toInt32) :: st)) : Go k h os cells slots pc Ls (.int x :: st) :=
  Go.pure C (fun hx hc X kt => by obtain ⟨h1, rfl⟩ := hd; exact XS.i2c X hx rfl (hb hc h1) rfl kt) K
theorem Go.dup {k : KT} (C : Ctx k l y bytes maxL ret R Z a0 EL wd wr h0 Q) {pc pc' : Nat} {v : Value} (hd : De bytes pc (.dup) 1 pc') (hv : v.category = 1) (K : Go k h os cells slots pc' Ls (v :: v :: st)) : Go k h os cells slots pc Ls (v :: st) :=
  Go.pure C (fun hx hc X kt => by obtain ⟨h1, rfl⟩ := hd; exact XS.dup X hx rfl (hb hc h1) rfl hv kt) K
theorem Go.pop {k : KT} (C : Ctx k l y bytes maxL ret R Z a0 EL wd wr h0 Q) {pc pc' : Nat} {v : Value} (hd : De bytes pc (.pop) 1 pc') (hv : v.category = 1) (K : Go k h os cells slots pc' Ls (st)) : Go k h os cells slots pc Ls (v :: st) :=
  Go.pure C (fun hx hc X kt => by obtain ⟨h1, rfl⟩ := hd; exact XS.pop X hx rfl (hb hc h1) rfl hv kt) K
theorem Go.dupX1 {k : KT} (C : Ctx k l y bytes maxL ret R Z a0 EL wd wr h0 Q) {pc pc' : Nat} {v w : Value} (hd : De bytes pc (.dup_x1) 1 pc') (hv : v.category = 1) (hw : w.category = 1) (K : Go k h os cells slots pc' Ls (v :: w :: v :: st)) : Go k h os cells slots pc Ls (v :: w :: st) :=
  Go.pure C (fun hx hc X kt => by obtain ⟨h1, rfl⟩ := hd; exact XS.dupX1 X hx rfl (hb hc h1) rfl hv hw kt) K
theorem Go.swap {k : KT} (C : Ctx k l y bytes maxL ret R Z a0 EL wd wr h0 Q) {pc pc' : Nat} {v w : Value} (hd : De bytes pc (.swap) 1 pc') (hv : v.category = 1) (hw : w.category = 1) (K : Go k h os cells slots pc' Ls (w :: v :: st)) : Go k h os cells slots pc Ls (v :: w :: st) :=
  Go.pure C (fun hx hc X kt => by obtain ⟨h1, rfl⟩ := hd; exact XS.swap X hx rfl (hb hc h1) rfl hv hw kt) K
theorem Go.dup2 {k : KT} (C : Ctx k l y bytes maxL ret R Z a0 EL wd wr h0 Q) {pc pc' : Nat} {v w : Value} (hd : De bytes pc (.dup2) 1 pc') (hv : v.category = 1) (hw : w.category = 1) (K : Go k h os cells slots pc' Ls (v :: w :: v :: w :: st)) : Go k h os cells slots pc Ls (v :: w :: st) :=
  Go.pure C (fun hx hc X kt => by obtain ⟨h1, rfl⟩ := hd; exact XT.dup2 X hx rfl (hb hc h1) rfl hv hw kt) K
theorem Go.goto {k : KT} (C : Ctx k l y bytes maxL ret R Z a0 EL wd wr h0 Q) {pc pc' pcT : Nat} (hd : DeJ bytes pc .goto pc' pcT) (K : Go k h os cells slots pcT Ls st) : Go k h os cells slots pc Ls st :=
  Go.pure C (fun hx hc X kt => by obtain ⟨o, h1, -, h2, h3⟩ := hd; exact XS.goto X hx rfl rfl (hb hc h1) h2 h3 kt) K
theorem Go.ifeq {k : KT} (C : Ctx k l y bytes maxL ret R Z a0 EL wd wr h0 Q) {pc pc' pcT : Nat} {x : Int32} (hd : DeJ bytes pc (.ifCond .eq) pc' pcT) (KT : (x = 0) → Go k h os cells slots pcT Ls st) (KF : ¬ (x = 0) → Go k h os cells slots pc' Ls st) : Go k h os cells slots pc Ls (.int x :: st) := by
  obtain ⟨o, h1, rfl, h2, h3⟩ := hd
  by_cases q : (x = 0)
  · exact Go.pure C (fun hx hc X kt => XS.ifYes X hx rfl rfl (hb hc h1) rfl ((if0 _ _).trans (teq q).1) h2 h3 kt) (KT q)
  · exact Go.pure C (fun hx hc X kt => XS.ifNo X hx rfl (hb hc h1) rfl ((if0 _ _).trans (feq q).1) kt) (KF q)
theorem Go.icmpeq {k : KT} (C : Ctx k l y bytes maxL ret R Z a0 EL wd wr h0 Q) {pc pc' pcT : Nat} {x z : Int32} (hd : DeJ bytes pc (.if_icmp .eq) pc' pcT) (KT : (x = z) → Go k h os cells slots pcT Ls st) (KF : ¬ (x = z) → Go k h os cells slots pc' Ls st) : Go k h os cells slots pc Ls (.int z :: .int x :: st) := by
  obtain ⟨o, h1, rfl, h2, h3⟩ := hd
  by_cases q : (x = z)
  · exact Go.pure C (fun hx hc X kt => XS.icmpYes X hx rfl rfl (hb hc h1) rfl (teq q).1 h2 h3 kt) (KT q)
  · exact Go.pure C (fun hx hc X kt => XS.icmpNo X hx rfl (hb hc h1) rfl (feq q).1 kt) (KF q)
theorem Go.ifne {k : KT} (C : Ctx k l y bytes maxL ret R Z a0 EL wd wr h0 Q) {pc pc' pcT : Nat} {x : Int32} (hd : DeJ bytes pc (.ifCond .ne) pc' pcT) (KT : ¬ (x = 0) → Go k h os cells slots pcT Ls st) (KF : (x = 0) → Go k h os cells slots pc' Ls st) : Go k h os cells slots pc Ls (.int x :: st) := by
  obtain ⟨o, h1, rfl, h2, h3⟩ := hd
  by_cases q : ¬ (x = 0)
  · exact Go.pure C (fun hx hc X kt => XS.ifYes X hx rfl rfl (hb hc h1) rfl ((if0 _ _).trans (feq q).2) h2 h3 kt) (KT q)
  · have q := Decidable.not_not.mp q
    exact Go.pure C (fun hx hc X kt => XS.ifNo X hx rfl (hb hc h1) rfl ((if0 _ _).trans (teq q).2) kt) (KF q)
theorem Go.icmpne {k : KT} (C : Ctx k l y bytes maxL ret R Z a0 EL wd wr h0 Q) {pc pc' pcT : Nat} {x z : Int32} (hd : DeJ bytes pc (.if_icmp .ne) pc' pcT) (KT : ¬ (x = z) → Go k h os cells slots pcT Ls st) (KF : (x = z) → Go k h os cells slots pc' Ls st) : Go k h os cells slots pc Ls (.int z :: .int x :: st) := by
  obtain ⟨o, h1, rfl, h2, h3⟩ := hd
  by_cases q : ¬ (x = z)
  · exact Go.pure C (fun hx hc X kt => XS.icmpYes X hx rfl rfl (hb hc h1) rfl (feq q).2 h2 h3 kt) (KT q)
  · have q := Decidable.not_not.mp q
    exact Go.pure C (fun hx hc X kt => XS.icmpNo X hx rfl (hb hc h1) rfl (teq q).2 kt) (KF q)
theorem Go.iflt {k : KT} (C : Ctx k l y bytes maxL ret R Z a0 EL wd wr h0 Q) {pc pc' pcT : Nat} {x : Int32} (hd : DeJ bytes pc (.ifCond .lt) pc' pcT) (KT : (x < 0) → Go k h os cells slots pcT Ls st) (KF : ¬ (x < 0) → Go k h os cells slots pc' Ls st) : Go k h os cells slots pc Ls (.int x :: st) := by
  obtain ⟨o, h1, rfl, h2, h3⟩ := hd
  by_cases q : (x < 0)
  · exact Go.pure C (fun hx hc X kt => XS.ifYes X hx rfl rfl (hb hc h1) rfl ((if0 _ _).trans (tlt q).1) h2 h3 kt) (KT q)
  · exact Go.pure C (fun hx hc X kt => XS.ifNo X hx rfl (hb hc h1) rfl ((if0 _ _).trans (flt q).1) kt) (KF q)
theorem Go.icmplt {k : KT} (C : Ctx k l y bytes maxL ret R Z a0 EL wd wr h0 Q) {pc pc' pcT : Nat} {x z : Int32} (hd : DeJ bytes pc (.if_icmp .lt) pc' pcT) (KT : (x < z) → Go k h os cells slots pcT Ls st) (KF : ¬ (x < z) → Go k h os cells slots pc' Ls st) : Go k h os cells slots pc Ls (.int z :: .int x :: st) := by
  obtain ⟨o, h1, rfl, h2, h3⟩ := hd
  by_cases q : (x < z)
  · exact Go.pure C (fun hx hc X kt => XS.icmpYes X hx rfl rfl (hb hc h1) rfl (tlt q).1 h2 h3 kt) (KT q)
  · exact Go.pure C (fun hx hc X kt => XS.icmpNo X hx rfl (hb hc h1) rfl (flt q).1 kt) (KF q)
theorem Go.ifge {k : KT} (C : Ctx k l y bytes maxL ret R Z a0 EL wd wr h0 Q) {pc pc' pcT : Nat} {x : Int32} (hd : DeJ bytes pc (.ifCond .ge) pc' pcT) (KT : ¬ (x < 0) → Go k h os cells slots pcT Ls st) (KF : (x < 0) → Go k h os cells slots pc' Ls st) : Go k h os cells slots pc Ls (.int x :: st) := by
  obtain ⟨o, h1, rfl, h2, h3⟩ := hd
  by_cases q : ¬ (x < 0)
  · exact Go.pure C (fun hx hc X kt => XS.ifYes X hx rfl rfl (hb hc h1) rfl ((if0 _ _).trans (flt q).2.1) h2 h3 kt) (KT q)
  · have q := Decidable.not_not.mp q
    exact Go.pure C (fun hx hc X kt => XS.ifNo X hx rfl (hb hc h1) rfl ((if0 _ _).trans (tlt q).2.1) kt) (KF q)
theorem Go.icmpge {k : KT} (C : Ctx k l y bytes maxL ret R Z a0 EL wd wr h0 Q) {pc pc' pcT : Nat} {x z : Int32} (hd : DeJ bytes pc (.if_icmp .ge) pc' pcT) (KT : ¬ (x < z) → Go k h os cells slots pcT Ls st) (KF : (x < z) → Go k h os cells slots pc' Ls st) : Go k h os cells slots pc Ls (.int z :: .int x :: st) := by
  obtain ⟨o, h1, rfl, h2, h3⟩ := hd
  by_cases q : ¬ (x < z)
  · exact Go.pure C (fun hx hc X kt => XS.icmpYes X hx rfl rfl (hb hc h1) rfl (flt q).2.1 h2 h3 kt) (KT q)
  · have q := Decidable.not_not.mp q
    exact Go.pure C (fun hx hc X kt => XS.icmpNo X hx rfl (hb hc h1) rfl (tlt q).2.1 kt) (KF q)
theorem Go.ifgt {k : KT} (C : Ctx k l y bytes maxL ret R Z a0 EL wd wr h0 Q) {pc pc' pcT : Nat} {x : Int32} (hd : DeJ bytes pc (.ifCond .gt) pc' pcT) (KT : (0 < x) → Go k h os cells slots pcT Ls st) (KF : ¬ (0 < x) → Go k h os cells slots pc' Ls st) : Go k h os cells slots pc Ls (.int x :: st) := by
  obtain ⟨o, h1, rfl, h2, h3⟩ := hd
  by_cases q : (0 < x)
  · exact Go.pure C (fun hx hc X kt => XS.ifYes X hx rfl rfl (hb hc h1) rfl ((if0 _ _).trans (tlt q).2.2.1) h2 h3 kt) (KT q)
  · exact Go.pure C (fun hx hc X kt => XS.ifNo X hx rfl (hb hc h1) rfl ((if0 _ _).trans (flt q).2.2.1) kt) (KF q)
theorem Go.icmpgt {k : KT} (C : Ctx k l y bytes maxL ret R Z a0 EL wd wr h0 Q) {pc pc' pcT : Nat} {x z : Int32} (hd : DeJ bytes pc (.if_icmp .gt) pc' pcT) (KT : (z < x) → Go k h os cells slots pcT Ls st) (KF : ¬ (z < x) → Go k h os cells slots pc' Ls st) : Go k h os cells slots pc Ls (.int z :: .int x :: st) := by
  obtain ⟨o, h1, rfl, h2, h3⟩ := hd
  by_cases q : (z < x)
  · exact Go.pure C (fun hx hc X kt => XS.icmpYes X hx rfl rfl (hb hc h1) rfl (tlt q).2.2.1 h2 h3 kt) (KT q)
  · exact Go.pure C (fun hx hc X kt => XS.icmpNo X hx rfl (hb hc h1) rfl (flt q).2.2.1 kt) (KF q)
theorem Go.ifle {k : KT} (C : Ctx k l y bytes maxL ret R Z a0 EL wd wr h0 Q) {pc pc' pcT : Nat} {x : Int32} (hd : DeJ bytes pc (.ifCond .le) pc' pcT) (KT : ¬ (0 < x) → Go k h os cells slots pcT Ls st) (KF : (0 < x) → Go k h os cells slots pc' Ls st) : Go k h os cells slots pc Ls (.int x :: st) := by
  obtain ⟨o, h1, rfl, h2, h3⟩ := hd
  by_cases q : ¬ (0 < x)
  · exact Go.pure C (fun hx hc X kt => XS.ifYes X hx rfl rfl (hb hc h1) rfl ((if0 _ _).trans (flt q).2.2.2) h2 h3 kt) (KT q)
  · have q := Decidable.not_not.mp q
    exact Go.pure C (fun hx hc X kt => XS.ifNo X hx rfl (hb hc h1) rfl ((if0 _ _).trans (tlt q).2.2.2) kt) (KF q)
theorem Go.icmple {k : KT} (C : Ctx k l y bytes maxL ret R Z a0 EL wd wr h0 Q) {pc pc' pcT : Nat} {x z : Int32} (hd : DeJ bytes pc (.if_icmp .le) pc' pcT) (KT : ¬ (z < x) → Go k h os cells slots pcT Ls st) (KF : (z < x) → Go k h os cells slots pc' Ls st) : Go k h os cells slots pc Ls (.int z :: .int x :: st) := by
  obtain ⟨o, h1, rfl, h2, h3⟩ := hd
  by_cases q : ¬ (z < x)
  · exact Go.pure C (fun hx hc X kt => XS.icmpYes X hx rfl rfl (hb hc h1) rfl (flt q).2.2.2 h2 h3 kt) (KT q)
  · have q := Decidable.not_not.mp q
    exact Go.pure C (fun hx hc X kt => XS.icmpNo X hx rfl (hb hc h1) rfl (tlt q).2.2.2 kt) (KF q)
theorem Go.ifnullY {k : KT} (C : Ctx k l y bytes maxL ret R Z a0 EL wd wr h0 Q) {pc pc' pcT : Nat} (hd : DeJ bytes pc .ifnull pc' pcT) (K : Go k h os cells slots pcT Ls st) : Go k h os cells slots pc Ls (.null :: st) :=
  Go.pure C (fun hx hc X kt => by obtain ⟨o, h1, -, h2, h3⟩ := hd; exact XS.ifnullYes X hx rfl rfl (hb hc h1) rfl h2 h3 kt) K
theorem Go.ifnullN {k : KT} (C : Ctx k l y bytes maxL ret R Z a0 EL wd wr h0 Q) {pc pc' pcT : Nat} {b : Addr} (hd : DeJ bytes pc .ifnull pc' pcT) (K : Go k h os cells slots pc' Ls st) : Go k h os cells slots pc Ls (.ref b :: st) :=
  Go.pure C (fun hx hc X kt => by obtain ⟨o, h1, rfl, h2, h3⟩ := hd; exact XS.ifnullNo X hx rfl (hb hc h1) rfl kt) K
theorem Go.ifnonnullY {k : KT} (C : Ctx k l y bytes maxL ret R Z a0 EL wd wr h0 Q) {pc pc' pcT : Nat} {b : Addr} (hd : DeJ bytes pc .ifnonnull pc' pcT) (K : Go k h os cells slots pcT Ls st) : Go k h os cells slots pc Ls (.ref b :: st) :=
  Go.pure C (fun hx hc X kt => by obtain ⟨o, h1, -, h2, h3⟩ := hd; exact XS.ifnonnullYes X hx rfl rfl (hb hc h1) rfl h2 h3 kt) K
theorem Go.ifnonnullN {k : KT} (C : Ctx k l y bytes maxL ret R Z a0 EL wd wr h0 Q) {pc pc' pcT : Nat} (hd : DeJ bytes pc .ifnonnull pc' pcT) (K : Go k h os cells slots pc' Ls st) : Go k h os cells slots pc Ls (.null :: st) :=
  Go.pure C (fun hx hc X kt => by obtain ⟨o, h1, rfl, h2, h3⟩ := hd; exact XS.ifnonnullNo X hx rfl (hb hc h1) rfl kt) K
end Steps
section Heapy
variable {l : Launch} {y : MethodName} {bytes : ByteArray} {maxL : Nat} {ret : Option FieldType} {R : Room} {Z : State} {a0 : Array Value} {EL : List (String × Nat)} {wd : Bool} {wr : List Addr} {h0 : Heap} {Q : QT} {h : Heap} {os : List Addr} {cells slots : Nat} {Ls : Array Slot} {st : List Value}
/-- the run moves on: heap, tables and frame at hand -/
theorem mov {p : Program} {e : Env} {s : State} {m : MethodId} {args : Array Value} {below : List Frame} {meth : Method} {c : Code} {T T' : State} {locs' : List Loc} {vm' : Vm} {h' : Heap} {os' : List Addr} {cells' slots' pc pc' : Nat} {Ls' : Array Slot} {st' : List Value}
    (G : Go ⟨p, l, e, R, s, m, args, below, meth, c, Z, EL, wd, wr, Q⟩ h' os' cells' slots' pc' Ls' st') (X' : Stand p l e R (s.setVm vm') m args below meth c T' locs' cells' slots') (e' : T'.heap = h') (N' : Fr Z.heap.size locs') (S' : s.Since vm' h'.size) (w' : wd = false → s.WarmedH vm')
    (A' : CHr Z EL s.vm s.heap vm' h') (K' : Keep s.heap h' wr) (ow' : ∀ x ∈ os', Own Z s.heap EL wr vm' h' x)
    (stp : ∀ target, Steps p.tables e below (T'.setTop (mkF m pc' Ls' st')) target → Steps p.tables e below (T.setTop (mkF m pc Ls st)) target) : Fen p e below (Done Z EL wd R wr Q s) (T.setTop (mkF m pc Ls st)) :=
  Fen.of stp (G T' locs' vm' X' e' N' S' w' A' K' ow')
theorem ext0 {s : State} {h' : Heap} (E : Ext Z.heap s.heap) (K : Keep s.heap h' wr) (q : ∀ x ∈ wr, Z.heap.size ≤ x) : Ext Z.heap h' :=
  ⟨Nat.le_trans E.1 K.1, fun a c r => K.2.1 a c (E.2 a c r) fun hm => absurd (Array.getElem?_eq_some_iff.mp r).1 (Nat.not_lt.mpr (q a hm))⟩
theorem Go.old {k : KT} (C : Ctx k l y bytes maxL ret R Z a0 EL wd wr h0 Q) {pc : Nat} (K : Ext Z.heap h → Go k h os cells slots pc Ls st) : Go k h os cells slots pc Ls st := by
  obtain ⟨p, l', e, R', s, m, args, below, meth, c, Z', EL', wd', wr', Q'⟩ := k
  have C' := C
  obtain ⟨⟨rfl, rfl, rfl, rfl, rfl, rfl, rfl, rfl⟩, hx, hc, hml, hret, hlk, hnm, hZ, hown, hEL, hE, hwr⟩ := C
  intro T locs vm X e0 N S w A Kp ow
  exact K (ext0 hE Kp hwr) T locs vm X e0 N S w A Kp ow
theorem Go.kept {k : KT} (C : Ctx k l y bytes maxL ret R Z a0 EL wd wr h0 Q) {pc : Nat} (K : Keep h0 h wr → Go k h os cells slots pc Ls st) : Go k h os cells slots pc Ls st := by
  obtain ⟨p, l', e, R', s, m, args, below, meth, c, Z', EL', wd', wr', Q'⟩ := k
  obtain ⟨⟨rfl, rfl, rfl, rfl, rfl, rfl, rfl, rfl⟩, -⟩ := C
  intro T locs vm X e0 N S w A Kp ow
  exact K Kp T locs vm X e0 N S w A Kp ow
/-- fewer owned, more cells -/
theorem Go.less {k : KT} {pc : Nat} {os' : List Addr} (q : ∀ x ∈ os', x ∈ os) (G : Go k h os' cells slots pc Ls st) : Go k h os cells slots pc Ls st := by
  obtain ⟨p, l', e, R', s, m, args, below, meth, c, Z', EL', wd', wr', Q'⟩ := k
  intro T locs vm X e0 N S w A Kp ow
  exact G T locs vm X e0 N S w A Kp fun x hx => ow x (q x hx)
theorem Go.more {k : KT} {pc cells' slots' : Nat} (q1 : cells ≤ cells') (q2 : slots ≤ slots') (G : Go k h os cells' slots' pc Ls st) : Go k h os cells slots pc Ls st := by
  obtain ⟨p, l', e, R', s, m, args, below, meth, c, Z', EL', wd', wr', Q'⟩ := k
  intro T locs vm X e0 N S w A Kp ow
  exact G T locs vm (X.more q1 q2) e0 N S w A Kp ow
theorem ownPush {s : State} {vm : Vm} {h' : Heap} (E0 : Ext Z.heap s.heap) (A : CHr Z EL s.vm s.heap vm h) (Kp : Keep s.heap h wr) (E : Ext h h') (hlt : h.size < h'.size) (ow : ∀ x ∈ os, Own Z s.heap EL wr vm h x) : ∀ x ∈ h.size :: os, Own Z s.heap EL wr vm h' x := fun x hx => by
  rcases List.mem_cons.mp hx with rfl | hx
  · exact ⟨Safe.ext E A.1 (Safe.new (Nat.le_refl _)), Nat.le_trans E0.1 Kp.1, hlt, Or.inr Kp.1⟩
  · exact (ow x hx).chr (CHr.ext E A.1)
theorem Go.new {k : KT} (C : Ctx k l y bytes maxL ret R Z a0 EL wd wr h0 Q) {pc pc' i n : Nat} {Cn : String} {F : FL} {vs : List Value} (w1 : (Cond.classLink y.cls i Cn).before a0 Z = true) (w2 : (Cond.instantiable Cn n).before a0 Z = true) (w3 : (Cond.initialized Cn).before a0 Z = true)
    (LF : LaidL Z a0 Cn F) (dv : F.map (fun q => (parseFieldDescriptor q.2.2).map defaultValue) = vs.map some) (hd : De bytes pc (.new i) 3 pc') (hc : cells + 1 ≤ R.cells) (hl : slots + n ≤ R.slots)
    (K : ∀ (b : Addr) (h' : Heap), b = h.size → Keep h h' [] → Obj Z h' b Cn F vs → Go k h' (b :: os) (cells + 1) (slots + n) pc' Ls (.ref b :: st)) : Go k h os cells slots pc Ls st := by
  obtain ⟨p, l', e, R', s, m, args, below, meth, c, Z', EL', wd', wr', Q'⟩ := k
  obtain ⟨⟨rfl, rfl, rfl, rfl, rfl, rfl, rfl, rfl⟩, hx, hc', hml, hret, hlk, hnm, hZ, hown, hEL, hE, hwr⟩ := C
  obtain ⟨h1, rfl⟩ := hd
  intro T locs vm X e0 N S w A Kp ow
  have hZ' : Z'.Warmed39 (s.setVm vm).vm := State.Warmed39.trans (t := s) hZ S.1
  have hown' : (s.setVm vm).vm.findClass y.cls = some m.cls := (S.1.alike.findClass _ _).trans hown
  obtain ⟨T', h', X', e', E, Ex, D, -, stp⟩ := newO X hx hZ' hown' w1 w2 w3 e0 (g := mkF m pc Ls st) rfl (hb hc' h1) hc hl
  exact mov (K h.size h' rfl (Keep.ofExt E) (Obj.new (A := Ex) D LF dv)) X' e' N (Since.up S E.1) w (A.trans (CHr.ext E A.1)) (Kp.ext E) (ownPush hE A Kp E Ex.lt ow) stp
theorem Go.newarray {k : KT} (C : Ctx k l y bytes maxL ret R Z a0 EL wd wr h0 Q) {pc pc' : Nat} {aty : ArrayType} {z : Int32} (w1 : (Cond.arrayClass (newarray.typeOf aty)).before a0 Z = true) (hd : De bytes pc (.newarray aty) 2 pc') (hz : ¬ z < 0) (n : Nat) (hn : z.toNatClampNeg = n) {cap : Nat} (hcap : n ≤ cap) (hb8 : cap * 8 ≤ 536870912)
    (hc : cells + 1 ≤ R.cells) (hl : slots + cap ≤ R.slots)
    (K : ∀ (b : Addr) (h' : Heap), b = h.size → Keep h h' [] → Av Z h' b (newarray.typeOf aty) (List.replicate n (defaultValue (newarray.typeOf aty))) → Go k h' (b :: os) (cells + 1) (slots + cap) pc' Ls (.ref b :: st)) : Go k h os cells slots pc Ls (.int z :: st) := by
  obtain ⟨p, l', e, R', s, m, args, below, meth, c, Z', EL', wd', wr', Q'⟩ := k
  obtain ⟨⟨rfl, rfl, rfl, rfl, rfl, rfl, rfl, rfl⟩, hx, hc', hml, hret, hlk, hnm, hZ, hown, hEL, hE, hwr⟩ := C
  obtain ⟨h1, rfl⟩ := hd
  intro T locs vm X e0 N S w A Kp ow
  have hZ' : Z'.Warmed39 (s.setVm vm).vm := State.Warmed39.trans (t := s) hZ S.1
  obtain ⟨T', h', cA, X', e', E, Ar, stp⟩ := newP X hx hZ' w1 e0 (g := mkF m pc Ls (.int z :: st)) rfl (hb hc' h1) rfl hz (cap := cap) (by rw [hn]; exact hcap) hb8 hc hl
  exact mov (K h.size h' rfl (Keep.ofExt E) (Av.new Ar hz hn)) X' e' N (Since.up S E.1) w (A.trans (CHr.ext E A.1)) (Kp.ext E) (ownPush hE A Kp E Ar.lt ow) stp
theorem Go.getF {k : KT} (C : Ctx k l y bytes maxL ret R Z a0 EL wd wr h0 Q) {pc pc' i : Nat} {a : Addr} {Cn R0 host : String} {F : FL} {vs : List Value} {v : Value} {q : String × String × String} (O : Obj Z h a Cn F vs) (j : Nat) (hq : F[j]? = some q) (hv : vs[j]? = some v)
    (w : (Cond.fieldLink y.cls i R0 q.2.1 q.2.2).before a0 Z = true ∨ (Cond.fieldLinkNest y.cls i R0 q.2.1 q.2.2 host).before a0 Z = true) (via : Via Z R0 q.1 q.2.1 q.2.2) (hd : De bytes pc (.getfield i) 3 pc') (K : Go k h os cells slots pc' Ls (v :: st)) : Go k h os cells slots pc Ls (.ref a :: st) := by
  obtain ⟨p, l', e, R', s, m, args, below, meth, c, Z', EL', wd', wr', Q'⟩ := k
  obtain ⟨⟨rfl, rfl, rfl, rfl, rfl, rfl, rfl, rfl⟩, hx, hc', hml, hret, hlk, hnm, hZ, hown, hEL, hE, hwr⟩ := C
  obtain ⟨h1, rfl⟩ := hd
  intro T locs vm X e0 N S w' A Kp ow
  have hZ' : Z'.Warmed39 (s.setVm vm).vm := State.Warmed39.trans (t := s) hZ S.1
  have hown' : (s.setVm vm).vm.findClass y.cls = some m.cls := (S.1.alike.findClass _ _).trans hown
  obtain ⟨T', X', e', stp⟩ := RoadKit.getF X hx hZ' hown' w via e0 (O.2.2 j q v hq hv) (g := mkF m pc Ls (.ref a :: st)) rfl rfl (hb hc' h1)
  exact mov K X' e' N S w' A Kp ow stp
theorem Go.getS {k : KT} (C : Ctx k l y bytes maxL ret R Z a0 EL wd wr h0 Q) {pc pc' i : Nat} {R0 O n d host : String} {v : Value} (F : Sta Z Z.heap O n d v)
    (w : (Cond.fieldLink y.cls i R0 n d).before a0 Z = true ∨ (Cond.fieldLinkNest y.cls i R0 n d host).before a0 Z = true) (via : Via Z R0 O n d) (hd : De bytes pc (.getstatic i) 3 pc') (K : Go k h os cells slots pc' Ls (v :: st)) : Go k h os cells slots pc Ls st := by
  obtain ⟨p, l', e, R', s, m, args, below, meth, c, Z', EL', wd', wr', Q'⟩ := k
  obtain ⟨⟨rfl, rfl, rfl, rfl, rfl, rfl, rfl, rfl⟩, hx, hc', hml, hret, hlk, hnm, hZ, hown, hEL, hE, hwr⟩ := C
  obtain ⟨h1, rfl⟩ := hd
  intro T locs vm X e0 N S w' A Kp ow
  have hZ' : Z'.Warmed39 (s.setVm vm).vm := State.Warmed39.trans (t := s) hZ S.1
  have hown' : (s.setVm vm).vm.findClass y.cls = some m.cls := (S.1.alike.findClass _ _).trans hown
  obtain ⟨T', X', e', stp⟩ := getS2 X hx hZ' hown' w via e0 (F.ext (ext0 hE Kp hwr)) (g := mkF m pc Ls st) rfl (hb hc' h1)
  exact mov K X' e' N S w' A Kp ow stp
theorem Go.putF {k : KT} (C : Ctx k l y bytes maxL ret R Z a0 EL wd wr h0 Q) {pc pc' i kk : Nat} {a : Addr} {Cn R0 : String} {F : FL} {vs vs' : List Value} {v v' : Value} {ty : FieldType} {q : String × String × String} (O : Obj Z h a Cn F vs) (ho : a ∈ os) (j : Nat) (hq : F[j]? = some q)
    (w : (Cond.fieldLink y.cls i R0 q.2.1 q.2.2).before a0 Z = true) (via : Via Z R0 q.1 q.2.1 q.2.2) (Lw : (Cond.lays Cn q.1 q.2.1 q.2.2).before a0 Z = true ∨ ((Cond.laysFinal Cn q.1 q.2.1 q.2.2).before a0 Z = true ∧ y.cls = q.1 ∧ y.name = "<init>")) (wi : (Cond.instantiable Cn kk).before a0 Z = true)
    (LF : LaidL Z a0 Cn F) (nd : (F.map (fun q => q.2.1)).Nodup) (hty : parseFieldDescriptor q.2.2 = some ty) (hn : narrow ty v = v') (hf : fits ty v' = true) (hvs : vs.set j v' = vs') (hd : De bytes pc (.putfield i) 3 pc')
    (K : ∀ h' : Heap, Keep h h' [a] → Obj Z h' a Cn F vs' → Go k h' os cells slots pc' Ls st) : Go k h os cells slots pc Ls (v :: .ref a :: st) := by
  obtain ⟨p, l', e, R', s, m, args, below, meth, c, Z', EL', wd', wr', Q'⟩ := k
  obtain ⟨⟨rfl, rfl, rfl, rfl, rfl, rfl, rfl, rfl⟩, hx, hc', hml, hret, hlk, hnm, hZ, hown, hEL, hE, hwr⟩ := C
  obtain ⟨h1, rfl⟩ := hd
  intro T locs vm X e0 N S w' A Kp ow
  have hZ' : Z'.Warmed39 (s.setVm vm).vm := State.Warmed39.trans (t := s) hZ S.1
  have hown' : (s.setVm vm).vm.findClass y.cls = some m.cls := (S.1.alike.findClass _ _).trans hown
  have hj : j < vs.length := by rw [← O.2.1]; exact (List.getElem?_eq_some_iff.mp hq).1
  obtain ⟨T', h', X', e', W, stp⟩ := putFN X hx hZ' hown' w via e0 (O.2.2 j q _ hq (List.getElem?_eq_getElem hj)) O.1 (Lw.imp id fun z => ⟨z.1, z.2.1, hnm.trans z.2.2⟩) wi hty hn hf (g := mkF m pc Ls (v :: .ref a :: st)) rfl rfl (hb hc' h1)
  have KW := Keep.of_wr W
  have os1 : ∀ x ∈ [a], x ∈ os := fun x hx => by cases List.mem_singleton.mp hx; exact ho
  have Ch := CHr.keep KW (safeOs ow os1) A.1
  subst hvs
  exact mov (K h' KW (O.put W hq LF nd)) X' e' (Fr.snoc X' N (ow a ho).2.1) (Since.up S KW.1) w' (A.trans Ch) (keepOs Kp KW ow os1) (fun x hx => (ow x hx).chr Ch) stp
theorem av_in {a : Addr} {ty : FieldType} {vs : List Value} {c : Cell} {z j : Int32} {i : Nat} (r2 : c.slots.size = z.toNatClampNeg) (e : z.toNatClampNeg = vs.length) (hj : ¬ j < 0) (hi : j.toNatClampNeg = i) (hlt : i < vs.length) : ¬ (j < 0 ∨ c.slots.size ≤ j.toNatClampNeg) := by
  rintro (q | q)
  · exact hj q
  · rw [r2, e, hi] at q; omega
theorem has_at {c : Cell} {vs : List Value} {d : Value} (H : Has c vs d) {i : Nat} {v : Value} (hi : i < c.slots.size) (hv : vs[i]? = some v) : c.slots[i]? = some v := by
  rw [H i hi, List.getD_eq_getElem?_getD, hv]; rfl
theorem Go.arraylength {k : KT} (C : Ctx k l y bytes maxL ret R Z a0 EL wd wr h0 Q) {pc pc' : Nat} {a : Addr} {ty : FieldType} {vs : List Value} (V : Av Z h a ty vs) (v : Int32) (hv : vs.length.toInt32 = v) (hd : De bytes pc .arraylength 1 pc') (K : Go k h os cells slots pc' Ls (.int v :: st)) : Go k h os cells slots pc Ls (.ref a :: st) := by
  obtain ⟨p, l', e, R', s, m, args, below, meth, c, Z', EL', wd', wr', Q'⟩ := k
  obtain ⟨⟨rfl, rfl, rfl, rfl, rfl, rfl, rfl, rfl⟩, hx, hc', hml, hret, hlk, hnm, hZ, hown, hEL, hE, hwr⟩ := C
  obtain ⟨h1, rfl⟩ := hd
  intro T locs vm X e0 N S w' A Kp ow
  have hZ' : Z'.Warmed39 (s.setVm vm).vm := State.Warmed39.trans (t := s) hZ S.1
  obtain ⟨kc, z, ⟨cl, Ar, r1, r2, r3, H, G⟩, ez⟩ := V
  refine Fen.of (fun t kt => X.arraylength hx (by rw [e0]; exact Ar.1) (State.isArrayOf_alike hZ'.alike Ar.2.1) (g := mkF m pc Ls (.ref a :: st)) rfl rfl (hb hc' h1) t ?_) (K T locs vm X e0 N S w' A Kp ow)
  rw [r2, ez, hv]; exact kt
theorem Go.iaload {k : KT} (C : Ctx k l y bytes maxL ret R Z a0 EL wd wr h0 Q) {pc pc' : Nat} {a : Addr} {vs : List Value} {j : Int32} {v : Value} (V : Av Z h a .int vs) (i : Nat) (hj : ¬ j < 0) (hi : j.toNatClampNeg = i) (hv : vs[i]? = some v) (hd : De bytes pc .iaload 1 pc') (K : Go k h os cells slots pc' Ls (v :: st)) : Go k h os cells slots pc Ls (.int j :: .ref a :: st) := by
  obtain ⟨p, l', e, R', s, m, args, below, meth, c, Z', EL', wd', wr', Q'⟩ := k
  obtain ⟨⟨rfl, rfl, rfl, rfl, rfl, rfl, rfl, rfl⟩, hx, hc', hml, hret, hlk, hnm, hZ, hown, hEL, hE, hwr⟩ := C
  obtain ⟨h1, rfl⟩ := hd
  intro T locs vm X e0 N S w' A Kp ow
  have hZ' : Z'.Warmed39 (s.setVm vm).vm := State.Warmed39.trans (t := s) hZ S.1
  obtain ⟨kc, z, ⟨cl, Ar, r1, r2, r3, H, G⟩, ez⟩ := V
  have hlt := (List.getElem?_eq_some_iff.mp hv).1
  refine Fen.of (fun t kt => X.iaload hx (j := j) (v := v) (by rw [e0]; exact Ar.1) (State.isArrayOf_alike hZ'.alike Ar.2.1) Ar.2.2 (av_in (a := a) (ty := .int) (vs := vs) r2 ez hj hi hlt) (by rw [hi]; exact has_at H (by rw [r2, ez]; exact hlt) hv) (g := mkF m pc Ls (.int j :: .ref a :: st)) rfl rfl (hb hc' h1) t kt) (K T locs vm X e0 N S w' A Kp ow)
theorem Go.laload {k : KT} (C : Ctx k l y bytes maxL ret R Z a0 EL wd wr h0 Q) {pc pc' : Nat} {a : Addr} {vs : List Value} {j : Int32} {v : Value} (V : Av Z h a .long vs) (i : Nat) (hj : ¬ j < 0) (hi : j.toNatClampNeg = i) (hv : vs[i]? = some v) (hd : De bytes pc .laload 1 pc') (K : Go k h os cells slots pc' Ls (v :: st)) : Go k h os cells slots pc Ls (.int j :: .ref a :: st) := by
  obtain ⟨p, l', e, R', s, m, args, below, meth, c, Z', EL', wd', wr', Q'⟩ := k
  obtain ⟨⟨rfl, rfl, rfl, rfl, rfl, rfl, rfl, rfl⟩, hx, hc', hml, hret, hlk, hnm, hZ, hown, hEL, hE, hwr⟩ := C
  obtain ⟨h1, rfl⟩ := hd
  intro T locs vm X e0 N S w' A Kp ow
  have hZ' : Z'.Warmed39 (s.setVm vm).vm := State.Warmed39.trans (t := s) hZ S.1
  obtain ⟨kc, z, ⟨cl, Ar, r1, r2, r3, H, G⟩, ez⟩ := V
  have hlt := (List.getElem?_eq_some_iff.mp hv).1
  refine Fen.of (fun t kt => X.laload hx (j := j) (v := v) (by rw [e0]; exact Ar.1) (State.isArrayOf_alike hZ'.alike Ar.2.1) Ar.2.2 (av_in (a := a) (ty := .long) (vs := vs) r2 ez hj hi hlt) (by rw [hi]; exact has_at H (by rw [r2, ez]; exact hlt) hv) (g := mkF m pc Ls (.int j :: .ref a :: st)) rfl rfl (hb hc' h1) t kt) (K T locs vm X e0 N S w' A Kp ow)
theorem Go.caload {k : KT} (C : Ctx k l y bytes maxL ret R Z a0 EL wd wr h0 Q) {pc pc' : Nat} {a : Addr} {vs : List Value} {j : Int32} {v : Value} (V : Av Z h a .char vs) (i : Nat) (hj : ¬ j < 0) (hi : j.toNatClampNeg = i) (hv : vs[i]? = some v) (hd : De bytes pc .caload 1 pc') (K : Go k h os cells slots pc' Ls (v :: st)) : Go k h os cells slots pc Ls (.int j :: .ref a :: st) := by
  obtain ⟨p, l', e, R', s, m, args, below, meth, c, Z', EL', wd', wr', Q'⟩ := k
  obtain ⟨⟨rfl, rfl, rfl, rfl, rfl, rfl, rfl, rfl⟩, hx, hc', hml, hret, hlk, hnm, hZ, hown, hEL, hE, hwr⟩ := C
  obtain ⟨h1, rfl⟩ := hd
  intro T locs vm X e0 N S w' A Kp ow
  have hZ' : Z'.Warmed39 (s.setVm vm).vm := State.Warmed39.trans (t := s) hZ S.1
  obtain ⟨kc, z, ⟨cl, Ar, r1, r2, r3, H, G⟩, ez⟩ := V
  have hlt := (List.getElem?_eq_some_iff.mp hv).1
  refine Fen.of (fun t kt => X.caload hx (j := j) (v := v) (by rw [e0]; exact Ar.1) (State.isArrayOf_alike hZ'.alike Ar.2.1) Ar.2.2 (av_in (a := a) (ty := .char) (vs := vs) r2 ez hj hi hlt) (by rw [hi]; exact has_at H (by rw [r2, ez]; exact hlt) hv) (g := mkF m pc Ls (.int j :: .ref a :: st)) rfl rfl (hb hc' h1) t kt) (K T locs vm X e0 N S w' A Kp ow)
theorem Go.saload {k : KT} (C : Ctx k l y bytes maxL ret R Z a0 EL wd wr h0 Q) {pc pc' : Nat} {a : Addr} {vs : List Value} {j : Int32} {v : Value} (V : Av Z h a .short vs) (i : Nat) (hj : ¬ j < 0) (hi : j.toNatClampNeg = i) (hv : vs[i]? = some v) (hd : De bytes pc .saload 1 pc') (K : Go k h os cells slots pc' Ls (v :: st)) : Go k h os cells slots pc Ls (.int j :: .ref a :: st) := by
  obtain ⟨p, l', e, R', s, m, args, below, meth, c, Z', EL', wd', wr', Q'⟩ := k
  obtain ⟨⟨rfl, rfl, rfl, rfl, rfl, rfl, rfl, rfl⟩, hx, hc', hml, hret, hlk, hnm, hZ, hown, hEL, hE, hwr⟩ := C
  obtain ⟨h1, rfl⟩ := hd
  intro T locs vm X e0 N S w' A Kp ow
  have hZ' : Z'.Warmed39 (s.setVm vm).vm := State.Warmed39.trans (t := s) hZ S.1
  obtain ⟨kc, z, ⟨cl, Ar, r1, r2, r3, H, G⟩, ez⟩ := V
  have hlt := (List.getElem?_eq_some_iff.mp hv).1
  refine Fen.of (fun t kt => X.saload hx (j := j) (v := v) (by rw [e0]; exact Ar.1) (State.isArrayOf_alike hZ'.alike Ar.2.1) Ar.2.2 (av_in (a := a) (ty := .short) (vs := vs) r2 ez hj hi hlt) (by rw [hi]; exact has_at H (by rw [r2, ez]; exact hlt) hv) (g := mkF m pc Ls (.int j :: .ref a :: st)) rfl rfl (hb hc' h1) t kt) (K T locs vm X e0 N S w' A Kp ow)
theorem Go.baload {k : KT} (C : Ctx k l y bytes maxL ret R Z a0 EL wd wr h0 Q) {pc pc' : Nat} {a : Addr} {vs : List Value} {j : Int32} {v : Value} (V : Av Z h a .byte vs) (i : Nat) (hj : ¬ j < 0) (hi : j.toNatClampNeg = i) (hv : vs[i]? = some v) (hd : De bytes pc .baload 1 pc') (K : Go k h os cells slots pc' Ls (v :: st)) : Go k h os cells slots pc Ls (.int j :: .ref a :: st) := by
  obtain ⟨p, l', e, R', s, m, args, below, meth, c, Z', EL', wd', wr', Q'⟩ := k
  obtain ⟨⟨rfl, rfl, rfl, rfl, rfl, rfl, rfl, rfl⟩, hx, hc', hml, hret, hlk, hnm, hZ, hown, hEL, hE, hwr⟩ := C
  obtain ⟨h1, rfl⟩ := hd
  intro T locs vm X e0 N S w' A Kp ow
  have hZ' : Z'.Warmed39 (s.setVm vm).vm := State.Warmed39.trans (t := s) hZ S.1
  obtain ⟨kc, z, ⟨cl, Ar, r1, r2, r3, H, G⟩, ez⟩ := V
  have hlt := (List.getElem?_eq_some_iff.mp hv).1
  refine Fen.of (fun t kt => X.baloadBytes hx (j := j) (v := v) (by rw [e0]; exact Ar.1) (State.isArrayOf_alike hZ'.alike Ar.2.1) Ar.2.2 (av_in (a := a) (ty := .byte) (vs := vs) r2 ez hj hi hlt) (by rw [hi]; exact has_at H (by rw [r2, ez]; exact hlt) hv) (g := mkF m pc Ls (.int j :: .ref a :: st)) rfl rfl (hb hc' h1) t kt) (K T locs vm X e0 N S w' A Kp ow)
theorem Go.aaload {k : KT} (C : Ctx k l y bytes maxL ret R Z a0 EL wd wr h0 Q) {pc pc' : Nat} {a : Addr} {vs : List Value} {j : Int32} {v : Value} {ty : FieldType} (hty : ty.isReference = true) (V : Av Z h a ty vs) (i : Nat) (hj : ¬ j < 0) (hi : j.toNatClampNeg = i) (hv : vs[i]? = some v) (hd : De bytes pc .aaload 1 pc') (K : Go k h os cells slots pc' Ls (v :: st)) : Go k h os cells slots pc Ls (.int j :: .ref a :: st) := by
  obtain ⟨p, l', e, R', s, m, args, below, meth, c, Z', EL', wd', wr', Q'⟩ := k
  obtain ⟨⟨rfl, rfl, rfl, rfl, rfl, rfl, rfl, rfl⟩, hx, hc', hml, hret, hlk, hnm, hZ, hown, hEL, hE, hwr⟩ := C
  obtain ⟨h1, rfl⟩ := hd
  intro T locs vm X e0 N S w' A Kp ow
  have hZ' : Z'.Warmed39 (s.setVm vm).vm := State.Warmed39.trans (t := s) hZ S.1
  obtain ⟨kc, z, ⟨cl, Ar, r1, r2, r3, H, G⟩, ez⟩ := V
  have hlt := (List.getElem?_eq_some_iff.mp hv).1
  refine Fen.of (fun t kt => X.aaload hx (j := j) (v := v) (by rw [e0]; exact Ar.1) (State.isArrayOf_alike hZ'.alike Ar.2.1) hty Ar.2.2 (av_in (a := a) (ty := ty) (vs := vs) r2 ez hj hi hlt) (by rw [hi]; exact has_at H (by rw [r2, ez]; exact hlt) hv) (g := mkF m pc Ls (.int j :: .ref a :: st)) rfl rfl (hb hc' h1) t kt) (K T locs vm X e0 N S w' A Kp ow)
theorem Go.iastore {k : KT} (C : Ctx k l y bytes maxL ret R Z a0 EL wd wr h0 Q) {pc pc' : Nat} {a : Addr} {vs vs' : List Value} {j : Int32} {x : Int32} (V : Av Z h a .int vs) (ho : a ∈ os) (i : Nat) (hj : ¬ j < 0) (hi : j.toNatClampNeg = i) (hlt : i < vs.length) (hvs : vs.set i (.int x) = vs') (hd : De bytes pc .iastore 1 pc')
    (K : ∀ h' : Heap, Keep h h' [a] → Av Z h' a .int vs' → Go k h' os cells slots pc' Ls st) : Go k h os cells slots pc Ls (.int x :: .int j :: .ref a :: st) := by
  obtain ⟨p, l', e, R', s, m, args, below, meth, c, Z', EL', wd', wr', Q'⟩ := k
  obtain ⟨⟨rfl, rfl, rfl, rfl, rfl, rfl, rfl, rfl⟩, hx, hc', hml, hret, hlk, hnm, hZ, hown, hEL, hE, hwr⟩ := C
  obtain ⟨h1, rfl⟩ := hd
  intro T locs vm X e0 N S w' A Kp ow
  have hZ' : Z'.Warmed39 (s.setVm vm).vm := State.Warmed39.trans (t := s) hZ S.1
  obtain ⟨kc, z, ⟨cl, Ar, r1, r2, r3, H, G⟩, ez⟩ := V
  obtain ⟨T', h', X', e', W, stp⟩ := stI X hx hZ' e0 Ar (j := j) (av_in (a := a) (ty := .int) (vs := vs) r2 ez hj hi hlt) (g := mkF m pc Ls (.int x :: .int j :: .ref a :: st)) rfl rfl (hb hc' h1)
  have KW := Keep.of_wr W
  have os1 : ∀ x ∈ [a], x ∈ os := fun x hx => by cases List.mem_singleton.mp hx; exact ho
  have Ch := CHr.keep KW (safeOs ow os1) A.1
  subst hvs
  exact mov (K h' KW ⟨kc, z, Arv.set Ar r1 r2 r3 H G rfl W i hi hlt, by simpa using ez⟩) X' e' (Fr.snoc X' N (ow a ho).2.1) (Since.up S KW.1) w' (A.trans Ch) (keepOs Kp KW ow os1) (fun x hx => (ow x hx).chr Ch) stp
theorem Go.lastore {k : KT} (C : Ctx k l y bytes maxL ret R Z a0 EL wd wr h0 Q) {pc pc' : Nat} {a : Addr} {vs vs' : List Value} {j : Int32} {x : Int64} (V : Av Z h a .long vs) (ho : a ∈ os) (i : Nat) (hj : ¬ j < 0) (hi : j.toNatClampNeg = i) (hlt : i < vs.length) (hvs : vs.set i (.long x) = vs') (hd : De bytes pc .lastore 1 pc')
    (K : ∀ h' : Heap, Keep h h' [a] → Av Z h' a .long vs' → Go k h' os cells slots pc' Ls st) : Go k h os cells slots pc Ls (.long x :: .int j :: .ref a :: st) := by
  obtain ⟨p, l', e, R', s, m, args, below, meth, c, Z', EL', wd', wr', Q'⟩ := k
  obtain ⟨⟨rfl, rfl, rfl, rfl, rfl, rfl, rfl, rfl⟩, hx, hc', hml, hret, hlk, hnm, hZ, hown, hEL, hE, hwr⟩ := C
  obtain ⟨h1, rfl⟩ := hd
  intro T locs vm X e0 N S w' A Kp ow
  have hZ' : Z'.Warmed39 (s.setVm vm).vm := State.Warmed39.trans (t := s) hZ S.1
  obtain ⟨kc, z, ⟨cl, Ar, r1, r2, r3, H, G⟩, ez⟩ := V
  obtain ⟨T', h', X', e', W, stp⟩ := stJ X hx hZ' e0 Ar (j := j) (av_in (a := a) (ty := .long) (vs := vs) r2 ez hj hi hlt) (g := mkF m pc Ls (.long x :: .int j :: .ref a :: st)) rfl rfl (hb hc' h1)
  have KW := Keep.of_wr W
  have os1 : ∀ x ∈ [a], x ∈ os := fun x hx => by cases List.mem_singleton.mp hx; exact ho
  have Ch := CHr.keep KW (safeOs ow os1) A.1
  subst hvs
  exact mov (K h' KW ⟨kc, z, Arv.set Ar r1 r2 r3 H G rfl W i hi hlt, by simpa using ez⟩) X' e' (Fr.snoc X' N (ow a ho).2.1) (Since.up S KW.1) w' (A.trans Ch) (keepOs Kp KW ow os1) (fun x hx => (ow x hx).chr Ch) stp
theorem Go.castore {k : KT} (C : Ctx k l y bytes maxL ret R Z a0 EL wd wr h0 Q) {pc pc' : Nat} {a : Addr} {vs vs' : List Value} {j : Int32} {x x' : Int32} (V : Av Z h a .char vs) (ho : a ∈ os) (i : Nat) (hj : ¬ j < 0) (hi : j.toNatClampNeg = i) (hlt : i < vs.length) (hn : nar .char x = x') (hvs : vs.set i (.int x') = vs') (hd : De bytes pc .castore 1 pc')
    (K : ∀ h' : Heap, Keep h h' [a] → Av Z h' a .char vs' → Go k h' os cells slots pc' Ls st) : Go k h os cells slots pc Ls (.int x :: .int j :: .ref a :: st) := by
  obtain ⟨p, l', e, R', s, m, args, below, meth, c, Z', EL', wd', wr', Q'⟩ := k
  obtain ⟨⟨rfl, rfl, rfl, rfl, rfl, rfl, rfl, rfl⟩, hx, hc', hml, hret, hlk, hnm, hZ, hown, hEL, hE, hwr⟩ := C
  obtain ⟨h1, rfl⟩ := hd
  intro T locs vm X e0 N S w' A Kp ow
  have hZ' : Z'.Warmed39 (s.setVm vm).vm := State.Warmed39.trans (t := s) hZ S.1
  obtain ⟨kc, z, ⟨cl, Ar, r1, r2, r3, H, G⟩, ez⟩ := V
  obtain ⟨T', h', X', e', W, stp⟩ := stC X hx hZ' e0 Ar (j := j) (av_in (a := a) (ty := .char) (vs := vs) r2 ez hj hi hlt) (g := mkF m pc Ls (.int x :: .int j :: .ref a :: st)) rfl rfl (hb hc' h1)
  have KW := Keep.of_wr W
  have os1 : ∀ x ∈ [a], x ∈ os := fun x hx => by cases List.mem_singleton.mp hx; exact ho
  have Ch := CHr.keep KW (safeOs ow os1) A.1
  subst hn
  subst hvs
  exact mov (K h' KW ⟨kc, z, Arv.set Ar r1 r2 r3 H G (fits_nar_char x) W i hi hlt, by simpa using ez⟩) X' e' (Fr.snoc X' N (ow a ho).2.1) (Since.up S KW.1) w' (A.trans Ch) (keepOs Kp KW ow os1) (fun x hx => (ow x hx).chr Ch) stp
theorem Go.sastore {k : KT} (C : Ctx k l y bytes maxL ret R Z a0 EL wd wr h0 Q) {pc pc' : Nat} {a : Addr} {vs vs' : List Value} {j : Int32} {x x' : Int32} (V : Av Z h a .short vs) (ho : a ∈ os) (i : Nat) (hj : ¬ j < 0) (hi : j.toNatClampNeg = i) (hlt : i < vs.length) (hn : nar .short x = x') (hvs : vs.set i (.int x') = vs') (hd : De bytes pc .sastore 1 pc')
    (K : ∀ h' : Heap, Keep h h' [a] → Av Z h' a .short vs' → Go k h' os cells slots pc' Ls st) : Go k h os cells slots pc Ls (.int x :: .int j :: .ref a :: st) := by
  obtain ⟨p, l', e, R', s, m, args, below, meth, c, Z', EL', wd', wr', Q'⟩ := k
  obtain ⟨⟨rfl, rfl, rfl, rfl, rfl, rfl, rfl, rfl⟩, hx, hc', hml, hret, hlk, hnm, hZ, hown, hEL, hE, hwr⟩ := C
  obtain ⟨h1, rfl⟩ := hd
  intro T locs vm X e0 N S w' A Kp ow
  have hZ' : Z'.Warmed39 (s.setVm vm).vm := State.Warmed39.trans (t := s) hZ S.1
  obtain ⟨kc, z, ⟨cl, Ar, r1, r2, r3, H, G⟩, ez⟩ := V
  obtain ⟨T', h', X', e', W, stp⟩ := stS X hx hZ' e0 Ar (j := j) (av_in (a := a) (ty := .short) (vs := vs) r2 ez hj hi hlt) (g := mkF m pc Ls (.int x :: .int j :: .ref a :: st)) rfl rfl (hb hc' h1)
  have KW := Keep.of_wr W
  have os1 : ∀ x ∈ [a], x ∈ os := fun x hx => by cases List.mem_singleton.mp hx; exact ho
  have Ch := CHr.keep KW (safeOs ow os1) A.1
  subst hn
  subst hvs
  exact mov (K h' KW ⟨kc, z, Arv.set Ar r1 r2 r3 H G (fits_nar_short x) W i hi hlt, by simpa using ez⟩) X' e' (Fr.snoc X' N (ow a ho).2.1) (Since.up S KW.1) w' (A.trans Ch) (keepOs Kp KW ow os1) (fun x hx => (ow x hx).chr Ch) stp
theorem Go.bastore {k : KT} (C : Ctx k l y bytes maxL ret R Z a0 EL wd wr h0 Q) {pc pc' : Nat} {a : Addr} {vs vs' : List Value} {j : Int32} {x x' : Int32} (V : Av Z h a .byte vs) (ho : a ∈ os) (i : Nat) (hj : ¬ j < 0) (hi : j.toNatClampNeg = i) (hlt : i < vs.length) (hn : nar .byte x = x') (hvs : vs.set i (.int x') = vs') (hd : De bytes pc .bastore 1 pc')
    (K : ∀ h' : Heap, Keep h h' [a] → Av Z h' a .byte vs' → Go k h' os cells slots pc' Ls st) : Go k h os cells slots pc Ls (.int x :: .int j :: .ref a :: st) := by
  obtain ⟨p, l', e, R', s, m, args, below, meth, c, Z', EL', wd', wr', Q'⟩ := k
  obtain ⟨⟨rfl, rfl, rfl, rfl, rfl, rfl, rfl, rfl⟩, hx, hc', hml, hret, hlk, hnm, hZ, hown, hEL, hE, hwr⟩ := C
  obtain ⟨h1, rfl⟩ := hd
  intro T locs vm X e0 N S w' A Kp ow
  have hZ' : Z'.Warmed39 (s.setVm vm).vm := State.Warmed39.trans (t := s) hZ S.1
  obtain ⟨kc, z, ⟨cl, Ar, r1, r2, r3, H, G⟩, ez⟩ := V
  obtain ⟨T', h', X', e', W, stp⟩ := stB X hx hZ' e0 Ar (j := j) (av_in (a := a) (ty := .byte) (vs := vs) r2 ez hj hi hlt) (g := mkF m pc Ls (.int x :: .int j :: .ref a :: st)) rfl rfl (hb hc' h1)
  have KW := Keep.of_wr W
  have os1 : ∀ x ∈ [a], x ∈ os := fun x hx => by cases List.mem_singleton.mp hx; exact ho
  have Ch := CHr.keep KW (safeOs ow os1) A.1
  subst hn
  subst hvs
  exact mov (K h' KW ⟨kc, z, Arv.set Ar r1 r2 r3 H G (fits_nar_byte x) W i hi hlt, by simpa using ez⟩) X' e' (Fr.snoc X' N (ow a ho).2.1) (Since.up S KW.1) w' (A.trans Ch) (keepOs Kp KW ow os1) (fun x hx => (ow x hx).chr Ch) stp
theorem Go.zastore {k : KT} (C : Ctx k l y bytes maxL ret R Z a0 EL wd wr h0 Q) {pc pc' : Nat} {a : Addr} {vs vs' : List Value} {j : Int32} {x x' : Int32} (V : Av Z h a .boolean vs) (ho : a ∈ os) (i : Nat) (hj : ¬ j < 0) (hi : j.toNatClampNeg = i) (hlt : i < vs.length) (hn : nar .boolean x = x') (hvs : vs.set i (.int x') = vs') (hd : De bytes pc .bastore 1 pc')
    (K : ∀ h' : Heap, Keep h h' [a] → Av Z h' a .boolean vs' → Go k h' os cells slots pc' Ls st) : Go k h os cells slots pc Ls (.int x :: .int j :: .ref a :: st) := by
  obtain ⟨p, l', e, R', s, m, args, below, meth, c, Z', EL', wd', wr', Q'⟩ := k
  obtain ⟨⟨rfl, rfl, rfl, rfl, rfl, rfl, rfl, rfl⟩, hx, hc', hml, hret, hlk, hnm, hZ, hown, hEL, hE, hwr⟩ := C
  obtain ⟨h1, rfl⟩ := hd
  intro T locs vm X e0 N S w' A Kp ow
  have hZ' : Z'.Warmed39 (s.setVm vm).vm := State.Warmed39.trans (t := s) hZ S.1
  obtain ⟨kc, z, ⟨cl, Ar, r1, r2, r3, H, G⟩, ez⟩ := V
  obtain ⟨T', h', X', e', W, stp⟩ := stZ X hx hZ' e0 Ar (j := j) (av_in (a := a) (ty := .boolean) (vs := vs) r2 ez hj hi hlt) (g := mkF m pc Ls (.int x :: .int j :: .ref a :: st)) rfl rfl (hb hc' h1)
  have KW := Keep.of_wr W
  have os1 : ∀ x ∈ [a], x ∈ os := fun x hx => by cases List.mem_singleton.mp hx; exact ho
  have Ch := CHr.keep KW (safeOs ow os1) A.1
  subst hn
  subst hvs
  exact mov (K h' KW ⟨kc, z, Arv.set Ar r1 r2 r3 H G (fits_nar_bool x) W i hi hlt, by simpa using ez⟩) X' e' (Fr.snoc X' N (ow a ho).2.1) (Since.up S KW.1) w' (A.trans Ch) (keepOs Kp KW ow os1) (fun x hx => (ow x hx).chr Ch) stp
theorem Go.anewarray {k : KT} (C : Ctx k l y bytes maxL ret R Z a0 EL wd wr h0 Q) {pc pc' i : Nat} {Cn : String} {z : Int32} (w1 : (Cond.classLink y.cls i Cn).before a0 Z = true) (w2 : (Cond.arrayOver (.object Cn)).before a0 Z = true) (hd : De bytes pc (.anewarray i) 3 pc') (hz : ¬ z < 0) (n : Nat) (hn : z.toNatClampNeg = n) {cap : Nat} (hcap : n ≤ cap) (hb8 : cap * 8 ≤ 536870912)
    (hc : cells + 1 ≤ R.cells) (hl : slots + cap ≤ R.slots)
    (K : ∀ (b : Addr) (h' : Heap), b = h.size → Keep h h' [] → Avr Z h' b Cn (List.replicate n .null) → Go k h' (b :: os) (cells + 1) (slots + cap) pc' Ls (.ref b :: st)) : Go k h os cells slots pc Ls (.int z :: st) := by
  obtain ⟨p, l', e, R', s, m, args, below, meth, c, Z', EL', wd', wr', Q'⟩ := k
  obtain ⟨⟨rfl, rfl, rfl, rfl, rfl, rfl, rfl, rfl⟩, hx, hc', hml, hret, hlk, hnm, hZ, hown, hEL, hE, hwr⟩ := C
  obtain ⟨h1, rfl⟩ := hd
  intro T locs vm X e0 N S w A Kp ow
  have hZ' : Z'.Warmed39 (s.setVm vm).vm := State.Warmed39.trans (t := s) hZ S.1
  have hown' : (s.setVm vm).vm.findClass y.cls = some m.cls := (S.1.alike.findClass _ _).trans hown
  obtain ⟨T', h', cA, X', e', E, Ar, O, stp⟩ := newR X hx hZ' hown' w1 w2 e0 (g := mkF m pc Ls (.int z :: st)) rfl (hb hc' h1) rfl hz (cap := cap) (by rw [hn]; exact hcap) hb8 hc hl
  have V : Avr Z' h' h.size Cn (List.replicate n .null) := ⟨cA, z, by have := (Arv.new Ar hz).pad (pad_rep [] (.null) n); simpa [defaultValue] using this, by simpa using hn, O⟩
  exact mov (K h.size h' rfl (Keep.ofExt E) V) X' e' N (Since.up S E.1) w (A.trans (CHr.ext E A.1)) (Kp.ext E) (ownPush hE A Kp E Ar.lt ow) stp
theorem Go.aastore {k : KT} (C : Ctx k l y bytes maxL ret R Z a0 EL wd wr h0 Q) {pc pc' : Nat} {a b : Addr} {Cn : String} {vs vs' : List Value} {j : Int32} (V : Avr Z h a Cn vs) (ho : a ∈ os) (I : Ins Z h b Cn true) (i : Nat) (hj : ¬ j < 0) (hi : j.toNatClampNeg = i) (hlt : i < vs.length) (hvs : vs.set i (.ref b) = vs') (hd : De bytes pc .aastore 1 pc')
    (K : ∀ h' : Heap, Keep h h' [a] → Avr Z h' a Cn vs' → Go k h' os cells slots pc' Ls st) : Go k h os cells slots pc Ls (.ref b :: .int j :: .ref a :: st) := by
  obtain ⟨p, l', e, R', s, m, args, below, meth, c, Z', EL', wd', wr', Q'⟩ := k
  obtain ⟨⟨rfl, rfl, rfl, rfl, rfl, rfl, rfl, rfl⟩, hx, hc', hml, hret, hlk, hnm, hZ, hown, hEL, hE, hwr⟩ := C
  obtain ⟨h1, rfl⟩ := hd
  intro T locs vm X e0 N S w' A Kp ow
  have hZ' : Z'.Warmed39 (s.setVm vm).vm := State.Warmed39.trans (t := s) hZ S.1
  obtain ⟨kc, z, ⟨cl, Ar, r1, r2, r3, H, G⟩, ez, Ov⟩ := V
  obtain ⟨T', h', X', e', W, stp⟩ := stR X hx hZ' e0 Ar (j := j) (av_in (a := a) (ty := .int) (vs := vs) r2 ez hj hi hlt) rfl (Sto.ofV Ar r1 Ov I) (g := mkF m pc Ls (.ref b :: .int j :: .ref a :: st)) rfl rfl (hb hc' h1)
  have KW := Keep.of_wr W
  have os1 : ∀ x ∈ [a], x ∈ os := fun x hx => by cases List.mem_singleton.mp hx; exact ho
  have Ch := CHr.keep KW (safeOs ow os1) A.1
  subst hvs
  exact mov (K h' KW ⟨kc, z, Arv.set Ar r1 r2 r3 H G rfl W i hi hlt, by simpa using ez, Ov⟩) X' e' (Fr.snoc X' N (ow a ho).2.1) (Since.up S KW.1) w' (A.trans Ch) (keepOs Kp KW ow os1) (fun x hx => (ow x hx).chr Ch) stp
theorem copy_us {vs : List Value} {d : Value} {m n : Nat} (q : m + n ≤ vs.length) : ((List.range n).map fun i => vs.getD (m + i) d) = (vs.drop m).take n := by
  refine List.ext_getElem? fun i => ?_
  by_cases hi : i < n
  · simp [List.getElem?_take, hi, List.getD_eq_getElem?_getD, show m + i < vs.length by omega]
  · simp [List.getElem?_take, hi]
theorem Go.arraycopy {k : KT} (C : Ctx k l y bytes maxL ret R Z a0 EL wd wr h0 Q) {pc pc' i : Nat} {a b : Addr} {ty : FieldType} {vs vd vd' : List Value} {sp dp nn : Int32} (V : Av Z h a ty vs) (U : Av Z h b ty vd) (ho : b ∈ os) (hty : refKind ty = false) (w1 : (Cond.methodLink y.cls i Jvm.Stand.acN).before a0 Z = true) (w2 : (Cond.native Jvm.Stand.acN).before a0 Z = true) (w3 : (Cond.static Jvm.Stand.acN).before a0 Z = true) (w4 : (Cond.initialized "java/lang/System").before a0 Z = true)
    (h1 : ¬ sp < 0) (h2 : ¬ dp < 0) (h3 : ¬ nn < 0) (ms md n : Nat) (e1 : sp.toNatClampNeg = ms) (e2 : dp.toNatClampNeg = md) (e3 : nn.toNatClampNeg = n) (h4 : ms + n ≤ vs.length) (h5 : md + n ≤ vd.length) (hvd : vd.take md ++ (vs.drop ms).take n ++ vd.drop (md + n) = vd') (hd : De bytes pc (.invokestatic i) 3 pc') (hsz : Ls.size = maxL) (hf : 1 ≤ R.frames) (hlo : (st.map fun v => v.category).sum + 18 ≤ R.locals)
    (K : ∀ h' : Heap, Keep h h' [b] → Av Z h' b ty vd' → Go k h' os cells slots pc' Ls st) : Go k h os cells slots pc Ls (.int nn :: .int dp :: .ref b :: .int sp :: .ref a :: st) := by
  obtain ⟨p, l', e, R', s, m, args, below, meth, c, Z', EL', wd', wr', Q'⟩ := k
  obtain ⟨⟨rfl, rfl, rfl, rfl, rfl, rfl, rfl, rfl⟩, hx, hc', hml, hret, hlk, hnm, hZ, hown, hEL, hE, hwr⟩ := C
  obtain ⟨g1, rfl⟩ := hd
  intro T locs vm X e0 N S w' A Kp ow
  have hZ' : Z'.Warmed39 (s.setVm vm).vm := State.Warmed39.trans (t := s) hZ S.1
  have hown' : (s.setVm vm).vm.findClass y.cls = some m.cls := (S.1.alike.findClass _ _).trans hown
  obtain ⟨k1, z1, A1, ez1⟩ := V
  obtain ⟨k2, z2, A2, ez2⟩ := U
  obtain ⟨T', h', L, X', e', N', KW, Aw, stp⟩ := cpA X hx hZ' hown' w1 w2 w3 w4 e0 A1 A2 (Or.inl ⟨rfl, hty⟩) h1 h2 h3 (by rw [e1, e3, ez1]; exact h4) (by rw [e2, e3, ez2]; exact h5) (us := (vs.drop ms).take n) (by rw [e1, e3]; exact (copy_us h4).symm) (by rw [e2, e3]; exact h5) N (ow b ho).2.1 (g := mkF m pc Ls (.int nn :: .int dp :: .ref b :: .int sp :: .ref a :: st)) rfl (hsz.trans hml.symm) rfl (hb hc' g1) hf (W := (st.map fun v => v.category).sum) (by show 2 * 0 + _ ≤ _; omega) hlo
  rw [e2, e3, hvd] at Aw
  have os1 : ∀ x ∈ [b], x ∈ os := fun x hx => by cases List.mem_singleton.mp hx; exact ho
  have Ch := CHr.keep KW (safeOs ow os1) A.1
  refine mov (K h' KW ⟨k2, z2, Aw, ?_⟩) X' e' N' (Since.up S KW.1) w' (A.trans Ch) (keepOs Kp KW ow os1) (fun x hx => (ow x hx).chr Ch) stp
  rw [ez2, ← hvd]; simp; omega
theorem Go.ldcO {k : KT} (C : Ctx k l y bytes maxL ret R Z a0 EL true wr h0 Q) {pc pc' i : Nat} {text : String} (w : (Cond.stringLink y.cls i text).before a0 Z = true) (wS : ∀ a ∈ Bundle.stringAtoms, a.before a0 Z = true) (hd : De bytes pc (.ldc i) 2 pc') {n : Nat} (hn : 4 * text.toList.length ≤ n) (hbig : n ≤ 536870912) (hc : cells + 2 ≤ R.cells) (hl : slots + (n + 4) ≤ R.slots)
    (K : ∀ (a : Addr) (h' : Heap), Keep h h' [] → Go k h' os (cells + 2) (slots + (n + 4)) pc' Ls (.ref a :: st)) : Go k h os cells slots pc Ls st := by
  obtain ⟨p, l', e, R', s, m, args, below, meth, c, Z', EL', wd', wr', Q'⟩ := k
  obtain ⟨⟨rfl, rfl, rfl, rfl, rfl, rfl, rfl, rfl⟩, hx, hc', hml, hret, hlk, hnm, hZ, hown, hEL, hE, hwr⟩ := C
  obtain ⟨h1, rfl⟩ := hd
  intro T locs vm X e0 N S w' A Kp ow
  have hZ' : Z'.Warmed39 vm := State.Warmed39.trans (t := s) hZ S.1
  have hown' : vm.findClass y.cls = some m.cls := (S.1.alike.findClass _ _).trans hown
  obtain ⟨a, T', h', k1, X', e', E, S', hk1, -, -, Ch, -, stp⟩ := ldcOH X hx hZ' hown' w wS e0 S (Nat.le_refl _) hEL A.1 (g := mkF m pc Ls st) rfl (hb hc' h1) hn hbig hc hl
  refine mov (K a h' (Keep.ofExt E)) X' e' N (Since.up S' hk1) (fun q => Bool.noConfusion q) (A.trans Ch) (Kp.ext E) (fun x hx => (ow x hx).chr Ch) stp
theorem Go.checkcast {k : KT} (C : Ctx k l y bytes maxL ret R Z a0 EL wd wr h0 Q) {pc pc' i : Nat} {a : Addr} {Kn : String} (I : Ins Z h a Kn true) (w : (Cond.classLink y.cls i Kn).before a0 Z = true) (hd : De bytes pc (.checkcast i) 3 pc') (K : Go k h os cells slots pc' Ls (.ref a :: st)) : Go k h os cells slots pc Ls (.ref a :: st) := by
  obtain ⟨p, l', e, R', s, m, args, below, meth, c, Z', EL', wd', wr', Q'⟩ := k
  obtain ⟨⟨rfl, rfl, rfl, rfl, rfl, rfl, rfl, rfl⟩, hx, hc', hml, hret, hlk, hnm, hZ, hown, hEL, hE, hwr⟩ := C
  obtain ⟨h1, rfl⟩ := hd
  intro T locs vm X e0 N S w' A Kp ow
  have hZ' : Z'.Warmed39 (s.setVm vm).vm := State.Warmed39.trans (t := s) hZ S.1
  have hown' : (s.setVm vm).vm.findClass y.cls = some m.cls := (S.1.alike.findClass _ _).trans hown
  obtain ⟨T', X', e', stp⟩ := castY X hx hZ' hown' w e0 I (g := mkF m pc Ls (.ref a :: st)) rfl rfl (hb hc' h1)
  exact mov K X' e' N S w' A Kp ow stp
theorem Go.checkcastNull {k : KT} (C : Ctx k l y bytes maxL ret R Z a0 EL wd wr h0 Q) {pc pc' i : Nat} (hd : De bytes pc (.checkcast i) 3 pc') (K : Go k h os cells slots pc' Ls (.null :: st)) : Go k h os cells slots pc Ls (.null :: st) := by
  obtain ⟨p, l', e, R', s, m, args, below, meth, c, Z', EL', wd', wr', Q'⟩ := k
  obtain ⟨⟨rfl, rfl, rfl, rfl, rfl, rfl, rfl, rfl⟩, hx, hc', hml, hret, hlk, hnm, hZ, hown, hEL, hE, hwr⟩ := C
  obtain ⟨h1, rfl⟩ := hd
  intro T locs vm X e0 N S w' A Kp ow
  exact mov K X e0 N S w' A Kp ow (X.checkcastNull hx (g := mkF m pc Ls (.null :: st)) rfl rfl (hb hc' h1))
theorem Go.instanceofYes {k : KT} (C : Ctx k l y bytes maxL ret R Z a0 EL wd wr h0 Q) {pc pc' i : Nat} {a : Addr} {Kn : String} (I : Ins Z h a Kn true) (w : (Cond.classLink y.cls i Kn).before a0 Z = true) (hd : De bytes pc (.instanceof i) 3 pc') (K : Go k h os cells slots pc' Ls (.int 1 :: st)) : Go k h os cells slots pc Ls (.ref a :: st) := by
  obtain ⟨p, l', e, R', s, m, args, below, meth, c, Z', EL', wd', wr', Q'⟩ := k
  obtain ⟨⟨rfl, rfl, rfl, rfl, rfl, rfl, rfl, rfl⟩, hx, hc', hml, hret, hlk, hnm, hZ, hown, hEL, hE, hwr⟩ := C
  obtain ⟨h1, rfl⟩ := hd
  intro T locs vm X e0 N S w' A Kp ow
  have hZ' : Z'.Warmed39 (s.setVm vm).vm := State.Warmed39.trans (t := s) hZ S.1
  have hown' : (s.setVm vm).vm.findClass y.cls = some m.cls := (S.1.alike.findClass _ _).trans hown
  obtain ⟨T', X', e', stp⟩ := instY X hx hZ' hown' w e0 I (g := mkF m pc Ls (.ref a :: st)) rfl rfl (hb hc' h1)
  exact mov K X' e' N S w' A Kp ow stp
theorem noSub {C O K : String} {n : Nat} (w1 : (Cond.superclass C O).before a0 Z = true) (w0 : (Cond.noSuperclass O).before a0 Z = true) (wk : (Cond.instantiable K n).before a0 Z = true) (q1 : C ≠ K) (q2 : O ≠ K) : ∃ c t, Z.vm.findClass C = some c ∧ Z.vm.findClass K = some t ∧ Z.vm.assignable c t = false := by
  obtain ⟨c, hc⟩ := found_sup w1
  obtain ⟨o, k, kp, a1, a2, a3, a4, a5, a6, a7⟩ := Cond.superclass_spec hc w1
  obtain ⟨o', ko, b1, b2, b3, -, -⟩ := Cond.noSuperclass_spec w0
  obtain ⟨t, kt, t1, t2, t3, t4, -⟩ := Cond.instantiable_spec wk
  cases a1.symm.trans b1
  have n1 := ids_ne hc t1 q1
  have n2 := ids_ne b1 t1 q2
  have hi : kt.isInterface = false := (Bool.or_eq_false_iff.mp t4).1
  refine ⟨c, t, hc, t1, ?_⟩
  have sub : ∀ fuel, Z.vm.isSubclassAux fuel c t = false := fun fuel => by
    rcases fuel with _ | _ | f
    · rfl
    · simp [Vm.isSubclassAux, n1, a2, a4]
    · simp [Vm.isSubclassAux, n1, n2, a2, a4, b2, b3]
  show Z.vm.assignableAux (255 + 1) c t = false
  simp [Vm.assignableAux, n1, a2, t2, a5, t3, hi, Vm.isSubclass, sub]
theorem Go.instanceofNo {k : KT} (C : Ctx k l y bytes maxL ret R Z a0 EL wd wr h0 Q) {pc pc' i : Nat} {a : Addr} {Cn Kn : String} (E : Exa Z h a Cn) (F : ∃ c t, Z.vm.findClass Cn = some c ∧ Z.vm.findClass Kn = some t ∧ Z.vm.assignable c t = false) (w : (Cond.classLink y.cls i Kn).before a0 Z = true) (hd : De bytes pc (.instanceof i) 3 pc') (K : Go k h os cells slots pc' Ls (.int 0 :: st)) : Go k h os cells slots pc Ls (.ref a :: st) := by
  obtain ⟨p, l', e, R', s, m, args, below, meth, c, Z', EL', wd', wr', Q'⟩ := k
  obtain ⟨⟨rfl, rfl, rfl, rfl, rfl, rfl, rfl, rfl⟩, hx, hc', hml, hret, hlk, hnm, hZ, hown, hEL, hE, hwr⟩ := C
  obtain ⟨h1, rfl⟩ := hd
  intro T locs vm X e0 N S w' A Kp ow
  have hZ' : Z'.Warmed39 (s.setVm vm).vm := State.Warmed39.trans (t := s) hZ S.1
  have hown' : (s.setVm vm).vm.findClass y.cls = some m.cls := (S.1.alike.findClass _ _).trans hown
  obtain ⟨T', X', e', stp⟩ := instNo X hx hZ' hown' w e0 E F (g := mkF m pc Ls (.ref a :: st)) rfl rfl (hb hc' h1)
  exact mov K X' e' N S w' A Kp ow stp
theorem Go.instanceofNull {k : KT} (C : Ctx k l y bytes maxL ret R Z a0 EL wd wr h0 Q) {pc pc' i : Nat} (hd : De bytes pc (.instanceof i) 3 pc') (K : Go k h os cells slots pc' Ls (.int 0 :: st)) : Go k h os cells slots pc Ls (.null :: st) := by
  obtain ⟨p, l', e, R', s, m, args, below, meth, c, Z', EL', wd', wr', Q'⟩ := k
  obtain ⟨⟨rfl, rfl, rfl, rfl, rfl, rfl, rfl, rfl⟩, hx, hc', hml, hret, hlk, hnm, hZ, hown, hEL, hE, hwr⟩ := C
  obtain ⟨h1, rfl⟩ := hd
  intro T locs vm X e0 N S w' A Kp ow
  exact mov K X e0 N S w' A Kp ow (X.instanceofNull hx (g := mkF m pc Ls (.null :: st)) rfl rfl (hb hc' h1))
theorem Go.initO {k : KT} (C : Ctx k l y bytes maxL ret R Z a0 EL wd wr h0 Q) {pc pc' i : Nat} {a : Addr} (w1 : (Cond.methodLink y.cls i Lib.objectInit).before a0 Z = true) (w2 : (Cond.instanceMethod Lib.objectInit).before a0 Z = true) (w3 : (Cond.code Lib.objectInit ⟨#[0xb1]⟩ 1 none).before a0 Z = true)
    (hd : De bytes pc (.invokespecial i) 3 pc') (hs : Ls.size = maxL) (hf : 1 ≤ R.frames) (hl : (st.map fun v => v.category).sum + 12 ≤ R.locals) (K : Go k h os cells slots pc' Ls st) : Go k h os cells slots pc Ls (.ref a :: st) := by
  obtain ⟨p, l', e, R', s, m, args, below, meth, c, Z', EL', wd', wr', Q'⟩ := k
  obtain ⟨⟨rfl, rfl, rfl, rfl, rfl, rfl, rfl, rfl⟩, hx, hc', hml, hret, hlk, hnm, hZ, hown, hEL, hE, hwr⟩ := C
  obtain ⟨h1, rfl⟩ := hd
  intro T locs vm X e0 N S w' A Kp ow
  have hZ' : Z'.Warmed39 (s.setVm vm).vm := State.Warmed39.trans (t := s) hZ S.1
  have hown' : (s.setVm vm).vm.findClass y.cls = some m.cls := (S.1.alike.findClass _ _).trans hown
  obtain ⟨T', X', e', stp⟩ := RoadKit.initO X hx hZ' hown' w1 w2 w3 e0 (g := mkF m pc Ls (.ref a :: st)) rfl (hs.trans hml.symm) rfl (hb hc' h1) hf (W := (st.map fun v => v.category).sum) (by show 2 * 0 + _ ≤ _; omega) hl
  exact mov K X' e' N S w' A Kp ow stp
theorem Go.acmp {k : KT} (C : Ctx k l y bytes maxL ret R Z a0 EL wd wr h0 Q) {pc pc' pcT : Nat} {cd : ACond} {u v : Value} (same : Bool) (hd : DeJ bytes pc (.if_acmp cd) pc' pcT) (h1 : u.isRef = true) (h2 : v.isRef = true) (hq : decide (u = v) = same) {pcN : Nat} (hp : pcN = if acV cd same = true then pcT else pc') (K : Go k h os cells slots pcN Ls st) : Go k h os cells slots pc Ls (v :: u :: st) := by
  obtain ⟨p, l', e, R', s, m, args, below, meth, c, Z', EL', wd', wr', Q'⟩ := k
  obtain ⟨⟨rfl, rfl, rfl, rfl, rfl, rfl, rfl, rfl⟩, hx, hc', hml, hret, hlk, hnm, hZ, hown, hEL, hE, hwr⟩ := C
  obtain ⟨o, g1, rfl, g2, g3⟩ := hd
  intro T locs vm X e0 N S w' A Kp ow
  refine Fen.of (fun t kt => RoadKit.acmp X hx (g := mkF m pc Ls (v :: u :: st)) rfl h1 h2 (pc0 := pc) (pc' := pcN) (same := same) rfl (hb hc' g1) rfl hq g2 (by rw [hp, g3]) kt) (K T locs vm X e0 N S w' A Kp ow)
theorem Go.eqI {k : KT} {pc : Nat} {x x' : Int32} (e : x = x') (K : Go k h os cells slots pc Ls (.int x' :: st)) : Go k h os cells slots pc Ls (.int x :: st) := e ▸ K
theorem Go.eqJ {k : KT} {pc : Nat} {x x' : Int64} (e : x = x') (K : Go k h os cells slots pc Ls (.long x' :: st)) : Go k h os cells slots pc Ls (.long x :: st) := e ▸ K
theorem ne_lt {a b n : Nat} (q : a < n) (e : n ≤ b) : a ≠ b := Nat.ne_of_lt (Nat.lt_of_lt_of_le q e)
theorem ge_of {b n : Nat} (e : b = n) : n ≤ b := Nat.le_of_eq e.symm
theorem Go.ldcI {k : KT} (C : Ctx k l y bytes maxL ret R Z a0 EL wd wr h0 Q) {pc pc' i : Nat} {v : Int32} (w : (Cond.constant y.cls i v).before a0 Z = true) (hd : De bytes pc (.ldc i) 2 pc') (K : Go k h os cells slots pc' Ls (.int v :: st)) : Go k h os cells slots pc Ls st := by
  obtain ⟨p, l', e, R', s, m, args, below, meth, c, Z', EL', wd', wr', Q'⟩ := k
  obtain ⟨⟨rfl, rfl, rfl, rfl, rfl, rfl, rfl, rfl⟩, hx, hc', hml, hret, hlk, hnm, hZ, hown, hEL, hE, hwr⟩ := C
  obtain ⟨h1, rfl⟩ := hd
  intro T locs vm X e0 N S w' A Kp ow
  have hZ' : Z'.Warmed39 (s.setVm vm).vm := State.Warmed39.trans (t := s) hZ S.1
  have hown' : (s.setVm vm).vm.findClass y.cls = some m.cls := (S.1.alike.findClass _ _).trans hown
  exact mov K X e0 N S w' A Kp ow (X.ldcInt hx hown' (mvT hZ' w) (g := mkF m pc Ls st) rfl (hb hc' h1))
theorem Go.ldcWI {k : KT} (C : Ctx k l y bytes maxL ret R Z a0 EL wd wr h0 Q) {pc pc' i : Nat} {v : Int32} (w : (Cond.constant y.cls i v).before a0 Z = true) (hd : De bytes pc (.ldc_w i) 3 pc') (K : Go k h os cells slots pc' Ls (.int v :: st)) : Go k h os cells slots pc Ls st := by
  obtain ⟨p, l', e, R', s, m, args, below, meth, c, Z', EL', wd', wr', Q'⟩ := k
  obtain ⟨⟨rfl, rfl, rfl, rfl, rfl, rfl, rfl, rfl⟩, hx, hc', hml, hret, hlk, hnm, hZ, hown, hEL, hE, hwr⟩ := C
  obtain ⟨h1, rfl⟩ := hd
  intro T locs vm X e0 N S w' A Kp ow
  have hZ' : Z'.Warmed39 (s.setVm vm).vm := State.Warmed39.trans (t := s) hZ S.1
  have hown' : (s.setVm vm).vm.findClass y.cls = some m.cls := (S.1.alike.findClass _ _).trans hown
  exact mov K X e0 N S w' A Kp ow (X.ldcwInt hx hown' (mvT hZ' w) (g := mkF m pc Ls st) rfl (hb hc' h1))
theorem Go.ldcJ {k : KT} (C : Ctx k l y bytes maxL ret R Z a0 EL wd wr h0 Q) {pc pc' i : Nat} {v : Int64} (w : (Cond.constantLong y.cls i v).before a0 Z = true) (hd : De bytes pc (.ldc2_w i) 3 pc') (K : Go k h os cells slots pc' Ls (.long v :: st)) : Go k h os cells slots pc Ls st := by
  obtain ⟨p, l', e, R', s, m, args, below, meth, c, Z', EL', wd', wr', Q'⟩ := k
  obtain ⟨⟨rfl, rfl, rfl, rfl, rfl, rfl, rfl, rfl⟩, hx, hc', hml, hret, hlk, hnm, hZ, hown, hEL, hE, hwr⟩ := C
  obtain ⟨h1, rfl⟩ := hd
  intro T locs vm X e0 N S w' A Kp ow
  have hZ' : Z'.Warmed39 (s.setVm vm).vm := State.Warmed39.trans (t := s) hZ S.1
  have hown' : (s.setVm vm).vm.findClass y.cls = some m.cls := (S.1.alike.findClass _ _).trans hown
  exact mov K X e0 N S w' A Kp ow (X.ldc2Long hx hown' (mvT hZ' w) (g := mkF m pc Ls st) rfl (hb hc' h1))
theorem sizeExt {h' : Heap} {a : Addr} {C : String} (E : Exa Z h' a C) : a < h'.size := E.lt
theorem Go.ldcStr {k : KT} (C : Ctx k l y bytes maxL ret R Z a0 EL true wr h0 Q) {pc pc' i : Nat} {text : String} (w : (Cond.stringLink y.cls i text).before a0 Z = true) (wS : ∀ a ∈ Bundle.stringAtoms, a.before a0 Z = true) (hmem : (y.cls, i) ∈ EL) {bs : List Int32}
    (ht : (∀ c ∈ text.toList, c.toNat < 256) ∧ text.toList.map (fun c => Value.int (Jvm.Lit.byteI c.toNat.toUInt16)) = bs.map .int) (hln : (Int32.ofNat bs.length).toNatClampNeg = bs.length ∧ ¬ (Int32.ofNat bs.length) < 0) (hd : De bytes pc (.ldc i) 2 pc') {n : Nat} (hn : 4 * text.toList.length ≤ n) (hbig : n ≤ 536870912) (hc : cells + 2 ≤ R.cells) (hl : slots + (n + 4) ≤ R.slots)
    (K : ∀ (a t : Addr) (h' : Heap), Keep h h' [] → Str Z h' a t bs → (∀ x ∈ os, a ≠ x ∧ t ≠ x) → Go k h' os (cells + 2) (slots + (n + 4)) pc' Ls (.ref a :: st)) : Go k h os cells slots pc Ls st := by
  obtain ⟨p, l', e, R', s, m, args, below, meth, c, Z', EL', wd', wr', Q'⟩ := k
  obtain ⟨⟨rfl, rfl, rfl, rfl, rfl, rfl, rfl, rfl⟩, hx, hc', hml, hret, hlk, hnm, hZ, hown, hEL, hE, hwr⟩ := C
  obtain ⟨h1, rfl⟩ := hd
  intro T locs vm X e0 N S w' A Kp ow
  have hZ' : Z'.Warmed39 vm := State.Warmed39.trans (t := s) hZ S.1
  have hown' : vm.findClass y.cls = some m.cls := (S.1.alike.findClass _ _).trans hown
  obtain ⟨a, T', h', k1, b, kc, X', e', E, S', hk1, -, -, Ex, Fc, Fv, Av1, -, -, Ch, -, hsf, stp⟩ := ldcCH X hx hZ' hown' w wS e0 S (Nat.le_refl _) hEL hmem A.1 (vs := bs.map .int) (z := Int32.ofNat bs.length) ht hln.2 (by rw [hln.1]; simp) (g := mkF m pc Ls st) rfl (hb hc' h1) hn hbig hc hl
  have Sx : Str Z' h' a b bs := ⟨⟨Ex, rfl, fun i q v g1 g2 => by
    match i, g1, g2 with
    | 0, g1, g2 => cases g1; cases g2; exact Fv
    | 1, g1, g2 => cases g1; cases g2; exact Fc
    | i + 2, g1, g2 => simp [fStr] at g1⟩, ⟨kc, Int32.ofNat bs.length, Av1, by rw [hln.1]; simp⟩⟩
  have Kx : Keep h h' [] := Keep.ofExt E
  refine mov (K a b h' Kx Sx fun x hx => ⟨fun q => (hsf x ((ow x hx).chr Ch).1).1 q.symm, fun q => (hsf x ((ow x hx).chr Ch).1).2 q.symm⟩) X' e' N (Since.up S' hk1) (fun q => Bool.noConfusion q) (A.trans Ch) (Kp.ext E) (fun x hx => (ow x hx).chr Ch) stp
theorem Go.acmpne {k : KT} (C : Ctx k l y bytes maxL ret R Z a0 EL wd wr h0 Q) {pc pc' pcT : Nat} {a b : Addr} (hd : DeJ bytes pc (.if_acmp .ne) pc' pcT) (KD : ¬ (a = b) → Go k h os cells slots pcT Ls st) (KS : a = b → Go k h os cells slots pc' Ls st) : Go k h os cells slots pc Ls (.ref b :: .ref a :: st) := by
  by_cases q : a = b
  · exact Go.acmp C true hd rfl rfl (decide_eq_true (congrArg _ q)) rfl (KS q)
  · exact Go.acmp C false hd rfl rfl (decide_eq_false fun z => q (Value.ref.inj z)) rfl (KD q)
theorem Go.acmpeq {k : KT} (C : Ctx k l y bytes maxL ret R Z a0 EL wd wr h0 Q) {pc pc' pcT : Nat} {a b : Addr} (hd : DeJ bytes pc (.if_acmp .eq) pc' pcT) (KS : a = b → Go k h os cells slots pcT Ls st) (KD : ¬ (a = b) → Go k h os cells slots pc' Ls st) : Go k h os cells slots pc Ls (.ref b :: .ref a :: st) := by
  by_cases q : a = b
  · exact Go.acmp C true hd rfl rfl (decide_eq_true (congrArg _ q)) rfl (KS q)
  · exact Go.acmp C false hd rfl rfl (decide_eq_false fun z => q (Value.ref.inj z)) rfl (KD q)
/-- a callee's contract, as its caller takes it -/
theorem conBack {p : Program} {e : Env} {s : State} {args : Array Value} {below : List Frame} {z : MethodName} {bz : ByteArray} {mz : Nat} {rz : Option FieldType} {rm : Room} {as' : Array Value} {wr' : List Addr} {Q' : QT} {vm : Vm} {len W : Nat}
    (M : Con l Z EL wd z bz mz rz rm [] as' h wr' Q') (hZ : Z.Warmed39 vm) (wc : (Cond.code z bz mz rz).before a0 Z = true) (wz : (Cond.initialized z.cls).before a0 Z = true) (hf : rm.frames + 1 ≤ R.frames) (hl : W + (mz + 11) + rm.locals ≤ R.locals) (hEL : EW Z a0 EL) (H : CHv Z EL vm h) (hE : Ext Z.heap h) (hs : ∀ x ∈ wr', Safe Z EL vm h x ∧ Z.heap.size ≤ x ∧ x < h.size) :
    BackS l R p e below (s.setVm vm) args z len W (fun A a => a = as' ∧ A.U.heap = h ∧ A.cells + rm.cells ≤ R.cells ∧ A.slots + rm.slots ≤ R.slots)
      (fun A _ v B => ∃ L os, Q' v B.U.heap os ∧ (∀ x ∈ os, Safe Z EL B.U.vm B.U.heap x ∧ h.size ≤ x ∧ x < B.U.heap.size) ∧ Keep h B.U.heap wr' ∧ Fr Z.heap.size L ∧ CHr Z EL vm h B.U.vm B.U.heap ∧ (wd = false → (s.setVm vm).WarmedH B.U.vm) ∧ B.locs = A.locs ++ L ∧ B.cells = A.cells + rm.cells ∧ B.slots = A.slots + rm.slots) :=
  BackS.of_freeW (bytes := bz) (maxL := mz) (ret := rz) (E := fun _ first o t L k n => k = rm.cells ∧ n = rm.slots ∧ (∃ v os, o = .returned v ∧ Q' v t.heap os ∧ (∀ x ∈ os, Safe Z EL t.vm t.heap x ∧ first.heap.size ≤ x ∧ x < t.heap.size) ∧ Keep first.heap t.heap wr' ∧ Fr Z.heap.size L) ∧ CHr Z EL first.vm first.heap t.vm t.heap ∧ (wd = false → first.WarmedH t.vm)) M hf hl
    (fun m meth c A a Y hp => have hU : Z.Warmed39 A.U.vm := wtrans (s := s.setVm vm) hZ Y.warmed
      ⟨by show (Cond.and _ .tt).before a A.U = true; rw [Cond.before_and, mv hU wc]; rfl, mv hU wc, mv hU wz, hp.2.2.1, hp.2.2.2⟩)
    (fun m meth c A a g mk Y hp => ⟨hp.1, wtrans (s := s.setVm vm) hZ Y.warmed, hp.2.1, (CHv.at Y hZ hEL H).1, hE, fun x hx => ⟨(CHv.at Y hZ hEL H).safe (hs x hx).2.2 (hs x hx).1, (hs x hx).2⟩⟩) (fun _ _ _ _ _ _ _ _ _ => trivial)
    (fun _ _ _ _ ⟨v, L, os, h1, h2, h3, h4, h5, h6, h7, h8⟩ => ⟨L, _, _, h7, rfl, rfl, ⟨v, os, h1, h2, h3, h4, h5⟩, h6, fun q => (h8 q).2.1⟩)
    (fun m meth c A a g mk v t L k n Y hp _ _ ⟨e1, e2, ⟨v', os, e3, e4, e5, e6, e7⟩, e8, e9⟩ => by
      cases e3; subst e1 e2
      have eh : (A.U.calling g mk a).heap = h := hp.2.1
      rw [eh] at e6 e8
      refine ⟨L, os, e4, fun x hx => ?_, e6, e7, (CHv.at Y hZ hEL H).trans e8, fun q => State.WarmedH.trans Y.warmed (e9 q), rfl, rfl, rfl⟩
      have := e5 x hx
      rw [eh] at this; exact this)
theorem afterCall {p : Program} {e : Env} {s : State} {m : MethodId} {args : Array Value} {below : List Frame} {meth : Method} {c : Code} {T : State} {locs : List Loc} {vm : Vm} {rm : Room} {wr' : List Addr} {Q' : QT} {pc pc' : Nat} {st0 : List Value} {v : Option Value} {B : Pt} {L : List Loc} {os' : List Addr}
    (N : Fr Z.heap.size locs) (S : s.Since vm h.size) (w : wd = false → s.WarmedH vm) (A : CHr Z EL s.vm s.heap vm h) (Kp : Keep s.heap h wr) (hE : Ext Z.heap s.heap) (ow : ∀ x ∈ os, Own Z s.heap EL wr vm h x) (how : ∀ x ∈ wr', x ∈ os)
    (K : Go ⟨p, l, e, R, s, m, args, below, meth, c, Z, EL, wd, wr, Q⟩ B.U.heap (os' ++ os) (cells + rm.cells) (slots + rm.slots) pc' Ls (v.toList ++ st))
    (X' : Stand p l e R ((s.setVm vm).setVm B.U.vm) m args below meth c B.U B.locs B.cells B.slots) (hS : (s.setVm vm).Since B.U.vm B.U.heap.size) (hgr : h.size ≤ B.U.heap.size)
    (q2 : ∀ x ∈ os', Safe Z EL B.U.vm B.U.heap x ∧ h.size ≤ x ∧ x < B.U.heap.size) (q3 : Keep h B.U.heap wr') (q4 : Fr Z.heap.size L) (q5 : CHr Z EL vm h B.U.vm B.U.heap) (q6 : wd = false → (s.setVm vm).WarmedH B.U.vm) (q7 : B.locs = locs ++ L) (q8 : B.cells = cells + rm.cells) (q9 : B.slots = slots + rm.slots)
    (stp : Steps p.tables e below (T.setTop (mkF m pc Ls st0)) (B.U.setTop (mkF m pc' Ls (v.toList ++ st)))) : Fen p e below (Done Z EL wd R wr Q s) (T.setTop (mkF m pc Ls st0)) := by
  rw [q7, q8, q9] at X'
  refine mov (vm' := B.U.vm) K X' rfl (N.app q4) (S.trans hS hgr) (fun q => State.WarmedH.trans (w q) (q6 q)) (A.trans q5) (keepOs Kp q3 ow how) (fun x hx => ?_) (fun t kt => stp.trans kt)
  rcases List.mem_append.mp hx with hx | hx
  · obtain ⟨z1, z2, z3⟩ := q2 x hx
    exact ⟨z1, Nat.le_trans hE.1 (Nat.le_trans Kp.1 z2), z3, Or.inr (Nat.le_trans Kp.1 z2)⟩
  · exact (ow x hx).chr q5
theorem Go.callS {k : KT} (C : Ctx k l y bytes maxL ret R Z a0 EL wd wr h0 Q) {pc pc' : Nat} {i : Nat} {z : MethodName} {bz : ByteArray} {mz : Nat} {rz : Option FieldType} {rm : Room} {wr' : List Addr} {Q' : QT} {argsL : List Value} {ps : List FieldType} {rr : Option FieldType}
    (M : Con l Z EL wd z bz mz rz rm [] argsL.toArray h wr' Q') (w1 : (Cond.methodLink y.cls i z).before a0 Z = true) (w2 : (Cond.static z).before a0 Z = true) (w3 : (Cond.initialized z.cls).before a0 Z = true) (w4 : (Cond.code z bz mz rz).before a0 Z = true) (hd : De bytes pc (.invokestatic i) 3 pc') (hpd : parseMethodDescriptor z.desc = some ⟨ps, rr⟩) (hln : argsL.length = ps.length) (hmh : z.cls ≠ "java/lang/invoke/MethodHandle" ∧ z.cls ≠ "java/lang/invoke/VarHandle") (hsz : Ls.size = maxL) {st0 : List Value} (hst : st0 = argsL.reverse ++ st) (hfr : rm.frames + 1 ≤ R.frames) (hlo : (st.map fun v => v.category).sum + (mz + 11) + rm.locals ≤ R.locals) (hce : cells + rm.cells ≤ R.cells) (hsl : slots + rm.slots ≤ R.slots) (how : ∀ x ∈ wr', x ∈ os)
    (K : ∀ (v : Option Value) (h' : Heap) (os' : List Addr), Q' v h' os' → Keep h h' wr' → (∀ x ∈ os', h.size ≤ x ∧ x < h'.size) → Go k h' (os' ++ os) (cells + rm.cells) (slots + rm.slots) pc' Ls (v.toList ++ st)) : Go k h os cells slots pc Ls st0 := by
  obtain ⟨p, l', e, R', s, m, args, below, meth, c, Z', EL', wd', wr', Q'⟩ := k
  obtain ⟨⟨rfl, rfl, rfl, rfl, rfl, rfl, rfl, rfl⟩, hx, hc', hml, hret, hlk, hnm, hZ, hown, hEL, hE, hwr⟩ := C
  obtain ⟨h1, rfl⟩ := hd
  intro T locs vm X e0 N S w' A Kp ow
  have hZ' : Z'.Warmed39 (s.setVm vm).vm := State.Warmed39.trans (t := s) hZ S.1
  have hown' : (s.setVm vm).vm.findClass y.cls = some m.cls := (S.1.alike.findClass _ _).trans hown
  subst hst
  obtain ⟨v, vm₁, B, -, X', hS, hgr, hpost, stp⟩ := callSS X hx hown' (mvT hZ' w1) (mvT hZ' w2) (mvT hZ' w3) (mvT hZ' w4) hmh (conBack (p := p) (e := e) (below := below) (s := s) (args := args) M hZ' w4 w3 hfr hlo hEL A.1 (ext0 hE Kp hwr) (fun x hx => ⟨(ow x (how x hx)).1, (ow x (how x hx)).2.1, (ow x (how x hx)).2.2.1⟩)) (g := mkF m pc Ls (argsL.reverse ++ st)) rfl (hsz.trans hml.symm) (argsL := argsL) (rest := st) (lenOf hpd hln) rfl (by show 2 * 0 + _ ≤ _; exact Nat.le_of_eq (Nat.zero_add _)) (hb hc' h1) (fun _ _ => ⟨rfl, e0, hce, hsl⟩)
  obtain ⟨L, os', q1, q2, q3, q4, q5, q6, q7, q8, q9⟩ := hpost
  exact afterCall (Q' := Q') (rm := rm) N S w' A Kp hE ow how (K v B.U.heap os' q1 q3 fun x hx => (q2 x hx).2) X' hS (e0 ▸ hgr) q2 q3 q4 q5 q6 q7 q8 q9 stp
theorem Go.callI {k : KT} (C : Ctx k l y bytes maxL ret R Z a0 EL wd wr h0 Q) {pc pc' : Nat} {i : Nat} {a : Addr} {z : MethodName} {bz : ByteArray} {mz : Nat} {rm : Room} {wr' : List Addr} {Q' : QT} {argsL : List Value} {ps : List FieldType} {rr : Option FieldType}
    (M : Con l Z EL wd z bz mz none rm [] (.ref a :: argsL).toArray h wr' Q') (hin : z.name = "<init>") (w1 : (Cond.methodLink y.cls i z).before a0 Z = true) (w2 : (Cond.instanceMethod z).before a0 Z = true) (w3 : (Cond.initialized z.cls).before a0 Z = true) (w4 : (Cond.code z bz mz none).before a0 Z = true) (hd : De bytes pc (.invokespecial i) 3 pc') (hpd : parseMethodDescriptor z.desc = some ⟨ps, rr⟩) (hln : argsL.length = ps.length) (hmh : z.cls ≠ "java/lang/invoke/MethodHandle" ∧ z.cls ≠ "java/lang/invoke/VarHandle") (hsz : Ls.size = maxL) {st0 : List Value} (hst : st0 = argsL.reverse ++ .ref a :: st) (hfr : rm.frames + 1 ≤ R.frames) (hlo : (st.map fun v => v.category).sum + (mz + 11) + rm.locals ≤ R.locals) (hce : cells + rm.cells ≤ R.cells) (hsl : slots + rm.slots ≤ R.slots) (how : ∀ x ∈ wr', x ∈ os)
    (K : ∀ (v : Option Value) (h' : Heap) (os' : List Addr), Q' v h' os' → Keep h h' wr' → (∀ x ∈ os', h.size ≤ x ∧ x < h'.size) → Go k h' (os' ++ os) (cells + rm.cells) (slots + rm.slots) pc' Ls (v.toList ++ st)) : Go k h os cells slots pc Ls st0 := by
  obtain ⟨p, l', e, R', s, m, args, below, meth, c, Z', EL', wd', wr', Q'⟩ := k
  obtain ⟨⟨rfl, rfl, rfl, rfl, rfl, rfl, rfl, rfl⟩, hx, hc', hml, hret, hlk, hnm, hZ, hown, hEL, hE, hwr⟩ := C
  obtain ⟨h1, rfl⟩ := hd
  intro T locs vm X e0 N S w' A Kp ow
  have hZ' : Z'.Warmed39 (s.setVm vm).vm := State.Warmed39.trans (t := s) hZ S.1
  have hown' : (s.setVm vm).vm.findClass y.cls = some m.cls := (S.1.alike.findClass _ _).trans hown
  subst hst
  obtain ⟨v, vm₁, B, -, X', hS, hgr, hpost, stp⟩ := X.specialBackS hx hin hown' (mvT hZ' w1) (mvT hZ' w2) (mvT hZ' w4) hmh (conBack (p := p) (e := e) (below := below) (s := s) (args := args) M hZ' w4 w3 hfr hlo hEL A.1 (ext0 hE Kp hwr) (fun x hx => ⟨(ow x (how x hx)).1, (ow x (how x hx)).2.1, (ow x (how x hx)).2.2.1⟩)) (g := mkF m pc Ls (argsL.reverse ++ .ref a :: st)) rfl (hsz.trans hml.symm) (Steps.refl _) (a := a) (argsL := argsL) (rest := st) (lenOf hpd hln) rfl (by show 2 * 0 + _ ≤ _; exact Nat.le_of_eq (Nat.zero_add _)) (hb hc' h1) (fun _ _ => ⟨rfl, e0, hce, hsl⟩)
  obtain ⟨L, os', q1, q2, q3, q4, q5, q6, q7, q8, q9⟩ := hpost
  exact afterCall (Q' := Q') (rm := rm) N S w' A Kp hE ow how (K v B.U.heap os' q1 q3 fun x hx => (q2 x hx).2) X' hS (e0 ▸ hgr) q2 q3 q4 q5 q6 q7 q8 q9 stp
theorem Go.callV {k : KT} (C : Ctx k l y bytes maxL ret R Z a0 EL wd wr h0 Q) {pc pc' : Nat} {i : Nat} {a : Addr} {Cn : String} {zr : MethodName} {z : MethodName} {bz : ByteArray} {mz : Nat} {rz : Option FieldType} {rm : Room} {wr' : List Addr} {Q' : QT} {argsL : List Value} {ps : List FieldType} {rr : Option FieldType}
    (M : Con l Z EL wd z bz mz rz rm [] (.ref a :: argsL).toArray h wr' Q') (Ex : Exa Z h a Cn) (w1 : (Cond.methodLink y.cls i zr).before a0 Z = true) (wd1 : (Cond.declares zr).before a0 Z = true) (nf : ∀ {s : State}, Z.Warmed39 s.vm → NotFace s zr) (ws : (Cond.selects Cn zr z).before a0 Z = true) (w2 : (Cond.instanceMethod z).before a0 Z = true) (w3 : (Cond.initialized z.cls).before a0 Z = true) (w4 : (Cond.code z bz mz rz).before a0 Z = true) (hd : De bytes pc (.invokevirtual i) 3 pc') (hpd : parseMethodDescriptor zr.desc = some ⟨ps, rr⟩) (hln : argsL.length = ps.length) (hmh : zr.cls ≠ "java/lang/invoke/MethodHandle" ∧ zr.cls ≠ "java/lang/invoke/VarHandle") (hsz : Ls.size = maxL) {st0 : List Value} (hst : st0 = argsL.reverse ++ .ref a :: st) (hfr : rm.frames + 1 ≤ R.frames) (hlo : (st.map fun v => v.category).sum + (mz + 11) + rm.locals ≤ R.locals) (hce : cells + rm.cells ≤ R.cells) (hsl : slots + rm.slots ≤ R.slots) (how : ∀ x ∈ wr', x ∈ os)
    (K : ∀ (v : Option Value) (h' : Heap) (os' : List Addr), Q' v h' os' → Keep h h' wr' → (∀ x ∈ os', h.size ≤ x ∧ x < h'.size) → Go k h' (os' ++ os) (cells + rm.cells) (slots + rm.slots) pc' Ls (v.toList ++ st)) : Go k h os cells slots pc Ls st0 := by
  obtain ⟨p, l', e, R', s, m, args, below, meth, c, Z', EL', wd', wr', Q'⟩ := k
  obtain ⟨⟨rfl, rfl, rfl, rfl, rfl, rfl, rfl, rfl⟩, hx, hc', hml, hret, hlk, hnm, hZ, hown, hEL, hE, hwr⟩ := C
  obtain ⟨h1, rfl⟩ := hd
  intro T locs vm X e0 N S w' A Kp ow
  have hZ' : Z'.Warmed39 (s.setVm vm).vm := State.Warmed39.trans (t := s) hZ S.1
  have hown' : (s.setVm vm).vm.findClass y.cls = some m.cls := (S.1.alike.findClass _ _).trans hown
  subst hst
  obtain ⟨cq, kq, q1a, q1b, q1c⟩ := isOf hZ' e0 Ex
  obtain ⟨v, vm₁, B, -, X', hS, hgr, hpost, stp⟩ := X.virtualBackS hx hown' (mvT hZ' w1) (mvT hZ' wd1) (nf hZ') (mvT hZ' ws) (mvT hZ' w2) hmh (conBack (p := p) (e := e) (below := below) (s := s) (args := args) M hZ' w4 w3 hfr hlo hEL A.1 (ext0 hE Kp hwr) (fun x hx => ⟨(ow x (how x hx)).1, (ow x (how x hx)).2.1, (ow x (how x hx)).2.2.1⟩)) q1a q1c (g := mkF m pc Ls (argsL.reverse ++ .ref a :: st)) rfl (hsz.trans hml.symm) (Steps.refl _) (argsL := argsL) (rest := st) (lenOf hpd hln) rfl (by show 2 * 0 + _ ≤ _; exact Nat.le_of_eq (Nat.zero_add _)) (hb hc' h1) (fun _ _ => ⟨rfl, e0, hce, hsl⟩)
  obtain ⟨L, os', q1, q2, q3, q4, q5, q6, q7, q8, q9⟩ := hpost
  exact afterCall (Q' := Q') (rm := rm) N S w' A Kp hE ow how (K v B.U.heap os' q1 q3 fun x hx => (q2 x hx).2) X' hS (e0 ▸ hgr) q2 q3 q4 q5 q6 q7 q8 q9 stp
theorem Go.callF {k : KT} (C : Ctx k l y bytes maxL ret R Z a0 EL wd wr h0 Q) {pc pc' : Nat} {i n : Nat} {a : Addr} {Cn : String} {zr : MethodName} {z : MethodName} {bz : ByteArray} {mz : Nat} {rz : Option FieldType} {rm : Room} {wr' : List Addr} {Q' : QT} {argsL : List Value} {ps : List FieldType} {rr : Option FieldType}
    (M : Con l Z EL wd z bz mz rz rm [] (.ref a :: argsL).toArray h wr' Q') (Ex : Exa Z h a Cn) (w1 : (Cond.methodLink y.cls i zr).before a0 Z = true) (wd1 : (Cond.declares zr).before a0 Z = true) (wf : ∀ (s : State) (as : Array Value), Z.Warmed39 s.vm → (Cond.interfaceMethod zr.cls zr.cls zr.name zr.desc).before as s = true) (ws : (Cond.selects Cn zr z).before a0 Z = true) (w2 : (Cond.instanceMethod z).before a0 Z = true) (wp : (Cond.publicMethod z).before a0 Z = true) (wu : (Cond.unhidden Cn zr.name zr.desc).before a0 Z = true) (wc : (Cond.castable Cn zr.cls).before a0 Z = true) (w3 : (Cond.initialized z.cls).before a0 Z = true) (w4 : (Cond.code z bz mz rz).before a0 Z = true) (hd : De bytes pc (.invokeinterface i n) 5 pc') (hpd : parseMethodDescriptor zr.desc = some ⟨ps, rr⟩) (hln : argsL.length = ps.length) (hmh : zr.cls ≠ "java/lang/invoke/MethodHandle" ∧ zr.cls ≠ "java/lang/invoke/VarHandle") (hsz : Ls.size = maxL) {st0 : List Value} (hst : st0 = argsL.reverse ++ .ref a :: st) (hfr : rm.frames + 1 ≤ R.frames) (hlo : (st.map fun v => v.category).sum + (mz + 11) + rm.locals ≤ R.locals) (hce : cells + rm.cells ≤ R.cells) (hsl : slots + rm.slots ≤ R.slots) (how : ∀ x ∈ wr', x ∈ os)
    (K : ∀ (v : Option Value) (h' : Heap) (os' : List Addr), Q' v h' os' → Keep h h' wr' → (∀ x ∈ os', h.size ≤ x ∧ x < h'.size) → Go k h' (os' ++ os) (cells + rm.cells) (slots + rm.slots) pc' Ls (v.toList ++ st)) : Go k h os cells slots pc Ls st0 := by
  obtain ⟨p, l', e, R', s, m, args, below, meth, c, Z', EL', wd', wr', Q'⟩ := k
  obtain ⟨⟨rfl, rfl, rfl, rfl, rfl, rfl, rfl, rfl⟩, hx, hc', hml, hret, hlk, hnm, hZ, hown, hEL, hE, hwr⟩ := C
  obtain ⟨h1, rfl⟩ := hd
  intro T locs vm X e0 N S w' A Kp ow
  have hZ' : Z'.Warmed39 (s.setVm vm).vm := State.Warmed39.trans (t := s) hZ S.1
  have hown' : (s.setVm vm).vm.findClass y.cls = some m.cls := (S.1.alike.findClass _ _).trans hown
  subst hst
  obtain ⟨cq, kq, q1a, q1b, q1c⟩ := isOf hZ' e0 Ex
  obtain ⟨v, vm₁, B, -, X', hS, hgr, hpost, stp⟩ := X.interfaceBackS hx hown' (mvT hZ' w1) (mvT hZ' wd1) (wf _ _ hZ') (mvT hZ' ws) (mvT hZ' w2) (mvT hZ' wp) (mvT hZ' wu) (mvT hZ' wc) hmh (conBack (p := p) (e := e) (below := below) (s := s) (args := args) M hZ' w4 w3 hfr hlo hEL A.1 (ext0 hE Kp hwr) (fun x hx => ⟨(ow x (how x hx)).1, (ow x (how x hx)).2.1, (ow x (how x hx)).2.2.1⟩)) q1a q1b q1c (g := mkF m pc Ls (argsL.reverse ++ .ref a :: st)) rfl (hsz.trans hml.symm) (Steps.refl _) (argsL := argsL) (rest := st) (lenOf hpd hln) rfl (by show 2 * 0 + _ ≤ _; exact Nat.le_of_eq (Nat.zero_add _)) (hb hc' h1) (fun _ _ => ⟨rfl, e0, hce, hsl⟩)
  obtain ⟨L, os', q1, q2, q3, q4, q5, q6, q7, q8, q9⟩ := hpost
  exact afterCall (Q' := Q') (rm := rm) N S w' A Kp hE ow how (K v B.U.heap os' q1 q3 fun x hx => (q2 x hx).2) X' hS (e0 ▸ hgr) q2 q3 q4 q5 q6 q7 q8 q9 stp
theorem Go.callP {k : KT} (C : Ctx k l y bytes maxL ret R Z a0 EL wd wr h0 Q) {pc pc' : Nat} {i : Nat} {a : Addr} {Cn : String} {z : MethodName} {bz : ByteArray} {mz : Nat} {rz : Option FieldType} {rm : Room} {wr' : List Addr} {Q' : QT} {argsL : List Value} {ps : List FieldType} {rr : Option FieldType}
    (M : Con l Z EL wd z bz mz rz rm [] (.ref a :: argsL).toArray h wr' Q') (Ex : Exa Z h a Cn) (w1 : (Cond.methodLink y.cls i z).before a0 Z = true) (w2 : (Cond.instanceMethod z).before a0 Z = true) (ws : (Cond.selects z.cls z z).before a0 Z = true) (wp : (Cond.privateMethod z).before a0 Z = true) (w3 : (Cond.initialized z.cls).before a0 Z = true) (w4 : (Cond.code z bz mz rz).before a0 Z = true) (hd : De bytes pc (.invokevirtual i) 3 pc') (hpd : parseMethodDescriptor z.desc = some ⟨ps, rr⟩) (hln : argsL.length = ps.length) (hmh : z.cls ≠ "java/lang/invoke/MethodHandle" ∧ z.cls ≠ "java/lang/invoke/VarHandle") (hsz : Ls.size = maxL) {st0 : List Value} (hst : st0 = argsL.reverse ++ .ref a :: st) (hfr : rm.frames + 1 ≤ R.frames) (hlo : (st.map fun v => v.category).sum + (mz + 11) + rm.locals ≤ R.locals) (hce : cells + rm.cells ≤ R.cells) (hsl : slots + rm.slots ≤ R.slots) (how : ∀ x ∈ wr', x ∈ os)
    (K : ∀ (v : Option Value) (h' : Heap) (os' : List Addr), Q' v h' os' → Keep h h' wr' → (∀ x ∈ os', h.size ≤ x ∧ x < h'.size) → Go k h' (os' ++ os) (cells + rm.cells) (slots + rm.slots) pc' Ls (v.toList ++ st)) : Go k h os cells slots pc Ls st0 := by
  obtain ⟨p, l', e, R', s, m, args, below, meth, c, Z', EL', wd', wr', Q'⟩ := k
  obtain ⟨⟨rfl, rfl, rfl, rfl, rfl, rfl, rfl, rfl⟩, hx, hc', hml, hret, hlk, hnm, hZ, hown, hEL, hE, hwr⟩ := C
  obtain ⟨h1, rfl⟩ := hd
  intro T locs vm X e0 N S w' A Kp ow
  have hZ' : Z'.Warmed39 (s.setVm vm).vm := State.Warmed39.trans (t := s) hZ S.1
  have hown' : (s.setVm vm).vm.findClass y.cls = some m.cls := (S.1.alike.findClass _ _).trans hown
  subst hst
  obtain ⟨cq, q1a, q1b⟩ := Ex.cell
  obtain ⟨v, vm₁, B, -, X', hS, hgr, hpost, stp⟩ := X.privateBackS hx hown' (mvT hZ' w1) (mvT hZ' w2) (mvT hZ' ws) (Cond.privateMethod_at (mvP hZ' wp (args := #[]))) (mvT hZ' w4) hmh (conBack (p := p) (e := e) (below := below) (s := s) (args := args) M hZ' w4 w3 hfr hlo hEL A.1 (ext0 hE Kp hwr) (fun x hx => ⟨(ow x (how x hx)).1, (ow x (how x hx)).2.1, (ow x (how x hx)).2.2.1⟩)) (g := mkF m pc Ls (argsL.reverse ++ .ref a :: st)) rfl (hsz.trans hml.symm) (Steps.refl _) (a := a) (by rw [e0]; exact q1a) q1b (argsL := argsL) (rest := st) (lenOf hpd hln) rfl (by show 2 * 0 + _ ≤ _; exact Nat.le_of_eq (Nat.zero_add _)) (hb hc' h1) (fun _ _ => ⟨rfl, e0, hce, hsl⟩)
  obtain ⟨L, os', q1, q2, q3, q4, q5, q6, q7, q8, q9⟩ := hpost
  exact afterCall (Q' := Q') (rm := rm) N S w' A Kp hE ow how (K v B.U.heap os' q1 q3 fun x hx => (q2 x hx).2) X' hS (e0 ▸ hgr) q2 q3 q4 q5 q6 q7 q8 q9 stp
theorem Go.ireturn {k : KT} {x x' : Int32} {t : FieldType} (C : Ctx k l y bytes maxL (some t) R Z a0 EL wd wr h0 Q) {pc pc' : Nat} (hd : De bytes pc .ireturn 1 pc') (hce : cells ≤ R.cells) (hsl : slots ≤ R.slots) (ht : t = .int ∨ t = .boolean ∨ t = .byte ∨ t = .char ∨ t = .short) (hn : nar t x = x') (os' : List Addr) (ho : ∀ x ∈ os', x ∈ os ∧ h0.size ≤ x) (q : Q (some (.int x')) h os') : Go k h os cells slots pc Ls (.int x :: st) := by
  obtain ⟨p, l', e, R', s, m, args, below, meth, c, Z', EL', wd', wr', Q'⟩ := k
  obtain ⟨⟨rfl, rfl, rfl, rfl, rfl, rfl, rfl, rfl⟩, hx, hc', hml, hret, hlk, hnm, hZ, hown, hEL, hE, hwr⟩ := C
  obtain ⟨h1, rfl⟩ := hd
  intro T locs vm X e0 N S w' A Kp ow
  have hZ' : Z'.Warmed39 (s.setVm vm).vm := State.Warmed39.trans (t := s) hZ S.1
  obtain ⟨fs, hr, g1, g2, hW, hs0⟩ := X.leave (v := (some (.int x'))) (fun h => by rw [hret] at h; cases h) hlk
  obtain ⟨r1, r2, r3⟩ := S.ended (U := T.setFrames fs) hW (Nat.le_of_eq (by rw [← e0]; rfl)) hs0
  have Ch := A.trans (CHv.at X hZ' hEL A.1)
  refine ⟨T.setFrames fs, _, ?_, g1, g2, (some (.int x')), locs, os', rfl, ?_, ?_, ?_, N, ?_, ⟨⟨_, rfl⟩, r1, r2, r3.mono hce hsl⟩, fun q => ⟨⟨_, rfl⟩, State.WarmedH.trans (w' q) hW, r3.mono hce hsl⟩⟩
  · subst hn
    rcases ht with rfl | ht
    · exact retOut X hx hret rfl (Or.inl ⟨rfl, Or.inl rfl, _, rfl⟩) (hb hc' h1) hr
    · exact retN X hx hret ht (hb hc' h1) hr
  · show Q' _ T.heap os'
    rw [e0]; exact q
  · intro x hx
    obtain ⟨z1, z2⟩ := ho x hx
    obtain ⟨o1, o2, o3, o4⟩ := ow x z1
    show Safe Z' EL' T.vm T.heap x ∧ s.heap.size ≤ x ∧ x < T.heap.size
    rw [e0]
    exact ⟨(CHv.at X hZ' hEL A.1).safe o3 o1, z2, o3⟩
  · show Keep s.heap T.heap wr'
    rw [e0]; exact Kp
  · show CHr Z' EL' s.vm s.heap T.vm T.heap
    rw [e0]; exact Ch
theorem Go.lreturn {k : KT} {x : Int64} (C : Ctx k l y bytes maxL (some .long) R Z a0 EL wd wr h0 Q) {pc pc' : Nat} (hd : De bytes pc .lreturn 1 pc') (hce : cells ≤ R.cells) (hsl : slots ≤ R.slots) (os' : List Addr) (ho : ∀ x ∈ os', x ∈ os ∧ h0.size ≤ x) (q : Q (some (.long x)) h os') : Go k h os cells slots pc Ls (.long x :: st) := by
  obtain ⟨p, l', e, R', s, m, args, below, meth, c, Z', EL', wd', wr', Q'⟩ := k
  obtain ⟨⟨rfl, rfl, rfl, rfl, rfl, rfl, rfl, rfl⟩, hx, hc', hml, hret, hlk, hnm, hZ, hown, hEL, hE, hwr⟩ := C
  obtain ⟨h1, rfl⟩ := hd
  intro T locs vm X e0 N S w' A Kp ow
  have hZ' : Z'.Warmed39 (s.setVm vm).vm := State.Warmed39.trans (t := s) hZ S.1
  obtain ⟨fs, hr, g1, g2, hW, hs0⟩ := X.leave (v := (some (.long x))) (fun h => by rw [hret] at h; cases h) hlk
  obtain ⟨r1, r2, r3⟩ := S.ended (U := T.setFrames fs) hW (Nat.le_of_eq (by rw [← e0]; rfl)) hs0
  have Ch := A.trans (CHv.at X hZ' hEL A.1)
  refine ⟨T.setFrames fs, _, ?_, g1, g2, (some (.long x)), locs, os', rfl, ?_, ?_, ?_, N, ?_, ⟨⟨_, rfl⟩, r1, r2, r3.mono hce hsl⟩, fun q => ⟨⟨_, rfl⟩, State.WarmedH.trans (w' q) hW, r3.mono hce hsl⟩⟩
  · exact retOut X hx hret rfl (Or.inr (Or.inl ⟨rfl, rfl, _, rfl⟩)) (hb hc' h1) hr
  · show Q' _ T.heap os'
    rw [e0]; exact q
  · intro x hx
    obtain ⟨z1, z2⟩ := ho x hx
    obtain ⟨o1, o2, o3, o4⟩ := ow x z1
    show Safe Z' EL' T.vm T.heap x ∧ s.heap.size ≤ x ∧ x < T.heap.size
    rw [e0]
    exact ⟨(CHv.at X hZ' hEL A.1).safe o3 o1, z2, o3⟩
  · show Keep s.heap T.heap wr'
    rw [e0]; exact Kp
  · show CHr Z' EL' s.vm s.heap T.vm T.heap
    rw [e0]; exact Ch
theorem Go.dreturn {k : KT} {x : UInt64} (C : Ctx k l y bytes maxL (some .double) R Z a0 EL wd wr h0 Q) {pc pc' : Nat} (hd : De bytes pc .dreturn 1 pc') (hce : cells ≤ R.cells) (hsl : slots ≤ R.slots) (os' : List Addr) (ho : ∀ x ∈ os', x ∈ os ∧ h0.size ≤ x) (q : Q (some (.double x)) h os') : Go k h os cells slots pc Ls (.double x :: st) := by
  obtain ⟨p, l', e, R', s, m, args, below, meth, c, Z', EL', wd', wr', Q'⟩ := k
  obtain ⟨⟨rfl, rfl, rfl, rfl, rfl, rfl, rfl, rfl⟩, hx, hc', hml, hret, hlk, hnm, hZ, hown, hEL, hE, hwr⟩ := C
  obtain ⟨h1, rfl⟩ := hd
  intro T locs vm X e0 N S w' A Kp ow
  have hZ' : Z'.Warmed39 (s.setVm vm).vm := State.Warmed39.trans (t := s) hZ S.1
  obtain ⟨fs, hr, g1, g2, hW, hs0⟩ := X.leave (v := (some (.double x))) (fun h => by rw [hret] at h; cases h) hlk
  obtain ⟨r1, r2, r3⟩ := S.ended (U := T.setFrames fs) hW (Nat.le_of_eq (by rw [← e0]; rfl)) hs0
  have Ch := A.trans (CHv.at X hZ' hEL A.1)
  refine ⟨T.setFrames fs, _, ?_, g1, g2, (some (.double x)), locs, os', rfl, ?_, ?_, ?_, N, ?_, ⟨⟨_, rfl⟩, r1, r2, r3.mono hce hsl⟩, fun q => ⟨⟨_, rfl⟩, State.WarmedH.trans (w' q) hW, r3.mono hce hsl⟩⟩
  · exact retOut X hx hret rfl (Or.inr (Or.inr (Or.inl ⟨rfl, rfl, _, rfl⟩))) (hb hc' h1) hr
  · show Q' _ T.heap os'
    rw [e0]; exact q
  · intro x hx
    obtain ⟨z1, z2⟩ := ho x hx
    obtain ⟨o1, o2, o3, o4⟩ := ow x z1
    show Safe Z' EL' T.vm T.heap x ∧ s.heap.size ≤ x ∧ x < T.heap.size
    rw [e0]
    exact ⟨(CHv.at X hZ' hEL A.1).safe o3 o1, z2, o3⟩
  · show Keep s.heap T.heap wr'
    rw [e0]; exact Kp
  · show CHr Z' EL' s.vm s.heap T.vm T.heap
    rw [e0]; exact Ch
theorem Go.areturn {k : KT} {v : Value} {t : FieldType} (C : Ctx k l y bytes maxL (some t) R Z a0 EL wd wr h0 Q) {pc pc' : Nat} (hd : De bytes pc .areturn 1 pc') (hce : cells ≤ R.cells) (hsl : slots ≤ R.slots) (ht : t.isReference = true) (hvr : v.isRef = true) (os' : List Addr) (ho : ∀ x ∈ os', x ∈ os ∧ h0.size ≤ x) (q : Q (some v) h os') : Go k h os cells slots pc Ls (v :: st) := by
  obtain ⟨p, l', e, R', s, m, args, below, meth, c, Z', EL', wd', wr', Q'⟩ := k
  obtain ⟨⟨rfl, rfl, rfl, rfl, rfl, rfl, rfl, rfl⟩, hx, hc', hml, hret, hlk, hnm, hZ, hown, hEL, hE, hwr⟩ := C
  obtain ⟨h1, rfl⟩ := hd
  intro T locs vm X e0 N S w' A Kp ow
  have hZ' : Z'.Warmed39 (s.setVm vm).vm := State.Warmed39.trans (t := s) hZ S.1
  obtain ⟨fs, hr, g1, g2, hW, hs0⟩ := X.leave (v := (some v)) (fun h => by rw [hret] at h; cases h) hlk
  obtain ⟨r1, r2, r3⟩ := S.ended (U := T.setFrames fs) hW (Nat.le_of_eq (by rw [← e0]; rfl)) hs0
  have Ch := A.trans (CHv.at X hZ' hEL A.1)
  refine ⟨T.setFrames fs, _, ?_, g1, g2, (some v), locs, os', rfl, ?_, ?_, ?_, N, ?_, ⟨⟨_, rfl⟩, r1, r2, r3.mono hce hsl⟩, fun q => ⟨⟨_, rfl⟩, State.WarmedH.trans (w' q) hW, r3.mono hce hsl⟩⟩
  · exact retOut X hx hret (by cases t <;> first | rfl | cases ht) (Or.inr (Or.inr (Or.inr (Or.inr ⟨rfl, ht, hvr⟩)))) (hb hc' h1) hr
  · show Q' _ T.heap os'
    rw [e0]; exact q
  · intro x hx
    obtain ⟨z1, z2⟩ := ho x hx
    obtain ⟨o1, o2, o3, o4⟩ := ow x z1
    show Safe Z' EL' T.vm T.heap x ∧ s.heap.size ≤ x ∧ x < T.heap.size
    rw [e0]
    exact ⟨(CHv.at X hZ' hEL A.1).safe o3 o1, z2, o3⟩
  · show Keep s.heap T.heap wr'
    rw [e0]; exact Kp
  · show CHr Z' EL' s.vm s.heap T.vm T.heap
    rw [e0]; exact Ch
theorem Go.retV {k : KT}  (C : Ctx k l y bytes maxL none R Z a0 EL wd wr h0 Q) {pc pc' : Nat} (hd : De bytes pc .return_ 1 pc') (hce : cells ≤ R.cells) (hsl : slots ≤ R.slots) (os' : List Addr) (ho : ∀ x ∈ os', x ∈ os ∧ h0.size ≤ x) (q : Q none h os') : Go k h os cells slots pc Ls (([] : List Value)) := by
  obtain ⟨p, l', e, R', s, m, args, below, meth, c, Z', EL', wd', wr', Q'⟩ := k
  obtain ⟨⟨rfl, rfl, rfl, rfl, rfl, rfl, rfl, rfl⟩, hx, hc', hml, hret, hlk, hnm, hZ, hown, hEL, hE, hwr⟩ := C
  obtain ⟨h1, rfl⟩ := hd
  intro T locs vm X e0 N S w' A Kp ow
  have hZ' : Z'.Warmed39 (s.setVm vm).vm := State.Warmed39.trans (t := s) hZ S.1
  obtain ⟨fs, hr, g1, g2, hW, hs0⟩ := X.leave (v := none) (fun _ => rfl) hlk
  obtain ⟨r1, r2, r3⟩ := S.ended (U := T.setFrames fs) hW (Nat.le_of_eq (by rw [← e0]; rfl)) hs0
  have Ch := A.trans (CHv.at X hZ' hEL A.1)
  refine ⟨T.setFrames fs, _, ?_, g1, g2, none, locs, os', rfl, ?_, ?_, ?_, N, ?_, ⟨⟨_, rfl⟩, r1, r2, r3.mono hce hsl⟩, fun q => ⟨⟨_, rfl⟩, State.WarmedH.trans (w' q) hW, r3.mono hce hsl⟩⟩
  · exact X.returnOut hx hret (hb hc' h1) hr
  · show Q' _ T.heap os'
    rw [e0]; exact q
  · intro x hx
    obtain ⟨z1, z2⟩ := ho x hx
    obtain ⟨o1, o2, o3, o4⟩ := ow x z1
    show Safe Z' EL' T.vm T.heap x ∧ s.heap.size ≤ x ∧ x < T.heap.size
    rw [e0]
    exact ⟨(CHv.at X hZ' hEL A.1).safe o3 o1, z2, o3⟩
  · show Keep s.heap T.heap wr'
    rw [e0]; exact Kp
  · show CHr Z' EL' s.vm s.heap T.vm T.heap
    rw [e0]; exact Ch
theorem Con.intro {ws : List Jvm.Cond} {as' : Array Value} {rm : Room} (hpl : plainFor y = true) (hEL : EW Z a0 EL) (hen : ∀ m, entryFrame m as' maxL = mkF m 0 Ls [])
    (G : ∀ k, Ctx k l y bytes maxL ret rm Z a0 EL wd wr h Q → Go k h wr 0 0 0 Ls []) : Con l Z EL wd y bytes maxL ret rm ws as' h wr Q := by
  refine MetFree.of_bodySF hpl hisR ?_
  intro p e s m args below meth c s₁ Bd hml hP hK
  obtain ⟨rfl, hZ, rfl, H, hE, hsf⟩ := hP
  have X0 : Stand p l e rm s m args below meth c s₁ [] 0 0 := Stand.of_body Bd
  have e0 : s₁.heap = s.heap := by rw [Bd.state]; rfl
  have G' := G ⟨p, l, e, rm, s, m, args, below, meth, c, Z, EL, wd, wr, Q⟩ ⟨⟨rfl, rfl, rfl, rfl, rfl, rfl, rfl, rfl⟩, Bd.exec, Bd.bytes, hml, Bd.returns, Bd.notSynchronized, (name_of_methodNamed Bd.named Bd.method).1, hZ, findClass_of_methodNamed Bd.named, hEL, hE, fun x hx => (hsf x hx).2.1⟩
    s₁ [] s.vm X0 e0 (Fr.nil _) ((State.WarmedH.refl s).since _) (fun _ => State.WarmedH.refl s) (CHr.refl H) (Keep.refl _ _) (fun x hx => ⟨(hsf x hx).1, (hsf x hx).2.1, (hsf x hx).2.2, Or.inl hx⟩)
  obtain ⟨s', o, g1, g2, g3, g4⟩ := G'
  exact ⟨s', o, castTop (hen m) g1, g2, g3, g4⟩
end Heapy
end Jvm.OwnGo
namespace Jvm.Pilot.@@N@@
open Jvm Jvm.ClassFile Sem Op Lib Jvm.Free Jvm.Stand Jvm.LawKit Jvm.RoadKit Jvm.OwnGo Bundle Jvm.Pilot.@@N@@.Jvm.D
abbrev own_EL : List (String × Nat) := []
theorem own_ite1 {P : Prop} [Decidable P] (q : ¬ ((if P then (1 : Int32) else 0) = 0)) : (if P then (1 : Int32) else 0) = 1 := by
  by_cases h : P
  · exact if_pos h
  · exact absurd (if_neg h) q
theorem own_shr0 (x : Int32) : x >>> ((0 : Int32) &&& 31) = x := by
  rw [show ((0 : Int32) &&& 31) = 0 from by decide]; exact Int32.shiftRight_zero
def own_b (c : Int32) : Int32 := c.toInt8.toInt32
def own_L (c : Int32) : Prop := ¬ c < 0 ∧ ¬ (255 : Int32) < c
def own_lat (cs : List Int32) : Prop := ∀ c ∈ cs, own_L c
theorem own_b_nar (c : Int32) : nar .byte (own_b c) = own_b c := by
  show (c.toInt8.toInt32).toInt8.toInt32 = c.toInt8.toInt32
  rw [Int8.toInt8_toInt32]
theorem own_nil {cs : List Int32} (hl : cs.length < 2147483648) (q : Int32.ofNat cs.length = 0) : cs = [] := by
  have : Int32.ofNat cs.length = Int32.ofNat 0 := q
  exact List.eq_nil_of_length_eq_zero ((nI_eq hl (by omega)).mp this)
theorem own_set {cs : List Int32} {c : Int32} {i n : Nat} (q : i + (n + 1) = cs.length) (hc : cs[i]? = some c) : (List.map Value.int ((cs.take i).map own_b ++ List.replicate (n + 1) 0)).set i (.int (own_b c)) = List.map Value.int ((cs.take (i + 1)).map own_b ++ List.replicate n 0) := by
  have hi : i < cs.length := by omega
  have ht : (cs.take i).length = i := by simp; omega
  rw [← List.map_set, List.set_append_right _ _ (by simp [ht]; omega), List.take_add_one, hc]
  simp [ht, List.replicate_succ, show min i cs.length = i by omega]
theorem own_L_int {x : Int32} (h : own_L x) : 0 ≤ x.toInt ∧ x.toInt ≤ 255 := by
  obtain ⟨h1, h2⟩ := h
  rw [Int32.lt_iff_toInt_lt] at h1 h2
  have e0 : (0 : Int32).toInt = 0 := rfl
  have e1 : (255 : Int32).toInt = 255 := rfl
  omega
theorem own_L_of {x : Int32} (h1 : 0 ≤ x.toInt) (h2 : x.toInt ≤ 255) : own_L x := by
  have e0 : (0 : Int32).toInt = 0 := rfl
  have e1 : (255 : Int32).toInt = 255 := rfl
  constructor <;> rw [Int32.lt_iff_toInt_lt] <;> omega
theorem own_nar_lat {x : Int32} (h : own_L x) : nar .char x = x := by
  obtain ⟨h1, h2⟩ := own_L_int h
  obtain ⟨g0, g1, g2⟩ := c_i2c x
  exact Int32.toInt_inj.mp (by show x.toUInt32.toUInt16.toUInt32.toInt32.toInt = _; omega)
theorem own_c8i {x z : Int32} (e : (x &&& (255 : Int32)).toUInt32.toUInt16.toUInt32.toInt32 = z) : own_L z := by
  subst e
  have a := c_mask x 255 8 (by decide) (by decide)
  have a' : (x &&& 255).toInt = x.toInt % 256 := a
  obtain ⟨g0, g1, g2⟩ := c_i2c (x &&& (255 : Int32))
  exact own_L_of (by omega) (by omega)
theorem own_lat2 {p q : Int32} (h1 : own_L p) (h2 : own_L q) : own_lat [p, q] := fun c hc => by
  simp only [List.mem_cons, List.not_mem_nil, or_false] at hc
  rcases hc with rfl | rfl
  · exact h1
  · exact h2
theorem own_fi {x z : Int32} (e : ((x &&& (7 : Int32)) % (6 : Int32)) = z) : 0 ≤ z.toInt ∧ z.toInt < 6 := by
  subst e
  have a := c_mask x 7 3 (by decide) (by decide)
  have a' : (x &&& 7).toInt = x.toInt % 8 := a
  have b := (c_irem (x &&& 7) 6 6 rfl).1 (by omega)
  omega
theorem own_fi_nn {z : Int32} (h : 0 ≤ z.toInt ∧ z.toInt < 6) : ¬ z < 0 := by
  rw [Int32.lt_iff_toInt_lt]; have e0 : (0 : Int32).toInt = 0 := rfl; omega
theorem own_pick6 {z : Int32} (h : 0 ≤ z.toInt ∧ z.toInt < 6) {a b c d e f : Value} (ha : a.isRef = true) (hb : b.isRef = true) (hc : c.isRef = true) (hd : d.isRef = true) (he : e.isRef = true) (hf : f.isRef = true) : ∃ v : Value, ([a, b, c, d, e, f] : List Value)[z.toNatClampNeg]? = some v ∧ v.isRef = true := by
  have q : z.toNatClampNeg = 0 ∨ z.toNatClampNeg = 1 ∨ z.toNatClampNeg = 2 ∨ z.toNatClampNeg = 3 ∨ z.toNatClampNeg = 4 ∨ z.toNatClampNeg = 5 := by rw [Int32.toNatClampNeg]; omega
  rcases q with q | q | q | q | q | q <;> rw [q]
  · exact ⟨a, rfl, ha⟩
  · exact ⟨b, rfl, hb⟩
  · exact ⟨c, rfl, hc⟩
  · exact ⟨d, rfl, hd⟩
  · exact ⟨e, rfl, he⟩
  · exact ⟨f, rfl, hf⟩
abbrev y_12 : MethodName := ⟨"com/example/dossier_relay/dossierrelay/bundle/BundleObject", "namesParentByReference", "()Z"⟩
abbrev y_11 : MethodName := ⟨"com/example/dossier_relay/dossierrelay/bundle/BundleObject", "<init>", "(Lcom/example/dossier_relay/dossierrelay/bundle/BundleFile;ILjava/lang/String;Ljava/lang/String;Ljava/lang/String;ZLjava/lang/String;ZI[I)V"⟩
abbrev y_10 : MethodName := ⟨"java/lang/Record", "<init>", "()V"⟩
abbrev y_9 : MethodName := ⟨"com/example/dossier_relay/dossierrelay/bundle/BundleObjectNamesParentByReferencePinLaw", "drawn", "(II)Ljava/lang/String;"⟩
abbrev y_8 : MethodName := ⟨"java/lang/String", "valueOf", "(C)Ljava/lang/String;"⟩
abbrev y_7 : MethodName := ⟨"java/lang/String", "<init>", "([BB)V"⟩
abbrev y_6 : MethodName := ⟨"java/lang/StringLatin1", "toBytes", "(C)[B"⟩
abbrev y_5 : MethodName := ⟨"java/lang/StringLatin1", "canEncode", "(C)Z"⟩
abbrev y_4 : MethodName := ⟨"java/lang/String", "<init>", "([C)V"⟩
abbrev y_3 : MethodName := ⟨"java/lang/String", "<init>", "([CIILjava/lang/Void;)V"⟩
abbrev y_2 : MethodName := ⟨"java/lang/StringUTF16", "coderFromArrayLen", "([BI)B"⟩
abbrev y_1 : MethodName := ⟨"java/lang/StringUTF16", "compress", "([CII)[B"⟩
abbrev y_0 : MethodName := ⟨"java/lang/StringUTF16", "compress", "([CI[BII)I"⟩
theorem d0_0 : De code 0 (.bipush 6) 2 2 := ⟨by decide +kernel, rfl⟩
theorem d0_2 : De code 2 (.anewarray 18) 3 5 := ⟨by decide +kernel, rfl⟩
theorem d0_5 : De code 5 (.dup) 1 6 := ⟨by decide +kernel, rfl⟩
theorem d0_6 : De code 6 (.iconst 0) 1 7 := ⟨by decide +kernel, rfl⟩
theorem d0_7 : De code 7 (.getstatic 20) 3 10 := ⟨by decide +kernel, rfl⟩
theorem d0_10 : De code 10 (.aastore) 1 11 := ⟨by decide +kernel, rfl⟩
theorem d0_11 : De code 11 (.dup) 1 12 := ⟨by decide +kernel, rfl⟩
theorem d0_12 : De code 12 (.iconst 1) 1 13 := ⟨by decide +kernel, rfl⟩
theorem d0_13 : De code 13 (.getstatic 24) 3 16 := ⟨by decide +kernel, rfl⟩
theorem d0_16 : De code 16 (.aastore) 1 17 := ⟨by decide +kernel, rfl⟩
theorem d0_17 : De code 17 (.dup) 1 18 := ⟨by decide +kernel, rfl⟩
theorem d0_18 : De code 18 (.iconst 2) 1 19 := ⟨by decide +kernel, rfl⟩
theorem d0_19 : De code 19 (.getstatic 27) 3 22 := ⟨by decide +kernel, rfl⟩
theorem d0_22 : De code 22 (.aastore) 1 23 := ⟨by decide +kernel, rfl⟩
theorem d0_23 : De code 23 (.dup) 1 24 := ⟨by decide +kernel, rfl⟩
theorem d0_24 : De code 24 (.iconst 3) 1 25 := ⟨by decide +kernel, rfl⟩
theorem d0_25 : De code 25 (.getstatic 30) 3 28 := ⟨by decide +kernel, rfl⟩
theorem d0_28 : De code 28 (.aastore) 1 29 := ⟨by decide +kernel, rfl⟩
theorem d0_29 : De code 29 (.dup) 1 30 := ⟨by decide +kernel, rfl⟩
theorem d0_30 : De code 30 (.iconst 4) 1 31 := ⟨by decide +kernel, rfl⟩
theorem d0_31 : De code 31 (.getstatic 33) 3 34 := ⟨by decide +kernel, rfl⟩
theorem d0_34 : De code 34 (.aastore) 1 35 := ⟨by decide +kernel, rfl⟩
theorem d0_35 : De code 35 (.dup) 1 36 := ⟨by decide +kernel, rfl⟩
theorem d0_36 : De code 36 (.iconst 5) 1 37 := ⟨by decide +kernel, rfl⟩
theorem d0_37 : De code 37 (.getstatic 36) 3 40 := ⟨by decide +kernel, rfl⟩
theorem d0_40 : De code 40 (.aastore) 1 41 := ⟨by decide +kernel, rfl⟩
theorem d0_41 : De code 41 (.astore 5) 2 43 := ⟨by decide +kernel, rfl⟩
theorem d0_43 : De code 43 (.iload_n 0) 1 44 := ⟨by decide +kernel, rfl⟩
theorem d0_44 : De code 44 (.iconst 1) 1 45 := ⟨by decide +kernel, rfl⟩
theorem d0_45 : De code 45 (.iand) 1 46 := ⟨by decide +kernel, rfl⟩
theorem d0_46 : DeJ code 46 (.ifCond .eq) 49 53 := ⟨7, by decide +kernel, rfl, by decide, by decide⟩
theorem d0_49 : De code 49 (.iconst 1) 1 50 := ⟨by decide +kernel, rfl⟩
theorem d0_50 : DeJ code 50 .goto 53 54 := ⟨4, by decide +kernel, rfl, by decide, by decide⟩
theorem d0_53 : De code 53 (.iconst 0) 1 54 := ⟨by decide +kernel, rfl⟩
theorem d0_54 : De code 54 (.istore 6) 2 56 := ⟨by decide +kernel, rfl⟩
theorem d0_56 : De code 56 (.iload_n 0) 1 57 := ⟨by decide +kernel, rfl⟩
theorem d0_57 : De code 57 (.iconst 2) 1 58 := ⟨by decide +kernel, rfl⟩
theorem d0_58 : De code 58 (.iand) 1 59 := ⟨by decide +kernel, rfl⟩
theorem d0_59 : DeJ code 59 (.ifCond .eq) 62 66 := ⟨7, by decide +kernel, rfl, by decide, by decide⟩
theorem d0_62 : De code 62 (.iconst 1) 1 63 := ⟨by decide +kernel, rfl⟩
theorem d0_63 : DeJ code 63 .goto 66 67 := ⟨4, by decide +kernel, rfl, by decide, by decide⟩
theorem d0_66 : De code 66 (.iconst 0) 1 67 := ⟨by decide +kernel, rfl⟩
theorem d0_67 : De code 67 (.istore 7) 2 69 := ⟨by decide +kernel, rfl⟩
theorem d0_69 : De code 69 (.iload_n 0) 1 70 := ⟨by decide +kernel, rfl⟩
theorem d0_70 : De code 70 (.iconst 4) 1 71 := ⟨by decide +kernel, rfl⟩
theorem d0_71 : De code 71 (.iand) 1 72 := ⟨by decide +kernel, rfl⟩
theorem d0_72 : DeJ code 72 (.ifCond .eq) 75 79 := ⟨7, by decide +kernel, rfl, by decide, by decide⟩
theorem d0_75 : De code 75 (.iconst 1) 1 76 := ⟨by decide +kernel, rfl⟩
theorem d0_76 : DeJ code 76 .goto 79 80 := ⟨4, by decide +kernel, rfl, by decide, by decide⟩
theorem d0_79 : De code 79 (.iconst 0) 1 80 := ⟨by decide +kernel, rfl⟩
theorem d0_80 : De code 80 (.istore 8) 2 82 := ⟨by decide +kernel, rfl⟩
theorem d0_82 : De code 82 (.iload_n 0) 1 83 := ⟨by decide +kernel, rfl⟩
theorem d0_83 : De code 83 (.bipush 8) 2 85 := ⟨by decide +kernel, rfl⟩
theorem d0_85 : De code 85 (.iand) 1 86 := ⟨by decide +kernel, rfl⟩
theorem d0_86 : DeJ code 86 (.ifCond .eq) 89 93 := ⟨7, by decide +kernel, rfl, by decide, by decide⟩
theorem d0_89 : De code 89 (.iconst 1) 1 90 := ⟨by decide +kernel, rfl⟩
theorem d0_90 : DeJ code 90 .goto 93 94 := ⟨4, by decide +kernel, rfl, by decide, by decide⟩
theorem d0_93 : De code 93 (.iconst 0) 1 94 := ⟨by decide +kernel, rfl⟩
theorem d0_94 : De code 94 (.istore 9) 2 96 := ⟨by decide +kernel, rfl⟩
theorem d0_96 : De code 96 (.iload_n 0) 1 97 := ⟨by decide +kernel, rfl⟩
theorem d0_97 : De code 97 (.bipush 16) 2 99 := ⟨by decide +kernel, rfl⟩
theorem d0_99 : De code 99 (.iand) 1 100 := ⟨by decide +kernel, rfl⟩
theorem d0_100 : DeJ code 100 (.ifCond .eq) 103 107 := ⟨7, by decide +kernel, rfl, by decide, by decide⟩
theorem d0_103 : De code 103 (.iconst 1) 1 104 := ⟨by decide +kernel, rfl⟩
theorem d0_104 : DeJ code 104 .goto 107 108 := ⟨4, by decide +kernel, rfl, by decide, by decide⟩
theorem d0_107 : De code 107 (.iconst 0) 1 108 := ⟨by decide +kernel, rfl⟩
theorem d0_108 : De code 108 (.istore 10) 2 110 := ⟨by decide +kernel, rfl⟩
theorem d0_110 : De code 110 (.iload_n 0) 1 111 := ⟨by decide +kernel, rfl⟩
theorem d0_111 : De code 111 (.bipush 32) 2 113 := ⟨by decide +kernel, rfl⟩
theorem d0_113 : De code 113 (.iand) 1 114 := ⟨by decide +kernel, rfl⟩
theorem d0_114 : DeJ code 114 (.ifCond .eq) 117 121 := ⟨7, by decide +kernel, rfl, by decide, by decide⟩
theorem d0_117 : De code 117 (.iconst 1) 1 118 := ⟨by decide +kernel, rfl⟩
theorem d0_118 : DeJ code 118 .goto 121 122 := ⟨4, by decide +kernel, rfl, by decide, by decide⟩
theorem d0_121 : De code 121 (.iconst 0) 1 122 := ⟨by decide +kernel, rfl⟩
theorem d0_122 : De code 122 (.istore 11) 2 124 := ⟨by decide +kernel, rfl⟩
theorem d0_124 : De code 124 (.iload_n 0) 1 125 := ⟨by decide +kernel, rfl⟩
theorem d0_125 : De code 125 (.bipush 64) 2 127 := ⟨by decide +kernel, rfl⟩
theorem d0_127 : De code 127 (.iand) 1 128 := ⟨by decide +kernel, rfl⟩
theorem d0_128 : DeJ code 128 (.ifCond .eq) 131 135 := ⟨7, by decide +kernel, rfl, by decide, by decide⟩
theorem d0_131 : De code 131 (.iconst 1) 1 132 := ⟨by decide +kernel, rfl⟩
theorem d0_132 : DeJ code 132 .goto 135 136 := ⟨4, by decide +kernel, rfl, by decide, by decide⟩
theorem d0_135 : De code 135 (.iconst 0) 1 136 := ⟨by decide +kernel, rfl⟩
theorem d0_136 : De code 136 (.istore 12) 2 138 := ⟨by decide +kernel, rfl⟩
theorem d0_138 : De code 138 (.iload_n 0) 1 139 := ⟨by decide +kernel, rfl⟩
theorem d0_139 : De code 139 (.bipush 7) 2 141 := ⟨by decide +kernel, rfl⟩
theorem d0_141 : De code 141 (.iushr) 1 142 := ⟨by decide +kernel, rfl⟩
theorem d0_142 : De code 142 (.bipush 7) 2 144 := ⟨by decide +kernel, rfl⟩
theorem d0_144 : De code 144 (.iand) 1 145 := ⟨by decide +kernel, rfl⟩
theorem d0_145 : De code 145 (.bipush 6) 2 147 := ⟨by decide +kernel, rfl⟩
theorem d0_147 : De code 147 (.irem) 1 148 := ⟨by decide +kernel, rfl⟩
theorem d0_148 : De code 148 (.istore 13) 2 150 := ⟨by decide +kernel, rfl⟩
theorem d0_150 : De code 150 (.iload_n 0) 1 151 := ⟨by decide +kernel, rfl⟩
theorem d0_151 : De code 151 (.bipush 10) 2 153 := ⟨by decide +kernel, rfl⟩
theorem d0_153 : De code 153 (.iushr) 1 154 := ⟨by decide +kernel, rfl⟩
theorem d0_154 : De code 154 (.iconst 3) 1 155 := ⟨by decide +kernel, rfl⟩
theorem d0_155 : De code 155 (.iand) 1 156 := ⟨by decide +kernel, rfl⟩
theorem d0_156 : De code 156 (.istore 14) 2 158 := ⟨by decide +kernel, rfl⟩
theorem d0_158 : De code 158 (.iload 14) 2 160 := ⟨by decide +kernel, rfl⟩
theorem d0_160 : De code 160 (.iconst 2) 1 161 := ⟨by decide +kernel, rfl⟩
theorem d0_161 : DeJ code 161 (.if_icmp .le) 164 167 := ⟨6, by decide +kernel, rfl, by decide, by decide⟩
theorem d0_164 : De code 164 (.iconst 2) 1 165 := ⟨by decide +kernel, rfl⟩
theorem d0_165 : De code 165 (.istore 14) 2 167 := ⟨by decide +kernel, rfl⟩
theorem d0_167 : De code 167 (.iload_n 0) 1 168 := ⟨by decide +kernel, rfl⟩
theorem d0_168 : De code 168 (.bipush 12) 2 170 := ⟨by decide +kernel, rfl⟩
theorem d0_170 : De code 170 (.iushr) 1 171 := ⟨by decide +kernel, rfl⟩
theorem d0_171 : De code 171 (.iconst 3) 1 172 := ⟨by decide +kernel, rfl⟩
theorem d0_172 : De code 172 (.iand) 1 173 := ⟨by decide +kernel, rfl⟩
theorem d0_173 : De code 173 (.istore 15) 2 175 := ⟨by decide +kernel, rfl⟩
theorem d0_175 : De code 175 (.iload 15) 2 177 := ⟨by decide +kernel, rfl⟩
theorem d0_177 : De code 177 (.iconst 2) 1 178 := ⟨by decide +kernel, rfl⟩
theorem d0_178 : DeJ code 178 (.if_icmp .le) 181 184 := ⟨6, by decide +kernel, rfl, by decide, by decide⟩
theorem d0_181 : De code 181 (.iconst 2) 1 182 := ⟨by decide +kernel, rfl⟩
theorem d0_182 : De code 182 (.istore 15) 2 184 := ⟨by decide +kernel, rfl⟩
theorem d0_184 : De code 184 (.iload 6) 2 186 := ⟨by decide +kernel, rfl⟩
theorem d0_186 : DeJ code 186 (.ifCond .eq) 189 193 := ⟨7, by decide +kernel, rfl, by decide, by decide⟩
theorem d0_189 : De code 189 (.aconst_null) 1 190 := ⟨by decide +kernel, rfl⟩
theorem d0_190 : DeJ code 190 .goto 193 199 := ⟨9, by decide +kernel, rfl, by decide, by decide⟩
theorem d0_193 : De code 193 (.iload_n 1) 1 194 := ⟨by decide +kernel, rfl⟩
theorem d0_194 : De code 194 (.iload 14) 2 196 := ⟨by decide +kernel, rfl⟩
theorem d0_196 : De code 196 (.invokestatic 39) 3 199 := ⟨by decide +kernel, rfl⟩
theorem d0_199 : De code 199 (.astore 16) 2 201 := ⟨by decide +kernel, rfl⟩
theorem d0_201 : De code 201 (.iload 9) 2 203 := ⟨by decide +kernel, rfl⟩
theorem d0_203 : DeJ code 203 (.ifCond .eq) 206 210 := ⟨7, by decide +kernel, rfl, by decide, by decide⟩
theorem d0_206 : De code 206 (.aconst_null) 1 207 := ⟨by decide +kernel, rfl⟩
theorem d0_207 : DeJ code 207 .goto 210 216 := ⟨9, by decide +kernel, rfl, by decide, by decide⟩
theorem d0_210 : De code 210 (.iload_n 2) 1 211 := ⟨by decide +kernel, rfl⟩
theorem d0_211 : De code 211 (.iload 15) 2 213 := ⟨by decide +kernel, rfl⟩
theorem d0_213 : De code 213 (.invokestatic 39) 3 216 := ⟨by decide +kernel, rfl⟩
theorem d0_216 : De code 216 (.astore 17) 2 218 := ⟨by decide +kernel, rfl⟩
theorem d0_218 : De code 218 (.iload 7) 2 220 := ⟨by decide +kernel, rfl⟩
theorem d0_220 : DeJ code 220 (.ifCond .eq) 223 232 := ⟨12, by decide +kernel, rfl, by decide, by decide⟩
theorem d0_223 : De code 223 (.aload 17) 2 225 := ⟨by decide +kernel, rfl⟩
theorem d0_225 : DeJ code 225 .ifnull 228 232 := ⟨7, by decide +kernel, rfl, by decide, by decide⟩
theorem d0_228 : De code 228 (.iconst 1) 1 229 := ⟨by decide +kernel, rfl⟩
theorem d0_229 : DeJ code 229 .goto 232 233 := ⟨4, by decide +kernel, rfl, by decide, by decide⟩
theorem d0_232 : De code 232 (.iconst 0) 1 233 := ⟨by decide +kernel, rfl⟩
theorem d0_233 : De code 233 (.istore 18) 2 235 := ⟨by decide +kernel, rfl⟩
theorem d0_235 : De code 235 (.iload 11) 2 237 := ⟨by decide +kernel, rfl⟩
theorem d0_237 : DeJ code 237 (.ifCond .eq) 240 244 := ⟨7, by decide +kernel, rfl, by decide, by decide⟩
theorem d0_240 : De code 240 (.aconst_null) 1 241 := ⟨by decide +kernel, rfl⟩
theorem d0_241 : DeJ code 241 .goto 244 252 := ⟨11, by decide +kernel, rfl, by decide, by decide⟩
theorem d0_244 : De code 244 (.iload_n 1) 1 245 := ⟨by decide +kernel, rfl⟩
theorem d0_245 : De code 245 (.bipush 16) 2 247 := ⟨by decide +kernel, rfl⟩
theorem d0_247 : De code 247 (.iushr) 1 248 := ⟨by decide +kernel, rfl⟩
theorem d0_248 : De code 248 (.iconst 2) 1 249 := ⟨by decide +kernel, rfl⟩
theorem d0_249 : De code 249 (.invokestatic 39) 3 252 := ⟨by decide +kernel, rfl⟩
theorem d0_252 : De code 252 (.astore 19) 2 254 := ⟨by decide +kernel, rfl⟩
theorem d0_254 : De code 254 (.iload 10) 2 256 := ⟨by decide +kernel, rfl⟩
theorem d0_256 : DeJ code 256 (.ifCond .eq) 259 263 := ⟨7, by decide +kernel, rfl, by decide, by decide⟩
theorem d0_259 : De code 259 (.aconst_null) 1 260 := ⟨by decide +kernel, rfl⟩
theorem d0_260 : DeJ code 260 .goto 263 271 := ⟨11, by decide +kernel, rfl, by decide, by decide⟩
theorem d0_263 : De code 263 (.iload_n 2) 1 264 := ⟨by decide +kernel, rfl⟩
theorem d0_264 : De code 264 (.bipush 16) 2 266 := ⟨by decide +kernel, rfl⟩
theorem d0_266 : De code 266 (.iushr) 1 267 := ⟨by decide +kernel, rfl⟩
theorem d0_267 : De code 267 (.iconst 1) 1 268 := ⟨by decide +kernel, rfl⟩
theorem d0_268 : De code 268 (.invokestatic 39) 3 271 := ⟨by decide +kernel, rfl⟩
theorem d0_271 : De code 271 (.astore 20) 2 273 := ⟨by decide +kernel, rfl⟩
theorem d0_273 : De code 273 (.iload 12) 2 275 := ⟨by decide +kernel, rfl⟩
theorem d0_275 : DeJ code 275 (.ifCond .eq) 278 282 := ⟨7, by decide +kernel, rfl, by decide, by decide⟩
theorem d0_278 : De code 278 (.aconst_null) 1 279 := ⟨by decide +kernel, rfl⟩
theorem d0_279 : DeJ code 279 .goto 282 289 := ⟨10, by decide +kernel, rfl, by decide, by decide⟩
theorem d0_282 : De code 282 (.iconst 1) 1 283 := ⟨by decide +kernel, rfl⟩
theorem d0_283 : De code 283 (.newarray .int) 2 285 := ⟨by decide +kernel, rfl⟩
theorem d0_285 : De code 285 (.dup) 1 286 := ⟨by decide +kernel, rfl⟩
theorem d0_286 : De code 286 (.iconst 0) 1 287 := ⟨by decide +kernel, rfl⟩
theorem d0_287 : De code 287 (.iload_n 3) 1 288 := ⟨by decide +kernel, rfl⟩
theorem d0_288 : De code 288 (.iastore) 1 289 := ⟨by decide +kernel, rfl⟩
theorem d0_289 : De code 289 (.astore 21) 2 291 := ⟨by decide +kernel, rfl⟩
theorem d0_291 : De code 291 (.new 45) 3 294 := ⟨by decide +kernel, rfl⟩
theorem d0_294 : De code 294 (.dup) 1 295 := ⟨by decide +kernel, rfl⟩
theorem d0_295 : De code 295 (.aload 5) 2 297 := ⟨by decide +kernel, rfl⟩
theorem d0_297 : De code 297 (.iload 13) 2 299 := ⟨by decide +kernel, rfl⟩
theorem d0_299 : De code 299 (.aaload) 1 300 := ⟨by decide +kernel, rfl⟩
theorem d0_300 : De code 300 (.iload_n 3) 1 301 := ⟨by decide +kernel, rfl⟩
theorem d0_301 : De code 301 (.aload 19) 2 303 := ⟨by decide +kernel, rfl⟩
theorem d0_303 : De code 303 (.aload 16) 2 305 := ⟨by decide +kernel, rfl⟩
theorem d0_305 : De code 305 (.aload 17) 2 307 := ⟨by decide +kernel, rfl⟩
theorem d0_307 : De code 307 (.iload 18) 2 309 := ⟨by decide +kernel, rfl⟩
theorem d0_309 : De code 309 (.aload 20) 2 311 := ⟨by decide +kernel, rfl⟩
theorem d0_311 : De code 311 (.iload 8) 2 313 := ⟨by decide +kernel, rfl⟩
theorem d0_313 : De code 313 (.iload 4) 2 315 := ⟨by decide +kernel, rfl⟩
theorem d0_315 : De code 315 (.aload 21) 2 317 := ⟨by decide +kernel, rfl⟩
theorem d0_317 : De code 317 (.invokespecial 47) 3 320 := ⟨by decide +kernel, rfl⟩
theorem d0_320 : De code 320 (.astore 22) 2 322 := ⟨by decide +kernel, rfl⟩
theorem d0_322 : De code 322 (.aload 16) 2 324 := ⟨by decide +kernel, rfl⟩
theorem d0_324 : DeJ code 324 .ifnull 327 333 := ⟨9, by decide +kernel, rfl, by decide, by decide⟩
theorem d0_327 : De code 327 (.iconst 0) 1 328 := ⟨by decide +kernel, rfl⟩
theorem d0_328 : De code 328 (.istore 23) 2 330 := ⟨by decide +kernel, rfl⟩
theorem d0_330 : DeJ code 330 .goto 333 347 := ⟨17, by decide +kernel, rfl, by decide, by decide⟩
theorem d0_333 : De code 333 (.iload 18) 2 335 := ⟨by decide +kernel, rfl⟩
theorem d0_335 : DeJ code 335 (.ifCond .ne) 338 344 := ⟨9, by decide +kernel, rfl, by decide, by decide⟩
theorem d0_338 : De code 338 (.iconst 0) 1 339 := ⟨by decide +kernel, rfl⟩
theorem d0_339 : De code 339 (.istore 23) 2 341 := ⟨by decide +kernel, rfl⟩
theorem d0_341 : DeJ code 341 .goto 344 347 := ⟨6, by decide +kernel, rfl, by decide, by decide⟩
theorem d0_344 : De code 344 (.iconst 1) 1 345 := ⟨by decide +kernel, rfl⟩
theorem d0_345 : De code 345 (.istore 23) 2 347 := ⟨by decide +kernel, rfl⟩
theorem d0_347 : De code 347 (.aload 22) 2 349 := ⟨by decide +kernel, rfl⟩
theorem d0_349 : De code 349 (.invokevirtual 50) 3 352 := ⟨by decide +kernel, rfl⟩
theorem d0_352 : De code 352 (.iload 23) 2 354 := ⟨by decide +kernel, rfl⟩
theorem d0_354 : DeJ code 354 (.if_icmp .ne) 357 361 := ⟨7, by decide +kernel, rfl, by decide, by decide⟩
theorem d0_357 : De code 357 (.iconst 1) 1 358 := ⟨by decide +kernel, rfl⟩
theorem d0_358 : DeJ code 358 .goto 361 362 := ⟨4, by decide +kernel, rfl, by decide, by decide⟩
theorem d0_362 : De code 362 (.ireturn) 1 363 := ⟨by decide +kernel, rfl⟩
theorem d1_0 : De method_2_code 0 (.iload_n 0) 1 1 := ⟨by decide +kernel, rfl⟩
theorem d1_1 : De method_2_code 1 (.sipush 255) 3 4 := ⟨by decide +kernel, rfl⟩
theorem d1_4 : De method_2_code 4 (.iand) 1 5 := ⟨by decide +kernel, rfl⟩
theorem d1_5 : De method_2_code 5 (.i2c) 1 6 := ⟨by decide +kernel, rfl⟩
theorem d1_6 : De method_2_code 6 (.istore_n 2) 1 7 := ⟨by decide +kernel, rfl⟩
theorem d1_7 : De method_2_code 7 (.iload_n 0) 1 8 := ⟨by decide +kernel, rfl⟩
theorem d1_8 : De method_2_code 8 (.bipush 8) 2 10 := ⟨by decide +kernel, rfl⟩
theorem d1_10 : De method_2_code 10 (.iushr) 1 11 := ⟨by decide +kernel, rfl⟩
theorem d1_11 : De method_2_code 11 (.sipush 255) 3 14 := ⟨by decide +kernel, rfl⟩
theorem d1_14 : De method_2_code 14 (.iand) 1 15 := ⟨by decide +kernel, rfl⟩
theorem d1_15 : De method_2_code 15 (.i2c) 1 16 := ⟨by decide +kernel, rfl⟩
theorem d1_16 : De method_2_code 16 (.istore_n 3) 1 17 := ⟨by decide +kernel, rfl⟩
theorem d1_17 : De method_2_code 17 (.iload_n 1) 1 18 := ⟨by decide +kernel, rfl⟩
theorem d1_18 : DeJ method_2_code 18 (.ifCond .ne) 21 24 := ⟨6, by decide +kernel, rfl, by decide, by decide⟩
theorem d1_21 : De method_2_code 21 (.ldc 7) 2 23 := ⟨by decide +kernel, rfl⟩
theorem d1_23 : De method_2_code 23 (.areturn) 1 24 := ⟨by decide +kernel, rfl⟩
theorem d1_24 : De method_2_code 24 (.iload_n 1) 1 25 := ⟨by decide +kernel, rfl⟩
theorem d1_25 : De method_2_code 25 (.iconst 1) 1 26 := ⟨by decide +kernel, rfl⟩
theorem d1_26 : DeJ method_2_code 26 (.if_icmp .ne) 29 34 := ⟨8, by decide +kernel, rfl, by decide, by decide⟩
theorem d1_29 : De method_2_code 29 (.iload_n 2) 1 30 := ⟨by decide +kernel, rfl⟩
theorem d1_30 : De method_2_code 30 (.invokestatic 9) 3 33 := ⟨by decide +kernel, rfl⟩
theorem d1_33 : De method_2_code 33 (.areturn) 1 34 := ⟨by decide +kernel, rfl⟩
theorem d1_34 : De method_2_code 34 (.iconst 2) 1 35 := ⟨by decide +kernel, rfl⟩
theorem d1_35 : De method_2_code 35 (.newarray .char) 2 37 := ⟨by decide +kernel, rfl⟩
theorem d1_37 : De method_2_code 37 (.astore 4) 2 39 := ⟨by decide +kernel, rfl⟩
theorem d1_39 : De method_2_code 39 (.aload 4) 2 41 := ⟨by decide +kernel, rfl⟩
theorem d1_41 : De method_2_code 41 (.iconst 0) 1 42 := ⟨by decide +kernel, rfl⟩
theorem d1_42 : De method_2_code 42 (.iload_n 2) 1 43 := ⟨by decide +kernel, rfl⟩
theorem d1_43 : De method_2_code 43 (.castore) 1 44 := ⟨by decide +kernel, rfl⟩
theorem d1_44 : De method_2_code 44 (.aload 4) 2 46 := ⟨by decide +kernel, rfl⟩
theorem d1_46 : De method_2_code 46 (.iconst 1) 1 47 := ⟨by decide +kernel, rfl⟩
theorem d1_47 : De method_2_code 47 (.iload_n 3) 1 48 := ⟨by decide +kernel, rfl⟩
theorem d1_48 : De method_2_code 48 (.castore) 1 49 := ⟨by decide +kernel, rfl⟩
theorem d1_49 : De method_2_code 49 (.new 10) 3 52 := ⟨by decide +kernel, rfl⟩
theorem d1_52 : De method_2_code 52 (.dup) 1 53 := ⟨by decide +kernel, rfl⟩
theorem d1_53 : De method_2_code 53 (.aload 4) 2 55 := ⟨by decide +kernel, rfl⟩
theorem d1_55 : De method_2_code 55 (.invokespecial 15) 3 58 := ⟨by decide +kernel, rfl⟩
theorem d1_58 : De method_2_code 58 (.areturn) 1 59 := ⟨by decide +kernel, rfl⟩
theorem d2_0 : De jdk_42_method_3_code 0 (.aload_n 0) 1 1 := ⟨by decide +kernel, rfl⟩
theorem d2_1 : De jdk_42_method_3_code 1 (.aload_n 1) 1 2 := ⟨by decide +kernel, rfl⟩
theorem d2_2 : De jdk_42_method_3_code 2 (.iconst 0) 1 3 := ⟨by decide +kernel, rfl⟩
theorem d2_3 : De jdk_42_method_3_code 3 (.aload_n 1) 1 4 := ⟨by decide +kernel, rfl⟩
theorem d2_4 : De jdk_42_method_3_code 4 (.arraylength) 1 5 := ⟨by decide +kernel, rfl⟩
theorem d2_5 : De jdk_42_method_3_code 5 (.aconst_null) 1 6 := ⟨by decide +kernel, rfl⟩
theorem d2_6 : De jdk_42_method_3_code 6 (.invokespecial 27) 3 9 := ⟨by decide +kernel, rfl⟩
theorem d2_9 : De jdk_42_method_3_code 9 (.return_) 1 10 := ⟨by decide +kernel, rfl⟩
theorem d3_0 : De jdk_42_method_149_code 0 (.aload_n 0) 1 1 := ⟨by decide +kernel, rfl⟩
theorem d3_1 : De jdk_42_method_149_code 1 (.invokespecial 1) 3 4 := ⟨by decide +kernel, rfl⟩
theorem d3_4 : De jdk_42_method_149_code 4 (.iload_n 3) 1 5 := ⟨by decide +kernel, rfl⟩
theorem d3_5 : DeJ jdk_42_method_149_code 5 (.ifCond .ne) 8 27 := ⟨22, by decide +kernel, rfl, by decide, by decide⟩
theorem d3_27 : De jdk_42_method_149_code 27 (.getstatic 38) 3 30 := ⟨by decide +kernel, rfl⟩
theorem d3_30 : DeJ jdk_42_method_149_code 30 (.ifCond .eq) 33 58 := ⟨28, by decide +kernel, rfl, by decide, by decide⟩
theorem d3_33 : De jdk_42_method_149_code 33 (.aload_n 1) 1 34 := ⟨by decide +kernel, rfl⟩
theorem d3_34 : De jdk_42_method_149_code 34 (.iload_n 2) 1 35 := ⟨by decide +kernel, rfl⟩
theorem d3_35 : De jdk_42_method_149_code 35 (.iload_n 3) 1 36 := ⟨by decide +kernel, rfl⟩
theorem d3_36 : De jdk_42_method_149_code 36 (.invokestatic 177) 3 39 := ⟨by decide +kernel, rfl⟩
theorem d3_39 : De jdk_42_method_149_code 39 (.astore 5) 2 41 := ⟨by decide +kernel, rfl⟩
theorem d3_41 : De jdk_42_method_149_code 41 (.aload_n 0) 1 42 := ⟨by decide +kernel, rfl⟩
theorem d3_42 : De jdk_42_method_149_code 42 (.aload 5) 2 44 := ⟨by decide +kernel, rfl⟩
theorem d3_44 : De jdk_42_method_149_code 44 (.iload_n 3) 1 45 := ⟨by decide +kernel, rfl⟩
theorem d3_45 : De jdk_42_method_149_code 45 (.invokestatic 47) 3 48 := ⟨by decide +kernel, rfl⟩
theorem d3_48 : De jdk_42_method_149_code 48 (.putfield 15) 3 51 := ⟨by decide +kernel, rfl⟩
theorem d3_51 : De jdk_42_method_149_code 51 (.aload_n 0) 1 52 := ⟨by decide +kernel, rfl⟩
theorem d3_52 : De jdk_42_method_149_code 52 (.aload 5) 2 54 := ⟨by decide +kernel, rfl⟩
theorem d3_54 : De jdk_42_method_149_code 54 (.putfield 9) 3 57 := ⟨by decide +kernel, rfl⟩
theorem d3_57 : De jdk_42_method_149_code 57 (.return_) 1 58 := ⟨by decide +kernel, rfl⟩
theorem d5_0 : De jdk_52_method_16_code 0 (.iload_n 2) 1 1 := ⟨by decide +kernel, rfl⟩
theorem d5_1 : De jdk_52_method_16_code 1 (.newarray .byte) 2 3 := ⟨by decide +kernel, rfl⟩
theorem d5_3 : De jdk_52_method_16_code 3 (.astore_n 3) 1 4 := ⟨by decide +kernel, rfl⟩
theorem d5_4 : De jdk_52_method_16_code 4 (.aload_n 0) 1 5 := ⟨by decide +kernel, rfl⟩
theorem d5_5 : De jdk_52_method_16_code 5 (.iload_n 1) 1 6 := ⟨by decide +kernel, rfl⟩
theorem d5_6 : De jdk_52_method_16_code 6 (.aload_n 3) 1 7 := ⟨by decide +kernel, rfl⟩
theorem d5_7 : De jdk_52_method_16_code 7 (.iconst 0) 1 8 := ⟨by decide +kernel, rfl⟩
theorem d5_8 : De jdk_52_method_16_code 8 (.iload_n 2) 1 9 := ⟨by decide +kernel, rfl⟩
theorem d5_9 : De jdk_52_method_16_code 9 (.invokestatic 115) 3 12 := ⟨by decide +kernel, rfl⟩
theorem d5_12 : De jdk_52_method_16_code 12 (.istore 4) 2 14 := ⟨by decide +kernel, rfl⟩
theorem d5_14 : De jdk_52_method_16_code 14 (.iload 4) 2 16 := ⟨by decide +kernel, rfl⟩
theorem d5_16 : De jdk_52_method_16_code 16 (.iload_n 2) 1 17 := ⟨by decide +kernel, rfl⟩
theorem d5_17 : DeJ jdk_52_method_16_code 17 (.if_icmp .eq) 20 57 := ⟨40, by decide +kernel, rfl, by decide, by decide⟩
theorem d5_57 : De jdk_52_method_16_code 57 (.aload_n 3) 1 58 := ⟨by decide +kernel, rfl⟩
theorem d5_58 : De jdk_52_method_16_code 58 (.areturn) 1 59 := ⟨by decide +kernel, rfl⟩
theorem d6_0 : De jdk_52_method_21_code 0 (.iconst 0) 1 1 := ⟨by decide +kernel, rfl⟩
theorem d6_1 : De jdk_52_method_21_code 1 (.istore 5) 2 3 := ⟨by decide +kernel, rfl⟩
theorem d6_3 : De jdk_52_method_21_code 3 (.iload 5) 2 5 := ⟨by decide +kernel, rfl⟩
theorem d6_5 : De jdk_52_method_21_code 5 (.iload 4) 2 7 := ⟨by decide +kernel, rfl⟩
theorem d6_7 : DeJ jdk_52_method_21_code 7 (.if_icmp .ge) 10 44 := ⟨37, by decide +kernel, rfl, by decide, by decide⟩
theorem d6_10 : De jdk_52_method_21_code 10 (.aload_n 0) 1 11 := ⟨by decide +kernel, rfl⟩
theorem d6_11 : De jdk_52_method_21_code 11 (.iload_n 1) 1 12 := ⟨by decide +kernel, rfl⟩
theorem d6_12 : De jdk_52_method_21_code 12 (.caload) 1 13 := ⟨by decide +kernel, rfl⟩
theorem d6_13 : De jdk_52_method_21_code 13 (.istore 6) 2 15 := ⟨by decide +kernel, rfl⟩
theorem d6_15 : De jdk_52_method_21_code 15 (.iload 6) 2 17 := ⟨by decide +kernel, rfl⟩
theorem d6_17 : De jdk_52_method_21_code 17 (.sipush 255) 3 20 := ⟨by decide +kernel, rfl⟩
theorem d6_20 : DeJ jdk_52_method_21_code 20 (.if_icmp .le) 23 26 := ⟨6, by decide +kernel, rfl, by decide, by decide⟩
theorem d6_26 : De jdk_52_method_21_code 26 (.aload_n 2) 1 27 := ⟨by decide +kernel, rfl⟩
theorem d6_27 : De jdk_52_method_21_code 27 (.iload_n 3) 1 28 := ⟨by decide +kernel, rfl⟩
theorem d6_28 : De jdk_52_method_21_code 28 (.iload 6) 2 30 := ⟨by decide +kernel, rfl⟩
theorem d6_30 : De jdk_52_method_21_code 30 (.i2b) 1 31 := ⟨by decide +kernel, rfl⟩
theorem d6_31 : De jdk_52_method_21_code 31 (.bastore) 1 32 := ⟨by decide +kernel, rfl⟩
theorem d6_32 : De jdk_52_method_21_code 32 (.iinc 1 1) 3 35 := ⟨by decide +kernel, rfl⟩
theorem d6_35 : De jdk_52_method_21_code 35 (.iinc 3 1) 3 38 := ⟨by decide +kernel, rfl⟩
theorem d6_38 : De jdk_52_method_21_code 38 (.iinc 5 1) 3 41 := ⟨by decide +kernel, rfl⟩
theorem d6_41 : DeJ jdk_52_method_21_code 41 .goto 44 3 := ⟨(-38), by decide +kernel, rfl, by decide, by decide⟩
theorem d6_44 : De jdk_52_method_21_code 44 (.iload 4) 2 46 := ⟨by decide +kernel, rfl⟩
theorem d6_46 : De jdk_52_method_21_code 46 (.ireturn) 1 47 := ⟨by decide +kernel, rfl⟩
theorem d7_0 : De jdk_52_method_15_code 0 (.iload_n 1) 1 1 := ⟨by decide +kernel, rfl⟩
theorem d7_1 : De jdk_52_method_15_code 1 (.aload_n 0) 1 2 := ⟨by decide +kernel, rfl⟩
theorem d7_2 : De jdk_52_method_15_code 2 (.arraylength) 1 3 := ⟨by decide +kernel, rfl⟩
theorem d7_3 : De jdk_52_method_15_code 3 (.isub) 1 4 := ⟨by decide +kernel, rfl⟩
theorem d7_4 : De jdk_52_method_15_code 4 (.bipush 31) 2 6 := ⟨by decide +kernel, rfl⟩
theorem d7_6 : De jdk_52_method_15_code 6 (.iushr) 1 7 := ⟨by decide +kernel, rfl⟩
theorem d7_7 : De jdk_52_method_15_code 7 (.i2b) 1 8 := ⟨by decide +kernel, rfl⟩
theorem d7_8 : De jdk_52_method_15_code 8 (.ireturn) 1 9 := ⟨by decide +kernel, rfl⟩
theorem d8_0 : De jdk_42_method_139_code 0 (.getstatic 38) 3 3 := ⟨by decide +kernel, rfl⟩
theorem d8_3 : DeJ jdk_42_method_139_code 3 (.ifCond .eq) 6 26 := ⟨23, by decide +kernel, rfl, by decide, by decide⟩
theorem d8_6 : De jdk_42_method_139_code 6 (.iload_n 0) 1 7 := ⟨by decide +kernel, rfl⟩
theorem d8_7 : De jdk_42_method_139_code 7 (.invokestatic 1015) 3 10 := ⟨by decide +kernel, rfl⟩
theorem d8_10 : DeJ jdk_42_method_139_code 10 (.ifCond .eq) 13 26 := ⟨16, by decide +kernel, rfl, by decide, by decide⟩
theorem d8_13 : De jdk_42_method_139_code 13 (.new 10) 3 16 := ⟨by decide +kernel, rfl⟩
theorem d8_16 : De jdk_42_method_139_code 16 (.dup) 1 17 := ⟨by decide +kernel, rfl⟩
theorem d8_17 : De jdk_42_method_139_code 17 (.iload_n 0) 1 18 := ⟨by decide +kernel, rfl⟩
theorem d8_18 : De jdk_42_method_139_code 18 (.invokestatic 1018) 3 21 := ⟨by decide +kernel, rfl⟩
theorem d8_21 : De jdk_42_method_139_code 21 (.iconst 0) 1 22 := ⟨by decide +kernel, rfl⟩
theorem d8_22 : De jdk_42_method_139_code 22 (.invokespecial 209) 3 25 := ⟨by decide +kernel, rfl⟩
theorem d8_25 : De jdk_42_method_139_code 25 (.areturn) 1 26 := ⟨by decide +kernel, rfl⟩
theorem d9_0 : De jdk_43_method_3_code 0 (.iload_n 0) 1 1 := ⟨by decide +kernel, rfl⟩
theorem d9_1 : De jdk_43_method_3_code 1 (.sipush 255) 3 4 := ⟨by decide +kernel, rfl⟩
theorem d9_4 : DeJ jdk_43_method_3_code 4 (.if_icmp .gt) 7 11 := ⟨7, by decide +kernel, rfl, by decide, by decide⟩
theorem d9_7 : De jdk_43_method_3_code 7 (.iconst 1) 1 8 := ⟨by decide +kernel, rfl⟩
theorem d9_8 : DeJ jdk_43_method_3_code 8 .goto 11 12 := ⟨4, by decide +kernel, rfl, by decide, by decide⟩
theorem d9_12 : De jdk_43_method_3_code 12 (.ireturn) 1 13 := ⟨by decide +kernel, rfl⟩
theorem d10_0 : De jdk_43_method_46_code 0 (.iconst 1) 1 1 := ⟨by decide +kernel, rfl⟩
theorem d10_1 : De jdk_43_method_46_code 1 (.newarray .byte) 2 3 := ⟨by decide +kernel, rfl⟩
theorem d10_3 : De jdk_43_method_46_code 3 (.dup) 1 4 := ⟨by decide +kernel, rfl⟩
theorem d10_4 : De jdk_43_method_46_code 4 (.iconst 0) 1 5 := ⟨by decide +kernel, rfl⟩
theorem d10_5 : De jdk_43_method_46_code 5 (.iload_n 0) 1 6 := ⟨by decide +kernel, rfl⟩
theorem d10_6 : De jdk_43_method_46_code 6 (.i2b) 1 7 := ⟨by decide +kernel, rfl⟩
theorem d10_7 : De jdk_43_method_46_code 7 (.bastore) 1 8 := ⟨by decide +kernel, rfl⟩
theorem d10_8 : De jdk_43_method_46_code 8 (.areturn) 1 9 := ⟨by decide +kernel, rfl⟩
theorem d11_0 : De jdk_42_method_151_code 0 (.aload_n 0) 1 1 := ⟨by decide +kernel, rfl⟩
theorem d11_1 : De jdk_42_method_151_code 1 (.invokespecial 1) 3 4 := ⟨by decide +kernel, rfl⟩
theorem d11_4 : De jdk_42_method_151_code 4 (.aload_n 0) 1 5 := ⟨by decide +kernel, rfl⟩
theorem d11_5 : De jdk_42_method_151_code 5 (.aload_n 1) 1 6 := ⟨by decide +kernel, rfl⟩
theorem d11_6 : De jdk_42_method_151_code 6 (.putfield 9) 3 9 := ⟨by decide +kernel, rfl⟩
theorem d11_9 : De jdk_42_method_151_code 9 (.aload_n 0) 1 10 := ⟨by decide +kernel, rfl⟩
theorem d11_10 : De jdk_42_method_151_code 10 (.iload_n 2) 1 11 := ⟨by decide +kernel, rfl⟩
theorem d11_11 : De jdk_42_method_151_code 11 (.putfield 15) 3 14 := ⟨by decide +kernel, rfl⟩
theorem d11_14 : De jdk_42_method_151_code 14 (.return_) 1 15 := ⟨by decide +kernel, rfl⟩
theorem d12_0 : De prog_4_method_1_code 0 (.aload_n 0) 1 1 := ⟨by decide +kernel, rfl⟩
theorem d12_1 : De prog_4_method_1_code 1 (.invokespecial 3) 3 4 := ⟨by decide +kernel, rfl⟩
theorem d12_4 : De prog_4_method_1_code 4 (.aload_n 0) 1 5 := ⟨by decide +kernel, rfl⟩
theorem d12_5 : De prog_4_method_1_code 5 (.aload_n 1) 1 6 := ⟨by decide +kernel, rfl⟩
theorem d12_6 : De prog_4_method_1_code 6 (.putfield 9) 3 9 := ⟨by decide +kernel, rfl⟩
theorem d12_9 : De prog_4_method_1_code 9 (.aload_n 0) 1 10 := ⟨by decide +kernel, rfl⟩
theorem d12_10 : De prog_4_method_1_code 10 (.iload_n 2) 1 11 := ⟨by decide +kernel, rfl⟩
theorem d12_11 : De prog_4_method_1_code 11 (.putfield 15) 3 14 := ⟨by decide +kernel, rfl⟩
theorem d12_14 : De prog_4_method_1_code 14 (.aload_n 0) 1 15 := ⟨by decide +kernel, rfl⟩
theorem d12_15 : De prog_4_method_1_code 15 (.aload_n 3) 1 16 := ⟨by decide +kernel, rfl⟩
theorem d12_16 : De prog_4_method_1_code 16 (.putfield 19) 3 19 := ⟨by decide +kernel, rfl⟩
theorem d12_19 : De prog_4_method_1_code 19 (.aload_n 0) 1 20 := ⟨by decide +kernel, rfl⟩
theorem d12_20 : De prog_4_method_1_code 20 (.aload 4) 2 22 := ⟨by decide +kernel, rfl⟩
theorem d12_22 : De prog_4_method_1_code 22 (.putfield 23) 3 25 := ⟨by decide +kernel, rfl⟩
theorem d12_25 : De prog_4_method_1_code 25 (.aload_n 0) 1 26 := ⟨by decide +kernel, rfl⟩
theorem d12_26 : De prog_4_method_1_code 26 (.aload 5) 2 28 := ⟨by decide +kernel, rfl⟩
theorem d12_28 : De prog_4_method_1_code 28 (.putfield 26) 3 31 := ⟨by decide +kernel, rfl⟩
theorem d12_31 : De prog_4_method_1_code 31 (.aload_n 0) 1 32 := ⟨by decide +kernel, rfl⟩
theorem d12_32 : De prog_4_method_1_code 32 (.iload 6) 2 34 := ⟨by decide +kernel, rfl⟩
theorem d12_34 : De prog_4_method_1_code 34 (.putfield 29) 3 37 := ⟨by decide +kernel, rfl⟩
theorem d12_37 : De prog_4_method_1_code 37 (.aload_n 0) 1 38 := ⟨by decide +kernel, rfl⟩
theorem d12_38 : De prog_4_method_1_code 38 (.aload 7) 2 40 := ⟨by decide +kernel, rfl⟩
theorem d12_40 : De prog_4_method_1_code 40 (.putfield 33) 3 43 := ⟨by decide +kernel, rfl⟩
theorem d12_43 : De prog_4_method_1_code 43 (.aload_n 0) 1 44 := ⟨by decide +kernel, rfl⟩
theorem d12_44 : De prog_4_method_1_code 44 (.iload 8) 2 46 := ⟨by decide +kernel, rfl⟩
theorem d12_46 : De prog_4_method_1_code 46 (.putfield 36) 3 49 := ⟨by decide +kernel, rfl⟩
theorem d12_49 : De prog_4_method_1_code 49 (.aload_n 0) 1 50 := ⟨by decide +kernel, rfl⟩
theorem d12_50 : De prog_4_method_1_code 50 (.iload 9) 2 52 := ⟨by decide +kernel, rfl⟩
theorem d12_52 : De prog_4_method_1_code 52 (.putfield 39) 3 55 := ⟨by decide +kernel, rfl⟩
theorem d12_55 : De prog_4_method_1_code 55 (.aload_n 0) 1 56 := ⟨by decide +kernel, rfl⟩
theorem d12_56 : De prog_4_method_1_code 56 (.aload 10) 2 58 := ⟨by decide +kernel, rfl⟩
theorem d12_58 : De prog_4_method_1_code 58 (.putfield 42) 3 61 := ⟨by decide +kernel, rfl⟩
theorem d12_61 : De prog_4_method_1_code 61 (.return_) 1 62 := ⟨by decide +kernel, rfl⟩
theorem d13_0 : De jdk_30_method_1_code 0 (.aload_n 0) 1 1 := ⟨by decide +kernel, rfl⟩
theorem d13_1 : De jdk_30_method_1_code 1 (.invokespecial 1) 3 4 := ⟨by decide +kernel, rfl⟩
theorem d13_4 : De jdk_30_method_1_code 4 (.return_) 1 5 := ⟨by decide +kernel, rfl⟩
theorem d14_0 : De prog_4_method_3_code 0 (.aload_n 0) 1 1 := ⟨by decide +kernel, rfl⟩
theorem d14_1 : De prog_4_method_3_code 1 (.getfield 23) 3 4 := ⟨by decide +kernel, rfl⟩
theorem d14_4 : DeJ prog_4_method_3_code 4 .ifnonnull 7 18 := ⟨14, by decide +kernel, rfl, by decide, by decide⟩
theorem d14_7 : De prog_4_method_3_code 7 (.aload_n 0) 1 8 := ⟨by decide +kernel, rfl⟩
theorem d14_8 : De prog_4_method_3_code 8 (.getfield 29) 3 11 := ⟨by decide +kernel, rfl⟩
theorem d14_11 : DeJ prog_4_method_3_code 11 (.ifCond .eq) 14 18 := ⟨7, by decide +kernel, rfl, by decide, by decide⟩
theorem d14_14 : De prog_4_method_3_code 14 (.iconst 1) 1 15 := ⟨by decide +kernel, rfl⟩
theorem d14_15 : DeJ prog_4_method_3_code 15 .goto 18 19 := ⟨4, by decide +kernel, rfl, by decide, by decide⟩
theorem d14_18 : De prog_4_method_3_code 18 (.iconst 0) 1 19 := ⟨by decide +kernel, rfl⟩
theorem d14_19 : De prog_4_method_3_code 19 (.ireturn) 1 20 := ⟨by decide +kernel, rfl⟩
theorem pd_0 : parseMethodDescriptor "([CI[BII)I" = some ⟨[(.array .char), .int, (.array .byte), .int, .int], some .int⟩ := by decide +kernel
theorem pd_1 : parseMethodDescriptor "([CII)[B" = some ⟨[(.array .char), .int, .int], some (.array .byte)⟩ := by decide +kernel
theorem pd_2 : parseMethodDescriptor "([BI)B" = some ⟨[(.array .byte), .int], some .byte⟩ := by decide +kernel
theorem pd_3 : parseMethodDescriptor "([CIILjava/lang/Void;)V" = some ⟨[(.array .char), .int, .int, (.object "java/lang/Void")], none⟩ := by decide +kernel
theorem pd_4 : parseMethodDescriptor "(C)Z" = some ⟨[.char], some .boolean⟩ := by decide +kernel
theorem pd_5 : parseMethodDescriptor "(C)[B" = some ⟨[.char], some (.array .byte)⟩ := by decide +kernel
theorem pd_6 : parseMethodDescriptor "([BB)V" = some ⟨[(.array .byte), .byte], none⟩ := by decide +kernel
theorem pd_7 : parseMethodDescriptor "(C)Ljava/lang/String;" = some ⟨[.char], some (.object "java/lang/String")⟩ := by decide +kernel
theorem pd_8 : parseMethodDescriptor "([C)V" = some ⟨[(.array .char)], none⟩ := by decide +kernel
theorem pd_9 : parseMethodDescriptor "()V" = some ⟨[], none⟩ := by decide +kernel
theorem pd_10 : parseMethodDescriptor "(II)Ljava/lang/String;" = some ⟨[.int, .int], some (.object "java/lang/String")⟩ := by decide +kernel
theorem pd_11 : parseMethodDescriptor "(Lcom/example/dossier_relay/dossierrelay/bundle/BundleFile;ILjava/lang/String;Ljava/lang/String;Ljava/lang/String;ZLjava/lang/String;ZI[I)V" = some ⟨[(.object "com/example/dossier_relay/dossierrelay/bundle/BundleFile"), .int, (.object "java/lang/String"), (.object "java/lang/String"), (.object "java/lang/String"), .boolean, (.object "java/lang/String"), .boolean, .int, (.array .int)], none⟩ := by decide +kernel
theorem pd_12 : parseMethodDescriptor "()Z" = some ⟨[], some .boolean⟩ := by decide +kernel
def W0 (Z : State) (a0 : Array Value) : Prop := (∀ d ∈ tables_1, d.before a0 Z = true) ∧ (∀ d ∈ jdkStatics_1, d.before a0 Z = true)
theorem w_0 {Z : State} {a0 : Array Value} (hW : W0 Z a0) : (Jvm.Cond.classLink "com/example/dossier_relay/dossierrelay/bundle/BundleObjectNamesParentByReferencePinLaw" (18 : Nat) "com/example/dossier_relay/dossierrelay/bundle/BundleFile").before a0 Z = true := hW.1 _ (List.mem_of_getElem? (i := 0) rfl)
theorem w_1 {Z : State} {a0 : Array Value} (hW : W0 Z a0) : (Jvm.Cond.arrayOver (Jvm.ClassFile.FieldType.object "com/example/dossier_relay/dossierrelay/bundle/BundleFile")).before a0 Z = true := hW.1 _ (List.mem_of_getElem? (i := 1) rfl)
theorem w_2 {Z : State} {a0 : Array Value} (hW : W0 Z a0) : (Jvm.Cond.fieldLink "com/example/dossier_relay/dossierrelay/bundle/BundleObjectNamesParentByReferencePinLaw" (20 : Nat) "com/example/dossier_relay/dossierrelay/bundle/BundleFile" "CONFIGURATION" "Lcom/example/dossier_relay/dossierrelay/bundle/BundleFile;").before a0 Z = true := hW.1 _ (List.mem_of_getElem? (i := 2) rfl)
theorem w_3 {Z : State} {a0 : Array Value} (hW : W0 Z a0) : (Jvm.Cond.initialized "com/example/dossier_relay/dossierrelay/bundle/BundleFile").before a0 Z = true := hW.1 _ (List.mem_of_getElem? (i := 3) rfl)
theorem w_4 {Z : State} {a0 : Array Value} (hW : W0 Z a0) : (Jvm.Cond.laysStatic "com/example/dossier_relay/dossierrelay/bundle/BundleFile" "CONFIGURATION" "Lcom/example/dossier_relay/dossierrelay/bundle/BundleFile;").before a0 Z = true := hW.1 _ (List.mem_of_getElem? (i := 4) rfl)
theorem w_6 {Z : State} {a0 : Array Value} (hW : W0 Z a0) : (Jvm.Cond.fieldLink "com/example/dossier_relay/dossierrelay/bundle/BundleObjectNamesParentByReferencePinLaw" (24 : Nat) "com/example/dossier_relay/dossierrelay/bundle/BundleFile" "METADATA" "Lcom/example/dossier_relay/dossierrelay/bundle/BundleFile;").before a0 Z = true := hW.1 _ (List.mem_of_getElem? (i := 6) rfl)
theorem w_7 {Z : State} {a0 : Array Value} (hW : W0 Z a0) : (Jvm.Cond.laysStatic "com/example/dossier_relay/dossierrelay/bundle/BundleFile" "METADATA" "Lcom/example/dossier_relay/dossierrelay/bundle/BundleFile;").before a0 Z = true := hW.1 _ (List.mem_of_getElem? (i := 7) rfl)
theorem w_8 {Z : State} {a0 : Array Value} (hW : W0 Z a0) : (Jvm.Cond.fieldLink "com/example/dossier_relay/dossierrelay/bundle/BundleObjectNamesParentByReferencePinLaw" (27 : Nat) "com/example/dossier_relay/dossierrelay/bundle/BundleFile" "REPOROOTS" "Lcom/example/dossier_relay/dossierrelay/bundle/BundleFile;").before a0 Z = true := hW.1 _ (List.mem_of_getElem? (i := 8) rfl)
theorem w_9 {Z : State} {a0 : Array Value} (hW : W0 Z a0) : (Jvm.Cond.laysStatic "com/example/dossier_relay/dossierrelay/bundle/BundleFile" "REPOROOTS" "Lcom/example/dossier_relay/dossierrelay/bundle/BundleFile;").before a0 Z = true := hW.1 _ (List.mem_of_getElem? (i := 9) rfl)
theorem w_10 {Z : State} {a0 : Array Value} (hW : W0 Z a0) : (Jvm.Cond.fieldLink "com/example/dossier_relay/dossierrelay/bundle/BundleObjectNamesParentByReferencePinLaw" (30 : Nat) "com/example/dossier_relay/dossierrelay/bundle/BundleFile" "REPOFOLDERS" "Lcom/example/dossier_relay/dossierrelay/bundle/BundleFile;").before a0 Z = true := hW.1 _ (List.mem_of_getElem? (i := 10) rfl)
theorem w_11 {Z : State} {a0 : Array Value} (hW : W0 Z a0) : (Jvm.Cond.laysStatic "com/example/dossier_relay/dossierrelay/bundle/BundleFile" "REPOFOLDERS" "Lcom/example/dossier_relay/dossierrelay/bundle/BundleFile;").before a0 Z = true := hW.1 _ (List.mem_of_getElem? (i := 11) rfl)
theorem w_12 {Z : State} {a0 : Array Value} (hW : W0 Z a0) : (Jvm.Cond.fieldLink "com/example/dossier_relay/dossierrelay/bundle/BundleObjectNamesParentByReferencePinLaw" (33 : Nat) "com/example/dossier_relay/dossierrelay/bundle/BundleFile" "DOSSIERS" "Lcom/example/dossier_relay/dossierrelay/bundle/BundleFile;").before a0 Z = true := hW.1 _ (List.mem_of_getElem? (i := 12) rfl)
theorem w_13 {Z : State} {a0 : Array Value} (hW : W0 Z a0) : (Jvm.Cond.laysStatic "com/example/dossier_relay/dossierrelay/bundle/BundleFile" "DOSSIERS" "Lcom/example/dossier_relay/dossierrelay/bundle/BundleFile;").before a0 Z = true := hW.1 _ (List.mem_of_getElem? (i := 13) rfl)
theorem w_14 {Z : State} {a0 : Array Value} (hW : W0 Z a0) : (Jvm.Cond.fieldLink "com/example/dossier_relay/dossierrelay/bundle/BundleObjectNamesParentByReferencePinLaw" (36 : Nat) "com/example/dossier_relay/dossierrelay/bundle/BundleFile" "DOCUMENTS" "Lcom/example/dossier_relay/dossierrelay/bundle/BundleFile;").before a0 Z = true := hW.1 _ (List.mem_of_getElem? (i := 14) rfl)
theorem w_15 {Z : State} {a0 : Array Value} (hW : W0 Z a0) : (Jvm.Cond.laysStatic "com/example/dossier_relay/dossierrelay/bundle/BundleFile" "DOCUMENTS" "Lcom/example/dossier_relay/dossierrelay/bundle/BundleFile;").before a0 Z = true := hW.1 _ (List.mem_of_getElem? (i := 15) rfl)
theorem w_16 {Z : State} {a0 : Array Value} (hW : W0 Z a0) : (Jvm.Cond.methodLink "com/example/dossier_relay/dossierrelay/bundle/BundleObjectNamesParentByReferencePinLaw" (39 : Nat) ({ cls := "com/example/dossier_relay/dossierrelay/bundle/BundleObjectNamesParentByReferencePinLaw", name := "drawn", desc := "(II)Ljava/lang/String;" } : Jvm.MethodName)).before a0 Z = true := hW.1 _ (List.mem_of_getElem? (i := 16) rfl)
theorem w_17 {Z : State} {a0 : Array Value} (hW : W0 Z a0) : (Jvm.Cond.static ({ cls := "com/example/dossier_relay/dossierrelay/bundle/BundleObjectNamesParentByReferencePinLaw", name := "drawn", desc := "(II)Ljava/lang/String;" } : Jvm.MethodName)).before a0 Z = true := hW.1 _ (List.mem_of_getElem? (i := 17) rfl)
theorem w_18 {Z : State} {a0 : Array Value} (hW : W0 Z a0) : (Jvm.Cond.initialized "com/example/dossier_relay/dossierrelay/bundle/BundleObjectNamesParentByReferencePinLaw").before a0 Z = true := hW.1 _ (List.mem_of_getElem? (i := 18) rfl)
theorem w_19 {Z : State} {a0 : Array Value} (hW : W0 Z a0) : (Jvm.Cond.code ({ cls := "com/example/dossier_relay/dossierrelay/bundle/BundleObjectNamesParentByReferencePinLaw", name := "drawn", desc := "(II)Ljava/lang/String;" } : Jvm.MethodName) method_2_code (5 : Nat) (Option.some (Jvm.ClassFile.FieldType.object "java/lang/String"))).before a0 Z = true := hW.1 _ (List.mem_of_getElem? (i := 19) rfl)
theorem w_20 {Z : State} {a0 : Array Value} (hW : W0 Z a0) : (Jvm.Cond.stringLink "com/example/dossier_relay/dossierrelay/bundle/BundleObjectNamesParentByReferencePinLaw" (7 : Nat) "").before a0 Z = true := hW.1 _ (List.mem_of_getElem? (i := 20) rfl)
theorem w_21 {Z : State} {a0 : Array Value} (hW : W0 Z a0) : (Jvm.Cond.initialized "java/lang/String").before a0 Z = true := hW.1 _ (List.mem_of_getElem? (i := 21) rfl)
theorem w_22 {Z : State} {a0 : Array Value} (hW : W0 Z a0) : (Jvm.Cond.instantiable "java/lang/String" (4 : Nat)).before a0 Z = true := hW.1 _ (List.mem_of_getElem? (i := 22) rfl)
theorem w_23 {Z : State} {a0 : Array Value} (hW : W0 Z a0) : (Jvm.Cond.arrayClass Jvm.ClassFile.FieldType.byte).before a0 Z = true := hW.1 _ (List.mem_of_getElem? (i := 23) rfl)
theorem w_24 {Z : State} {a0 : Array Value} (hW : W0 Z a0) : (Jvm.Cond.laysFinal "java/lang/String" "java/lang/String" "value" "[B").before a0 Z = true := hW.1 _ (List.mem_of_getElem? (i := 24) rfl)
theorem w_25 {Z : State} {a0 : Array Value} (hW : W0 Z a0) : (Jvm.Cond.laysFinal "java/lang/String" "java/lang/String" "coder" "B").before a0 Z = true := hW.1 _ (List.mem_of_getElem? (i := 25) rfl)
theorem w_26 {Z : State} {a0 : Array Value} (hW : W0 Z a0) : (Jvm.Cond.soleField "java/lang/String" "value").before a0 Z = true := hW.1 _ (List.mem_of_getElem? (i := 26) rfl)
theorem w_27 {Z : State} {a0 : Array Value} (hW : W0 Z a0) : (Jvm.Cond.soleField "java/lang/String" "coder").before a0 Z = true := hW.1 _ (List.mem_of_getElem? (i := 27) rfl)
theorem w_28 {Z : State} {a0 : Array Value} (hW : W0 Z a0) : (Jvm.Cond.arrayClass Jvm.ClassFile.FieldType.char).before a0 Z = true := hW.1 _ (List.mem_of_getElem? (i := 28) rfl)
theorem w_29 {Z : State} {a0 : Array Value} (hW : W0 Z a0) : (Jvm.Cond.classLink "com/example/dossier_relay/dossierrelay/bundle/BundleObjectNamesParentByReferencePinLaw" (10 : Nat) "java/lang/String").before a0 Z = true := hW.1 _ (List.mem_of_getElem? (i := 29) rfl)
theorem w_30 {Z : State} {a0 : Array Value} (hW : W0 Z a0) : (Jvm.Cond.methodLink "com/example/dossier_relay/dossierrelay/bundle/BundleObjectNamesParentByReferencePinLaw" (15 : Nat) ({ cls := "java/lang/String", name := "<init>", desc := "([C)V" } : Jvm.MethodName)).before a0 Z = true := hW.1 _ (List.mem_of_getElem? (i := 30) rfl)
theorem w_31 {Z : State} {a0 : Array Value} (hW : W0 Z a0) : (Jvm.Cond.instanceMethod ({ cls := "java/lang/String", name := "<init>", desc := "([C)V" } : Jvm.MethodName)).before a0 Z = true := hW.1 _ (List.mem_of_getElem? (i := 31) rfl)
theorem w_32 {Z : State} {a0 : Array Value} (hW : W0 Z a0) : (Jvm.Cond.code ({ cls := "java/lang/String", name := "<init>", desc := "([C)V" } : Jvm.MethodName) jdk_42_method_3_code (2 : Nat) (Option.none : Option Jvm.ClassFile.FieldType)).before a0 Z = true := hW.1 _ (List.mem_of_getElem? (i := 32) rfl)
theorem w_33 {Z : State} {a0 : Array Value} (hW : W0 Z a0) : (Jvm.Cond.methodLink "java/lang/String" (27 : Nat) ({ cls := "java/lang/String", name := "<init>", desc := "([CIILjava/lang/Void;)V" } : Jvm.MethodName)).before a0 Z = true := hW.1 _ (List.mem_of_getElem? (i := 33) rfl)
theorem w_34 {Z : State} {a0 : Array Value} (hW : W0 Z a0) : (Jvm.Cond.instanceMethod ({ cls := "java/lang/String", name := "<init>", desc := "([CIILjava/lang/Void;)V" } : Jvm.MethodName)).before a0 Z = true := hW.1 _ (List.mem_of_getElem? (i := 34) rfl)
theorem w_36 {Z : State} {a0 : Array Value} (hW : W0 Z a0) : (Jvm.Cond.code ({ cls := "java/lang/String", name := "<init>", desc := "([CIILjava/lang/Void;)V" } : Jvm.MethodName) jdk_42_method_149_code (6 : Nat) (Option.none : Option Jvm.ClassFile.FieldType)).before a0 Z = true := hW.1 _ (List.mem_of_getElem? (i := 36) rfl)
theorem w_37 {Z : State} {a0 : Array Value} (hW : W0 Z a0) : (Jvm.Cond.methodLink "java/lang/String" (1 : Nat) ({ cls := "java/lang/Object", name := "<init>", desc := "()V" } : Jvm.MethodName)).before a0 Z = true := hW.1 _ (List.mem_of_getElem? (i := 37) rfl)
theorem w_38 {Z : State} {a0 : Array Value} (hW : W0 Z a0) : (Jvm.Cond.instanceMethod ({ cls := "java/lang/Object", name := "<init>", desc := "()V" } : Jvm.MethodName)).before a0 Z = true := hW.1 _ (List.mem_of_getElem? (i := 38) rfl)
theorem w_39 {Z : State} {a0 : Array Value} (hW : W0 Z a0) : (Jvm.Cond.code ({ cls := "java/lang/Object", name := "<init>", desc := "()V" } : Jvm.MethodName) object_method_1_code (1 : Nat) (Option.none : Option Jvm.ClassFile.FieldType)).before a0 Z = true := hW.1 _ (List.mem_of_getElem? (i := 39) rfl)
theorem w_40 {Z : State} {a0 : Array Value} (hW : W0 Z a0) : (Jvm.Cond.fieldLink "java/lang/String" (38 : Nat) "java/lang/String" "COMPACT_STRINGS" "Z").before a0 Z = true := hW.1 _ (List.mem_of_getElem? (i := 40) rfl)
theorem w_41 {Z : State} {a0 : Array Value} (hW : W0 Z a0) : (Jvm.Cond.methodLink "java/lang/String" (177 : Nat) ({ cls := "java/lang/StringUTF16", name := "compress", desc := "([CII)[B" } : Jvm.MethodName)).before a0 Z = true := hW.1 _ (List.mem_of_getElem? (i := 41) rfl)
theorem w_42 {Z : State} {a0 : Array Value} (hW : W0 Z a0) : (Jvm.Cond.static ({ cls := "java/lang/StringUTF16", name := "compress", desc := "([CII)[B" } : Jvm.MethodName)).before a0 Z = true := hW.1 _ (List.mem_of_getElem? (i := 42) rfl)
theorem w_43 {Z : State} {a0 : Array Value} (hW : W0 Z a0) : (Jvm.Cond.initialized "java/lang/StringUTF16").before a0 Z = true := hW.1 _ (List.mem_of_getElem? (i := 43) rfl)
theorem w_44 {Z : State} {a0 : Array Value} (hW : W0 Z a0) : (Jvm.Cond.code ({ cls := "java/lang/StringUTF16", name := "compress", desc := "([CII)[B" } : Jvm.MethodName) jdk_52_method_16_code (6 : Nat) (Option.some (Jvm.ClassFile.FieldType.array Jvm.ClassFile.FieldType.byte))).before a0 Z = true := hW.1 _ (List.mem_of_getElem? (i := 44) rfl)
theorem w_45 {Z : State} {a0 : Array Value} (hW : W0 Z a0) : (Jvm.Cond.methodLink "java/lang/StringUTF16" (115 : Nat) ({ cls := "java/lang/StringUTF16", name := "compress", desc := "([CI[BII)I" } : Jvm.MethodName)).before a0 Z = true := hW.1 _ (List.mem_of_getElem? (i := 45) rfl)
theorem w_46 {Z : State} {a0 : Array Value} (hW : W0 Z a0) : (Jvm.Cond.static ({ cls := "java/lang/StringUTF16", name := "compress", desc := "([CI[BII)I" } : Jvm.MethodName)).before a0 Z = true := hW.1 _ (List.mem_of_getElem? (i := 46) rfl)
theorem w_47 {Z : State} {a0 : Array Value} (hW : W0 Z a0) : (Jvm.Cond.code ({ cls := "java/lang/StringUTF16", name := "compress", desc := "([CI[BII)I" } : Jvm.MethodName) jdk_52_method_21_code (7 : Nat) (Option.some Jvm.ClassFile.FieldType.int)).before a0 Z = true := hW.1 _ (List.mem_of_getElem? (i := 47) rfl)
theorem w_48 {Z : State} {a0 : Array Value} (hW : W0 Z a0) : (Jvm.Cond.methodLink "java/lang/String" (47 : Nat) ({ cls := "java/lang/StringUTF16", name := "coderFromArrayLen", desc := "([BI)B" } : Jvm.MethodName)).before a0 Z = true := hW.1 _ (List.mem_of_getElem? (i := 48) rfl)
theorem w_49 {Z : State} {a0 : Array Value} (hW : W0 Z a0) : (Jvm.Cond.static ({ cls := "java/lang/StringUTF16", name := "coderFromArrayLen", desc := "([BI)B" } : Jvm.MethodName)).before a0 Z = true := hW.1 _ (List.mem_of_getElem? (i := 49) rfl)
theorem w_50 {Z : State} {a0 : Array Value} (hW : W0 Z a0) : (Jvm.Cond.code ({ cls := "java/lang/StringUTF16", name := "coderFromArrayLen", desc := "([BI)B" } : Jvm.MethodName) jdk_52_method_15_code (2 : Nat) (Option.some Jvm.ClassFile.FieldType.byte)).before a0 Z = true := hW.1 _ (List.mem_of_getElem? (i := 50) rfl)
theorem w_51 {Z : State} {a0 : Array Value} (hW : W0 Z a0) : (Jvm.Cond.fieldLink "java/lang/String" (15 : Nat) "java/lang/String" "coder" "B").before a0 Z = true := hW.1 _ (List.mem_of_getElem? (i := 51) rfl)
theorem w_52 {Z : State} {a0 : Array Value} (hW : W0 Z a0) : (Jvm.Cond.fieldLink "java/lang/String" (9 : Nat) "java/lang/String" "value" "[B").before a0 Z = true := hW.1 _ (List.mem_of_getElem? (i := 52) rfl)
theorem w_53 {Z : State} {a0 : Array Value} (hW : W0 Z a0) : (Jvm.Cond.methodLink "com/example/dossier_relay/dossierrelay/bundle/BundleObjectNamesParentByReferencePinLaw" (9 : Nat) ({ cls := "java/lang/String", name := "valueOf", desc := "(C)Ljava/lang/String;" } : Jvm.MethodName)).before a0 Z = true := hW.1 _ (List.mem_of_getElem? (i := 53) rfl)
theorem w_54 {Z : State} {a0 : Array Value} (hW : W0 Z a0) : (Jvm.Cond.static ({ cls := "java/lang/String", name := "valueOf", desc := "(C)Ljava/lang/String;" } : Jvm.MethodName)).before a0 Z = true := hW.1 _ (List.mem_of_getElem? (i := 54) rfl)
theorem w_55 {Z : State} {a0 : Array Value} (hW : W0 Z a0) : (Jvm.Cond.code ({ cls := "java/lang/String", name := "valueOf", desc := "(C)Ljava/lang/String;" } : Jvm.MethodName) jdk_42_method_139_code (1 : Nat) (Option.some (Jvm.ClassFile.FieldType.object "java/lang/String"))).before a0 Z = true := hW.1 _ (List.mem_of_getElem? (i := 55) rfl)
theorem w_56 {Z : State} {a0 : Array Value} (hW : W0 Z a0) : (Jvm.Cond.methodLink "java/lang/String" (1015 : Nat) ({ cls := "java/lang/StringLatin1", name := "canEncode", desc := "(C)Z" } : Jvm.MethodName)).before a0 Z = true := hW.1 _ (List.mem_of_getElem? (i := 56) rfl)
theorem w_57 {Z : State} {a0 : Array Value} (hW : W0 Z a0) : (Jvm.Cond.static ({ cls := "java/lang/StringLatin1", name := "canEncode", desc := "(C)Z" } : Jvm.MethodName)).before a0 Z = true := hW.1 _ (List.mem_of_getElem? (i := 57) rfl)
theorem w_58 {Z : State} {a0 : Array Value} (hW : W0 Z a0) : (Jvm.Cond.initialized "java/lang/StringLatin1").before a0 Z = true := hW.1 _ (List.mem_of_getElem? (i := 58) rfl)
theorem w_59 {Z : State} {a0 : Array Value} (hW : W0 Z a0) : (Jvm.Cond.code ({ cls := "java/lang/StringLatin1", name := "canEncode", desc := "(C)Z" } : Jvm.MethodName) jdk_43_method_3_code (1 : Nat) (Option.some Jvm.ClassFile.FieldType.boolean)).before a0 Z = true := hW.1 _ (List.mem_of_getElem? (i := 59) rfl)
theorem w_60 {Z : State} {a0 : Array Value} (hW : W0 Z a0) : (Jvm.Cond.classLink "java/lang/String" (10 : Nat) "java/lang/String").before a0 Z = true := hW.1 _ (List.mem_of_getElem? (i := 60) rfl)
theorem w_61 {Z : State} {a0 : Array Value} (hW : W0 Z a0) : (Jvm.Cond.methodLink "java/lang/String" (1018 : Nat) ({ cls := "java/lang/StringLatin1", name := "toBytes", desc := "(C)[B" } : Jvm.MethodName)).before a0 Z = true := hW.1 _ (List.mem_of_getElem? (i := 61) rfl)
theorem w_62 {Z : State} {a0 : Array Value} (hW : W0 Z a0) : (Jvm.Cond.static ({ cls := "java/lang/StringLatin1", name := "toBytes", desc := "(C)[B" } : Jvm.MethodName)).before a0 Z = true := hW.1 _ (List.mem_of_getElem? (i := 62) rfl)
theorem w_63 {Z : State} {a0 : Array Value} (hW : W0 Z a0) : (Jvm.Cond.code ({ cls := "java/lang/StringLatin1", name := "toBytes", desc := "(C)[B" } : Jvm.MethodName) jdk_43_method_46_code (1 : Nat) (Option.some (Jvm.ClassFile.FieldType.array Jvm.ClassFile.FieldType.byte))).before a0 Z = true := hW.1 _ (List.mem_of_getElem? (i := 63) rfl)
theorem w_64 {Z : State} {a0 : Array Value} (hW : W0 Z a0) : (Jvm.Cond.methodLink "java/lang/String" (209 : Nat) ({ cls := "java/lang/String", name := "<init>", desc := "([BB)V" } : Jvm.MethodName)).before a0 Z = true := hW.1 _ (List.mem_of_getElem? (i := 64) rfl)
theorem w_65 {Z : State} {a0 : Array Value} (hW : W0 Z a0) : (Jvm.Cond.instanceMethod ({ cls := "java/lang/String", name := "<init>", desc := "([BB)V" } : Jvm.MethodName)).before a0 Z = true := hW.1 _ (List.mem_of_getElem? (i := 65) rfl)
theorem w_66 {Z : State} {a0 : Array Value} (hW : W0 Z a0) : (Jvm.Cond.code ({ cls := "java/lang/String", name := "<init>", desc := "([BB)V" } : Jvm.MethodName) jdk_42_method_151_code (3 : Nat) (Option.none : Option Jvm.ClassFile.FieldType)).before a0 Z = true := hW.1 _ (List.mem_of_getElem? (i := 66) rfl)
theorem w_67 {Z : State} {a0 : Array Value} (hW : W0 Z a0) : (Jvm.Cond.arrayClass Jvm.ClassFile.FieldType.int).before a0 Z = true := hW.1 _ (List.mem_of_getElem? (i := 67) rfl)
theorem w_68 {Z : State} {a0 : Array Value} (hW : W0 Z a0) : (Jvm.Cond.classLink "com/example/dossier_relay/dossierrelay/bundle/BundleObjectNamesParentByReferencePinLaw" (45 : Nat) "com/example/dossier_relay/dossierrelay/bundle/BundleObject").before a0 Z = true := hW.1 _ (List.mem_of_getElem? (i := 68) rfl)
theorem w_69 {Z : State} {a0 : Array Value} (hW : W0 Z a0) : (Jvm.Cond.instantiable "com/example/dossier_relay/dossierrelay/bundle/BundleObject" (10 : Nat)).before a0 Z = true := hW.1 _ (List.mem_of_getElem? (i := 69) rfl)
theorem w_70 {Z : State} {a0 : Array Value} (hW : W0 Z a0) : (Jvm.Cond.initialized "com/example/dossier_relay/dossierrelay/bundle/BundleObject").before a0 Z = true := hW.1 _ (List.mem_of_getElem? (i := 70) rfl)
theorem w_71 {Z : State} {a0 : Array Value} (hW : W0 Z a0) : (Jvm.Cond.methodLink "com/example/dossier_relay/dossierrelay/bundle/BundleObjectNamesParentByReferencePinLaw" (47 : Nat) ({ cls := "com/example/dossier_relay/dossierrelay/bundle/BundleObject", name := "<init>", desc := "(Lcom/example/dossier_relay/dossierrelay/bundle/BundleFile;ILjava/lang/String;Ljava/lang/String;Ljava/lang/String;ZLjava/lang/String;ZI[I)V" } : Jvm.MethodName)).before a0 Z = true := hW.1 _ (List.mem_of_getElem? (i := 71) rfl)
theorem w_72 {Z : State} {a0 : Array Value} (hW : W0 Z a0) : (Jvm.Cond.instanceMethod ({ cls := "com/example/dossier_relay/dossierrelay/bundle/BundleObject", name := "<init>", desc := "(Lcom/example/dossier_relay/dossierrelay/bundle/BundleFile;ILjava/lang/String;Ljava/lang/String;Ljava/lang/String;ZLjava/lang/String;ZI[I)V" } : Jvm.MethodName)).before a0 Z = true := hW.1 _ (List.mem_of_getElem? (i := 72) rfl)
theorem w_73 {Z : State} {a0 : Array Value} (hW : W0 Z a0) : (Jvm.Cond.code ({ cls := "com/example/dossier_relay/dossierrelay/bundle/BundleObject", name := "<init>", desc := "(Lcom/example/dossier_relay/dossierrelay/bundle/BundleFile;ILjava/lang/String;Ljava/lang/String;Ljava/lang/String;ZLjava/lang/String;ZI[I)V" } : Jvm.MethodName) prog_4_method_1_code (11 : Nat) (Option.none : Option Jvm.ClassFile.FieldType)).before a0 Z = true := hW.1 _ (List.mem_of_getElem? (i := 73) rfl)
theorem w_74 {Z : State} {a0 : Array Value} (hW : W0 Z a0) : (Jvm.Cond.methodLink "com/example/dossier_relay/dossierrelay/bundle/BundleObject" (3 : Nat) ({ cls := "java/lang/Record", name := "<init>", desc := "()V" } : Jvm.MethodName)).before a0 Z = true := hW.1 _ (List.mem_of_getElem? (i := 74) rfl)
theorem w_75 {Z : State} {a0 : Array Value} (hW : W0 Z a0) : (Jvm.Cond.instanceMethod ({ cls := "java/lang/Record", name := "<init>", desc := "()V" } : Jvm.MethodName)).before a0 Z = true := hW.1 _ (List.mem_of_getElem? (i := 75) rfl)
theorem w_77 {Z : State} {a0 : Array Value} (hW : W0 Z a0) : (Jvm.Cond.initialized "java/lang/Record").before a0 Z = true := hW.1 _ (List.mem_of_getElem? (i := 77) rfl)
theorem w_78 {Z : State} {a0 : Array Value} (hW : W0 Z a0) : (Jvm.Cond.code ({ cls := "java/lang/Record", name := "<init>", desc := "()V" } : Jvm.MethodName) jdk_30_method_1_code (1 : Nat) (Option.none : Option Jvm.ClassFile.FieldType)).before a0 Z = true := hW.1 _ (List.mem_of_getElem? (i := 78) rfl)
theorem w_79 {Z : State} {a0 : Array Value} (hW : W0 Z a0) : (Jvm.Cond.methodLink "java/lang/Record" (1 : Nat) ({ cls := "java/lang/Object", name := "<init>", desc := "()V" } : Jvm.MethodName)).before a0 Z = true := hW.1 _ (List.mem_of_getElem? (i := 79) rfl)
theorem w_80 {Z : State} {a0 : Array Value} (hW : W0 Z a0) : (Jvm.Cond.fieldLink "com/example/dossier_relay/dossierrelay/bundle/BundleObject" (9 : Nat) "com/example/dossier_relay/dossierrelay/bundle/BundleObject" "file" "Lcom/example/dossier_relay/dossierrelay/bundle/BundleFile;").before a0 Z = true := hW.1 _ (List.mem_of_getElem? (i := 80) rfl)
theorem w_81 {Z : State} {a0 : Array Value} (hW : W0 Z a0) : (Jvm.Cond.laysFinal "com/example/dossier_relay/dossierrelay/bundle/BundleObject" "com/example/dossier_relay/dossierrelay/bundle/BundleObject" "file" "Lcom/example/dossier_relay/dossierrelay/bundle/BundleFile;").before a0 Z = true := hW.1 _ (List.mem_of_getElem? (i := 81) rfl)
theorem w_82 {Z : State} {a0 : Array Value} (hW : W0 Z a0) : (Jvm.Cond.fieldLink "com/example/dossier_relay/dossierrelay/bundle/BundleObject" (15 : Nat) "com/example/dossier_relay/dossierrelay/bundle/BundleObject" "index" "I").before a0 Z = true := hW.1 _ (List.mem_of_getElem? (i := 82) rfl)
theorem w_83 {Z : State} {a0 : Array Value} (hW : W0 Z a0) : (Jvm.Cond.laysFinal "com/example/dossier_relay/dossierrelay/bundle/BundleObject" "com/example/dossier_relay/dossierrelay/bundle/BundleObject" "index" "I").before a0 Z = true := hW.1 _ (List.mem_of_getElem? (i := 83) rfl)
theorem w_84 {Z : State} {a0 : Array Value} (hW : W0 Z a0) : (Jvm.Cond.fieldLink "com/example/dossier_relay/dossierrelay/bundle/BundleObject" (19 : Nat) "com/example/dossier_relay/dossierrelay/bundle/BundleObject" "guid" "Ljava/lang/String;").before a0 Z = true := hW.1 _ (List.mem_of_getElem? (i := 84) rfl)
theorem w_85 {Z : State} {a0 : Array Value} (hW : W0 Z a0) : (Jvm.Cond.laysFinal "com/example/dossier_relay/dossierrelay/bundle/BundleObject" "com/example/dossier_relay/dossierrelay/bundle/BundleObject" "guid" "Ljava/lang/String;").before a0 Z = true := hW.1 _ (List.mem_of_getElem? (i := 85) rfl)
theorem w_86 {Z : State} {a0 : Array Value} (hW : W0 Z a0) : (Jvm.Cond.fieldLink "com/example/dossier_relay/dossierrelay/bundle/BundleObject" (23 : Nat) "com/example/dossier_relay/dossierrelay/bundle/BundleObject" "parentGuid" "Ljava/lang/String;").before a0 Z = true := hW.1 _ (List.mem_of_getElem? (i := 86) rfl)
theorem w_87 {Z : State} {a0 : Array Value} (hW : W0 Z a0) : (Jvm.Cond.laysFinal "com/example/dossier_relay/dossierrelay/bundle/BundleObject" "com/example/dossier_relay/dossierrelay/bundle/BundleObject" "parentGuid" "Ljava/lang/String;").before a0 Z = true := hW.1 _ (List.mem_of_getElem? (i := 87) rfl)
theorem w_88 {Z : State} {a0 : Array Value} (hW : W0 Z a0) : (Jvm.Cond.fieldLink "com/example/dossier_relay/dossierrelay/bundle/BundleObject" (26 : Nat) "com/example/dossier_relay/dossierrelay/bundle/BundleObject" "parentReference" "Ljava/lang/String;").before a0 Z = true := hW.1 _ (List.mem_of_getElem? (i := 88) rfl)
theorem w_89 {Z : State} {a0 : Array Value} (hW : W0 Z a0) : (Jvm.Cond.laysFinal "com/example/dossier_relay/dossierrelay/bundle/BundleObject" "com/example/dossier_relay/dossierrelay/bundle/BundleObject" "parentReference" "Ljava/lang/String;").before a0 Z = true := hW.1 _ (List.mem_of_getElem? (i := 89) rfl)
theorem w_90 {Z : State} {a0 : Array Value} (hW : W0 Z a0) : (Jvm.Cond.fieldLink "com/example/dossier_relay/dossierrelay/bundle/BundleObject" (29 : Nat) "com/example/dossier_relay/dossierrelay/bundle/BundleObject" "parentReferenceWellFormed" "Z").before a0 Z = true := hW.1 _ (List.mem_of_getElem? (i := 90) rfl)
theorem w_91 {Z : State} {a0 : Array Value} (hW : W0 Z a0) : (Jvm.Cond.laysFinal "com/example/dossier_relay/dossierrelay/bundle/BundleObject" "com/example/dossier_relay/dossierrelay/bundle/BundleObject" "parentReferenceWellFormed" "Z").before a0 Z = true := hW.1 _ (List.mem_of_getElem? (i := 91) rfl)
theorem w_92 {Z : State} {a0 : Array Value} (hW : W0 Z a0) : (Jvm.Cond.fieldLink "com/example/dossier_relay/dossierrelay/bundle/BundleObject" (33 : Nat) "com/example/dossier_relay/dossierrelay/bundle/BundleObject" "number" "Ljava/lang/String;").before a0 Z = true := hW.1 _ (List.mem_of_getElem? (i := 92) rfl)
theorem w_93 {Z : State} {a0 : Array Value} (hW : W0 Z a0) : (Jvm.Cond.laysFinal "com/example/dossier_relay/dossierrelay/bundle/BundleObject" "com/example/dossier_relay/dossierrelay/bundle/BundleObject" "number" "Ljava/lang/String;").before a0 Z = true := hW.1 _ (List.mem_of_getElem? (i := 93) rfl)
theorem w_94 {Z : State} {a0 : Array Value} (hW : W0 Z a0) : (Jvm.Cond.fieldLink "com/example/dossier_relay/dossierrelay/bundle/BundleObject" (36 : Nat) "com/example/dossier_relay/dossierrelay/bundle/BundleObject" "resolved" "Z").before a0 Z = true := hW.1 _ (List.mem_of_getElem? (i := 94) rfl)
theorem w_95 {Z : State} {a0 : Array Value} (hW : W0 Z a0) : (Jvm.Cond.laysFinal "com/example/dossier_relay/dossierrelay/bundle/BundleObject" "com/example/dossier_relay/dossierrelay/bundle/BundleObject" "resolved" "Z").before a0 Z = true := hW.1 _ (List.mem_of_getElem? (i := 95) rfl)
theorem w_96 {Z : State} {a0 : Array Value} (hW : W0 Z a0) : (Jvm.Cond.fieldLink "com/example/dossier_relay/dossierrelay/bundle/BundleObject" (39 : Nat) "com/example/dossier_relay/dossierrelay/bundle/BundleObject" "day" "I").before a0 Z = true := hW.1 _ (List.mem_of_getElem? (i := 96) rfl)
theorem w_97 {Z : State} {a0 : Array Value} (hW : W0 Z a0) : (Jvm.Cond.laysFinal "com/example/dossier_relay/dossierrelay/bundle/BundleObject" "com/example/dossier_relay/dossierrelay/bundle/BundleObject" "day" "I").before a0 Z = true := hW.1 _ (List.mem_of_getElem? (i := 97) rfl)
theorem w_98 {Z : State} {a0 : Array Value} (hW : W0 Z a0) : (Jvm.Cond.fieldLink "com/example/dossier_relay/dossierrelay/bundle/BundleObject" (42 : Nat) "com/example/dossier_relay/dossierrelay/bundle/BundleObject" "restrictedRanks" "[I").before a0 Z = true := hW.1 _ (List.mem_of_getElem? (i := 98) rfl)
theorem w_99 {Z : State} {a0 : Array Value} (hW : W0 Z a0) : (Jvm.Cond.laysFinal "com/example/dossier_relay/dossierrelay/bundle/BundleObject" "com/example/dossier_relay/dossierrelay/bundle/BundleObject" "restrictedRanks" "[I").before a0 Z = true := hW.1 _ (List.mem_of_getElem? (i := 99) rfl)
theorem w_100 {Z : State} {a0 : Array Value} (hW : W0 Z a0) : (Jvm.Cond.methodLink "com/example/dossier_relay/dossierrelay/bundle/BundleObjectNamesParentByReferencePinLaw" (50 : Nat) ({ cls := "com/example/dossier_relay/dossierrelay/bundle/BundleObject", name := "namesParentByReference", desc := "()Z" } : Jvm.MethodName)).before a0 Z = true := hW.1 _ (List.mem_of_getElem? (i := 100) rfl)
theorem w_101 {Z : State} {a0 : Array Value} (hW : W0 Z a0) : (Jvm.Cond.declares ({ cls := "com/example/dossier_relay/dossierrelay/bundle/BundleObject", name := "namesParentByReference", desc := "()Z" } : Jvm.MethodName)).before a0 Z = true := hW.1 _ (List.mem_of_getElem? (i := 101) rfl)
theorem w_102 {Z : State} {a0 : Array Value} (hW : W0 Z a0) : (Jvm.Cond.instanceMethod ({ cls := "com/example/dossier_relay/dossierrelay/bundle/BundleObject", name := "namesParentByReference", desc := "()Z" } : Jvm.MethodName)).before a0 Z = true := hW.1 _ (List.mem_of_getElem? (i := 102) rfl)
theorem w_103 {Z : State} {a0 : Array Value} (hW : W0 Z a0) : (Jvm.Cond.selects "com/example/dossier_relay/dossierrelay/bundle/BundleObject" ({ cls := "com/example/dossier_relay/dossierrelay/bundle/BundleObject", name := "namesParentByReference", desc := "()Z" } : Jvm.MethodName) ({ cls := "com/example/dossier_relay/dossierrelay/bundle/BundleObject", name := "namesParentByReference", desc := "()Z" } : Jvm.MethodName)).before a0 Z = true := hW.1 _ (List.mem_of_getElem? (i := 103) rfl)
theorem w_104 {Z : State} {a0 : Array Value} (hW : W0 Z a0) : (Jvm.Cond.code ({ cls := "com/example/dossier_relay/dossierrelay/bundle/BundleObject", name := "namesParentByReference", desc := "()Z" } : Jvm.MethodName) prog_4_method_3_code (1 : Nat) (Option.some Jvm.ClassFile.FieldType.boolean)).before a0 Z = true := hW.1 _ (List.mem_of_getElem? (i := 104) rfl)
theorem s_0 {Z : State} {a0 : Array Value} (hW : W0 Z a0) : (Jvm.Cond.initializedFor "java/lang/String" "COMPACT_STRINGS" "Z").before a0 Z = true := hW.2 _ (List.mem_of_getElem? (i := 0) rfl)
theorem s_1 {Z : State} {a0 : Array Value} (hW : W0 Z a0) : (Jvm.Cond.isInt (Jvm.Term.static "java/lang/String" "COMPACT_STRINGS" "Z")).before a0 Z = true := hW.2 _ (List.mem_of_getElem? (i := 1) rfl)
theorem s_2 {Z : State} {a0 : Array Value} (hW : W0 Z a0) : (Jvm.Cond.not (Jvm.Cond.eq (Jvm.Term.static "java/lang/String" "COMPACT_STRINGS" "Z") (Jvm.Term.int (0 : Int32)))).before a0 Z = true := hW.2 _ (List.mem_of_getElem? (i := 2) rfl)
theorem fl_0 {Z : State} {a0 : Array Value} (hW : W0 Z a0) : LaidL Z a0 "java/lang/String" fStr := ⟨⟨Or.inr (w_24 hW), (.array .byte), by decide +kernel⟩, ⟨⟨Or.inr (w_25 hW), .byte, by decide +kernel⟩, trivial⟩⟩
theorem nd_0 : (fStr.map (fun q => q.2.1)).Nodup := by decide +kernel
theorem dv_0 : fStr.map (fun q => (parseFieldDescriptor q.2.2).map defaultValue) = [.null, (.int (0 : Int32))].map some := by decide +kernel
def f_1 : FL := [("com/example/dossier_relay/dossierrelay/bundle/BundleObject", "file", "Lcom/example/dossier_relay/dossierrelay/bundle/BundleFile;"), ("com/example/dossier_relay/dossierrelay/bundle/BundleObject", "index", "I"), ("com/example/dossier_relay/dossierrelay/bundle/BundleObject", "guid", "Ljava/lang/String;"), ("com/example/dossier_relay/dossierrelay/bundle/BundleObject", "parentGuid", "Ljava/lang/String;"), ("com/example/dossier_relay/dossierrelay/bundle/BundleObject", "parentReference", "Ljava/lang/String;"), ("com/example/dossier_relay/dossierrelay/bundle/BundleObject", "parentReferenceWellFormed", "Z"), ("com/example/dossier_relay/dossierrelay/bundle/BundleObject", "number", "Ljava/lang/String;"), ("com/example/dossier_relay/dossierrelay/bundle/BundleObject", "resolved", "Z"), ("com/example/dossier_relay/dossierrelay/bundle/BundleObject", "day", "I"), ("com/example/dossier_relay/dossierrelay/bundle/BundleObject", "restrictedRanks", "[I")]
theorem fl_1 {Z : State} {a0 : Array Value} (hW : W0 Z a0) : LaidL Z a0 "com/example/dossier_relay/dossierrelay/bundle/BundleObject" f_1 := ⟨⟨Or.inr (w_81 hW), (.object "com/example/dossier_relay/dossierrelay/bundle/BundleFile"), by decide +kernel⟩, ⟨⟨Or.inr (w_83 hW), .int, by decide +kernel⟩, ⟨⟨Or.inr (w_85 hW), (.object "java/lang/String"), by decide +kernel⟩, ⟨⟨Or.inr (w_87 hW), (.object "java/lang/String"), by decide +kernel⟩, ⟨⟨Or.inr (w_89 hW), (.object "java/lang/String"), by decide +kernel⟩, ⟨⟨Or.inr (w_91 hW), .boolean, by decide +kernel⟩, ⟨⟨Or.inr (w_93 hW), (.object "java/lang/String"), by decide +kernel⟩, ⟨⟨Or.inr (w_95 hW), .boolean, by decide +kernel⟩, ⟨⟨Or.inr (w_97 hW), .int, by decide +kernel⟩, ⟨⟨Or.inr (w_99 hW), (.array .int), by decide +kernel⟩, trivial⟩⟩⟩⟩⟩⟩⟩⟩⟩⟩
theorem nd_1 : (f_1.map (fun q => q.2.1)).Nodup := by decide +kernel
theorem dv_1 : f_1.map (fun q => (parseFieldDescriptor q.2.2).map defaultValue) = [.null, (.int (0 : Int32)), .null, .null, .null, (.int (0 : Int32)), .null, (.int (0 : Int32)), (.int (0 : Int32)), .null].map some := by decide +kernel
theorem own_ew {Z : State} {a0 : Array Value} (hW : W0 Z a0) : EW Z a0 own_EL := EW.nil
theorem own_cs {Z : State} {a0 : Array Value} (hW : W0 Z a0) : ∃ cz : Int32, Sta Z Z.heap "java/lang/String" "COMPACT_STRINGS" "Z" (.int cz) ∧ ¬ cz = 0 := by
  obtain ⟨cz, ev⟩ := is_v (Cond.before_iff.mp (s_1 hW))
  refine ⟨cz, Sta.start ev (Or.inl (s_0 hW)), fun e => ?_⟩
  subst e
  have q := (s_2 hW)
  simp [Cond.before, Cond.holds, Cond.value, ev, Term.int_eval] at q
theorem own_sa {Z : State} {a0 : Array Value} (hW : W0 Z a0) : ∀ a ∈ Bundle.stringAtoms, a.before a0 Z = true := by
  intro a ha
  simp only [Bundle.stringAtoms, List.mem_cons, List.not_mem_nil, or_false] at ha
  rcases ha with rfl | rfl | rfl | rfl | rfl | rfl | rfl
  · exact (w_21 hW)
  · exact (w_22 hW)
  · exact (w_23 hW)
  · exact (w_24 hW)
  · exact (w_25 hW)
  · exact (w_26 hW)
  · exact (w_27 hW)
set_option maxRecDepth 65536 in
set_option maxHeartbeats 40000000 in
theorem own_lp_cmp {k : KT} {l : Launch} {Z : State} {a0 : Array Value} (hW : W0 Z a0) {h0 : Heap} {a t : Addr} {cs : List Int32} {QQ : QT}
    (C : Ctx k l y_0 jdk_52_method_21_code 7 (some .int) ({ frames := 0, cells := 0, slots := 0, locals := 0 } : Room) Z a0 own_EL true [t] h0 QQ) (hcs : own_lat cs) (hne : a ≠ t) (hQ : ∀ h', Av Z h' t .byte (List.map Value.int (List.map own_b cs)) → QQ (some (.int (Int32.ofNat (List.length cs)))) h' []) :
    ∀ (n i : Nat) (h : Heap) (s6 : Slot), i + n = cs.length → Sl s6 → Av Z h a .char (List.map Value.int cs) → Av Z h t .byte (List.map Value.int ((cs.take i).map own_b ++ List.replicate n 0)) → Go k h [t] 0 0 3 #[.val (.ref a), .val (.int (Int32.ofNat i)), .val (.ref t), .val (.int (Int32.ofNat i)), .val (.int (Int32.ofNat (List.length cs))), .val (.int (Int32.ofNat i)), s6] [] := by
  intro n
  induction n with
  | zero =>
    intro i h s6 hin hs6 V U
    have hi : i = cs.length := by omega
    subst hi
    have hl := V.lenI
    refine Go.iload C d6_3 rfl ?_
    refine Go.iload C d6_5 rfl ?_
    refine Go.icmpge C d6_7 (fun hc7 => ?_) (fun hc7 => absurd hc7 (by rw [nI_lt hl hl]; omega))
    refine Go.iload C d6_44 rfl ?_
    refine Go.ireturn C d6_46 (Nat.le_of_ble_eq_true rfl) (Nat.le_of_ble_eq_true rfl) (by simp) rfl [] (fun _ hx => nomatch hx) ?_
    exact hQ _ (by simpa using U)
  | succ n ih =>
    intro i h s6 hin hs6 V U
    have hl := V.lenI
    obtain ⟨c, hci⟩ : ∃ c, cs[i]? = some c := ⟨cs[i]'(by omega), List.getElem?_eq_getElem (by omega)⟩
    refine Go.iload C d6_3 rfl ?_
    refine Go.iload C d6_5 rfl ?_
    refine Go.icmpge C d6_7 (fun hc7 => absurd ((nI_lt (by omega) hl).mpr (by omega)) hc7) (fun hc7 => ?_)
    refine Go.aloadN C d6_10 rfl rfl ?_
    refine Go.iloadN C d6_11 rfl ?_
    refine Go.caload C V i (nI_nn (by omega)) (nI_nat (by omega)) (by rw [List.getElem?_map, hci]; rfl) d6_12 ?_
    refine Go.istore C d6_13 (Ls' := #[.val (.ref a), .val (.int (Int32.ofNat i)), .val (.ref t), .val (.int (Int32.ofNat i)), .val (.int (Int32.ofNat (List.length cs))), .val (.int (Int32.ofNat i)), .val (.int c)]) (sto1 rfl hs6 rfl rfl) ?_
    refine Go.iload C d6_15 rfl ?_
    refine Go.sipush C (255 : Int32) d6_17 (by decide) ?_
    refine Go.icmple C d6_20 (fun hc20 => ?_) (fun hc20 => absurd hc20 (hcs c (List.mem_of_getElem? hci)).2)
    refine Go.aloadN C d6_26 rfl rfl ?_
    refine Go.iloadN C d6_27 rfl ?_
    refine Go.iload C d6_28 rfl ?_
    refine Go.i2b C d6_30 ?_
    refine Go.bastore C U (List.mem_of_getElem? (i := 0) rfl) i (nI_nn (by omega)) (nI_nat (by omega)) (by simp; omega) (x' := (own_b c)) (own_b_nar c) (vs' := (List.map Value.int ((cs.take (i + 1)).map own_b ++ List.replicate n 0))) (own_set (by omega) hci) d6_31 (fun h1 K2 U => ?_)
    replace V := V.keep K2 (ninS hne nin0)
    refine Go.iinc C (Int32.ofNat (i + 1)) d6_32 rfl (nI_succ _) (Ls' := #[.val (.ref a), .val (.int (Int32.ofNat (i + 1))), .val (.ref t), .val (.int (Int32.ofNat i)), .val (.int (Int32.ofNat (List.length cs))), .val (.int (Int32.ofNat i)), .val (.int c)]) rfl ?_
    refine Go.iinc C (Int32.ofNat (i + 1)) d6_35 rfl (nI_succ _) (Ls' := #[.val (.ref a), .val (.int (Int32.ofNat (i + 1))), .val (.ref t), .val (.int (Int32.ofNat (i + 1))), .val (.int (Int32.ofNat (List.length cs))), .val (.int (Int32.ofNat i)), .val (.int c)]) rfl ?_
    refine Go.iinc C (Int32.ofNat (i + 1)) d6_38 rfl (nI_succ _) (Ls' := #[.val (.ref a), .val (.int (Int32.ofNat (i + 1))), .val (.ref t), .val (.int (Int32.ofNat (i + 1))), .val (.int (Int32.ofNat (List.length cs))), .val (.int (Int32.ofNat (i + 1))), .val (.int c)]) rfl ?_
    refine Go.goto C d6_41 ?_
    exact ih (i + 1) _ _ (by omega) (Sl.val rfl) V U
def Q6 (Z : State) (h : Heap) (a : Addr) (t : Addr) (cs : List Int32) : QT := fun v h' os' => (v = some (.int (Int32.ofNat (List.length cs)))) ∧ (os' = []) ∧ (Av Z h' t .byte (List.map Value.int (List.map own_b cs)))
set_option maxRecDepth 65536 in
set_option maxHeartbeats 40000000 in
theorem rm6 {l : Launch} {Z : State} {a0 : Array Value} (hW : W0 Z a0) (h : Heap) (a : Addr) (t : Addr) (cs : List Int32) (V : Av Z h a .char (List.map Value.int cs)) (U : Av Z h t .byte (List.map Value.int (List.replicate (List.length cs) (0 : Int32)))) (hcs : own_lat cs) (hne : a ≠ t) :
    Con l Z own_EL true y_0 jdk_52_method_21_code 7 (some .int) ({ frames := 0, cells := 0, slots := 0, locals := 0 } : Room) [] #[(.ref a), (.int (0 : Int32)), (.ref t), (.int (0 : Int32)), (.int (Int32.ofNat (List.length cs)))] h [t] (Q6 Z h a t cs) := by
  refine Con.intro (a0 := a0) (Ls := #[.val (.ref a), .val (.int (0 : Int32)), .val (.ref t), .val (.int (0 : Int32)), .val (.int (Int32.ofNat (List.length cs))), .unset, .unset]) (by decide +kernel) (own_ew hW) (fun m => by first | (simp [entryFrame, mkF, argsToLocals, Value.category]; done) | rfl) ?_
  intro k C
  refine Go.iconst C (0 : Int32) d6_0 (by decide) ?_
  refine Go.istore C d6_1 (Ls' := #[.val (.ref a), .val (.int (0 : Int32)), .val (.ref t), .val (.int (0 : Int32)), .val (.int (Int32.ofNat (List.length cs))), .val (.int (0 : Int32)), .unset]) rfl ?_
  exact own_lp_cmp hW C hcs hne (fun h' q => ⟨rfl, rfl, q⟩) (List.length cs) 0 _ _ (by omega) Sl.u V (by simpa using U)
def Q5 (Z : State) (h : Heap) (a : Addr) (cs : List Int32) : QT := fun v h' os' => ∃ t : Addr, (v = some (.ref t)) ∧ (os' = [t]) ∧ (Av Z h' t .byte (List.map Value.int (List.map own_b cs)))
set_option maxRecDepth 65536 in
set_option maxHeartbeats 40000000 in
theorem rm5 {l : Launch} {Z : State} {a0 : Array Value} (hW : W0 Z a0) (h : Heap) (a : Addr) (cs : List Int32) (V : Av Z h a .char (List.map Value.int cs)) (hcs : own_lat cs) (hcap : (List.length cs) ≤ 2) :
    Con l Z own_EL true y_1 jdk_52_method_16_code 6 (some (.array .byte)) ({ frames := 1, cells := 1, slots := 2, locals := 18 } : Room) [] #[(.ref a), (.int (0 : Int32)), (.int (Int32.ofNat (List.length cs)))] h [] (Q5 Z h a cs) := by
  refine Con.intro (a0 := a0) (Ls := #[.val (.ref a), .val (.int (0 : Int32)), .val (.int (Int32.ofNat (List.length cs))), .unset, .unset, .unset]) (by decide +kernel) (own_ew hW) (fun m => by first | (simp [entryFrame, mkF, argsToLocals, Value.category]; done) | rfl) ?_
  intro k C
  have hl := V.lenI
  refine Go.iloadN C d5_0 rfl ?_
  refine Go.newarray C (aty := .byte) (w_23 hW) d5_1 (nI_nn hl) (List.length cs) (nI_nat hl) (cap := 2) hcap (by decide) (by decide) (by decide) (fun b1 h2 e3 K4 A5 => ?_)
  have A5 : Av Z h2 b1 .byte (List.replicate (List.length cs) (.int (0 : Int32))) := A5
  have ge_b1 : h.size ≤ b1 := Nat.le_trans (Nat.le_refl _) (ge_of e3)
  have n_a_b1 : a ≠ b1 := ne_lt V.lt (ge_of e3)
  replace V := V.k0 K4
  have l_h2 : h.size ≤ h2.size := Nat.le_trans (Nat.le_refl _) K4.1
  replace A5 : Av Z h2 b1 .byte (List.map Value.int (List.replicate (List.length cs) (0 : Int32))) := by rw [List.map_replicate]; exact A5
  refine Go.astoreN C d5_3 rfl (Ls' := #[.val (.ref a), .val (.int (0 : Int32)), .val (.int (Int32.ofNat (List.length cs))), .val (.ref b1), .unset, .unset]) rfl ?_
  refine Go.aloadN C d5_4 rfl rfl ?_
  refine Go.iloadN C d5_5 rfl ?_
  refine Go.aloadN C d5_6 rfl rfl ?_
  refine Go.iconst C (0 : Int32) d5_7 (by decide) ?_
  refine Go.iloadN C d5_8 rfl ?_
  refine Go.callS C (z := y_0) (argsL := [(.ref a), (.int (0 : Int32)), (.ref b1), (.int (0 : Int32)), (.int (Int32.ofNat (List.length cs)))]) (rm6 hW h2 (a) (b1) (cs) V A5 (by assumption) n_a_b1) (w_45 hW) (w_46 hW) (w_43 hW) (w_47 hW) d5_9 pd_0 rfl (by decide) rfl (st := []) rfl (by decide) (Nat.le_of_ble_eq_true rfl) (by decide) (by decide) (List.forall_mem_cons.mpr ⟨(List.mem_of_getElem? (i := 0) rfl), (fun _ hx => nomatch hx)⟩) (fun v6 h7 os8 q9 K10 ho11 => ?_)
  obtain ⟨rfl, rfl, F12⟩ := q9
  replace V := V.keep K10 (ninS n_a_b1 nin0)
  have l_h7 : h.size ≤ h7.size := Nat.le_trans l_h2 K10.1
  show Go k h7 _ _ _ 12 #[.val (.ref a), .val (.int (0 : Int32)), .val (.int (Int32.ofNat (List.length cs))), .val (.ref b1), .unset, .unset] [(.int (Int32.ofNat (List.length cs)))]
  refine Go.istore C d5_12 (Ls' := #[.val (.ref a), .val (.int (0 : Int32)), .val (.int (Int32.ofNat (List.length cs))), .val (.ref b1), .val (.int (Int32.ofNat (List.length cs))), .unset]) rfl ?_
  refine Go.iload C d5_14 rfl ?_
  refine Go.iloadN C d5_16 rfl ?_
  refine Go.icmpeq C d5_17 (fun hc17 => ?_) (fun hc17 => absurd rfl hc17)
  refine Go.aloadN C d5_57 rfl rfl ?_
  refine Go.areturn C d5_58 (Nat.le_of_ble_eq_true rfl) (Nat.le_of_ble_eq_true rfl) rfl rfl [b1] (List.forall_mem_cons.mpr ⟨⟨(List.mem_of_getElem? (i := 0) rfl), ge_b1⟩, (fun _ hx => nomatch hx)⟩) ?_
  exact ⟨_, rfl, rfl, F12⟩
def Q7 (Z : State) (h : Heap) (t : Addr) (bs : List Int32) (n : Int32) : QT := fun v h' os' => (v = some (.int (0 : Int32))) ∧ (os' = []) ∧ (h = h')
set_option maxRecDepth 65536 in
set_option maxHeartbeats 40000000 in
theorem rm7 {l : Launch} {Z : State} {a0 : Array Value} (hW : W0 Z a0) (h : Heap) (t : Addr) (bs : List Int32) (n : Int32) (V : Av Z h t .byte (List.map Value.int bs)) (hn : n = Int32.ofNat (List.length bs)) :
    Con l Z own_EL true y_2 jdk_52_method_15_code 2 (some .byte) ({ frames := 0, cells := 0, slots := 0, locals := 0 } : Room) [] #[(.ref t), (.int n)] h [] (Q7 Z h t bs n) := by
  refine Con.intro (a0 := a0) (Ls := #[.val (.ref t), .val (.int n)]) (by decide +kernel) (own_ew hW) (fun m => by first | (simp [entryFrame, mkF, argsToLocals, Value.category]; done) | rfl) ?_
  intro k C
  refine Go.iloadN C d7_0 rfl ?_
  refine Go.aloadN C d7_1 rfl rfl ?_
  refine Go.arraylength C V (Int32.ofNat (List.length bs)) (by rw [List.length_map]) d7_2 ?_
  refine Go.isub C d7_3 ?_
  refine Go.eqI (x' := (0 : Int32)) (by rw [hn, Int32.sub_self]) ?_
  refine Go.bipush C (31 : Int32) d7_4 (by decide) ?_
  refine Go.iushr C d7_6 ?_
  refine Go.eqI (x' := (0 : Int32)) (by decide) ?_
  refine Go.i2b C d7_7 ?_
  refine Go.eqI (x' := (0 : Int32)) (by decide) ?_
  refine Go.ireturn C d7_8 (Nat.le_of_ble_eq_true rfl) (Nat.le_of_ble_eq_true rfl) (by simp) rfl [] (fun _ hx => nomatch hx) ?_
  exact ⟨rfl, rfl, rfl⟩
def Q3 (Z : State) (h : Heap) (x : Addr) (a : Addr) (cs : List Int32) : QT := fun v h' os' => ∃ t : Addr, (v = none) ∧ (os' = []) ∧ (Str Z h' x t (List.map own_b cs))
set_option maxRecDepth 65536 in
set_option maxHeartbeats 40000000 in
theorem rm3 {l : Launch} {Z : State} {a0 : Array Value} (hW : W0 Z a0) (h : Heap) (x : Addr) (a : Addr) (cs : List Int32) (O : Obj Z h x "java/lang/String" fStr [.null, (.int (0 : Int32))]) (V : Av Z h a .char (List.map Value.int cs)) (hcs : own_lat cs) (hcap : (List.length cs) ≤ 2) (hxa : a ≠ x) (hnn : ¬ cs = []) :
    Con l Z own_EL true y_3 jdk_42_method_149_code 6 none ({ frames := 2, cells := 1, slots := 2, locals := 35 } : Room) [] #[(.ref x), (.ref a), (.int (0 : Int32)), (.int (Int32.ofNat (List.length cs))), .null] h [x] (Q3 Z h x a cs) := by
  refine Con.intro (a0 := a0) (Ls := #[.val (.ref x), .val (.ref a), .val (.int (0 : Int32)), .val (.int (Int32.ofNat (List.length cs))), .val .null, .unset]) (by decide +kernel) (own_ew hW) (fun m => by first | (simp [entryFrame, mkF, argsToLocals, Value.category]; done) | rfl) ?_
  intro k C
  obtain ⟨cz, Scs, ncz⟩ := own_cs hW
  have hl := V.lenI
  refine Go.aloadN C d3_0 rfl rfl ?_
  refine Go.initO C (w_37 hW) (w_38 hW) (w_39 hW) d3_1 rfl (by decide) (Nat.le_of_ble_eq_true rfl) ?_
  refine Go.iloadN C d3_4 rfl ?_
  refine Go.ifne C d3_5 (fun hc5 => ?_) (fun hc5 => ?_)
  · refine Go.getS C Scs (host := "") (Or.inl (w_40 hW)) Via.refl d3_27 ?_
    refine Go.ifeq C d3_30 (fun hc30 => absurd hc30 ncz) (fun hc30 => ?_)
    refine Go.aloadN C d3_33 rfl rfl ?_
    refine Go.iloadN C d3_34 rfl ?_
    refine Go.iloadN C d3_35 rfl ?_
    refine Go.callS C (z := y_1) (argsL := [(.ref a), (.int (0 : Int32)), (.int (Int32.ofNat (List.length cs)))]) (rm5 hW h (a) (cs) V (by assumption) (by assumption)) (w_41 hW) (w_42 hW) (w_43 hW) (w_44 hW) d3_36 pd_1 rfl (by decide) rfl (st := []) rfl (by decide) (Nat.le_of_ble_eq_true rfl) (by decide) (by decide) ((fun _ hx => nomatch hx)) (fun v1 h2 os3 q4 K5 ho6 => ?_)
    obtain ⟨t7, rfl, rfl, F8⟩ := q4
    have g_t7 : h.size ≤ t7 := (ho6 _ (List.mem_of_getElem? (i := 0) rfl)).1
    have n_x_t7 : x ≠ t7 := ne_lt O.lt g_t7
    have n_a_t7 : a ≠ t7 := ne_lt V.lt g_t7
    replace O := O.k0 K5
    replace V := V.k0 K5
    show Go k h2 _ _ _ 39 #[.val (.ref x), .val (.ref a), .val (.int (0 : Int32)), .val (.int (Int32.ofNat (List.length cs))), .val .null, .unset] [(.ref t7)]
    refine Go.astore C d3_39 rfl (Ls' := #[.val (.ref x), .val (.ref a), .val (.int (0 : Int32)), .val (.int (Int32.ofNat (List.length cs))), .val .null, .val (.ref t7)]) rfl ?_
    refine Go.aloadN C d3_41 rfl rfl ?_
    refine Go.aload C d3_42 rfl rfl ?_
    refine Go.iloadN C d3_44 rfl ?_
    refine Go.callS C (z := y_2) (argsL := [(.ref t7), (.int (Int32.ofNat (List.length cs)))]) (rm7 hW h2 (t7) ((List.map own_b cs)) ((Int32.ofNat (List.length cs))) F8 (by rw [List.length_map])) (w_48 hW) (w_49 hW) (w_43 hW) (w_50 hW) d3_45 pd_2 rfl (by decide) rfl (st := [(.ref x)]) rfl (by decide) (Nat.le_of_ble_eq_true rfl) (by decide) (by decide) ((fun _ hx => nomatch hx)) (fun v9 h10 os11 q12 K13 ho14 => ?_)
    obtain ⟨rfl, rfl, rfl⟩ := q12
    clear K13 ho14
    show Go k h2 _ _ _ 48 #[.val (.ref x), .val (.ref a), .val (.int (0 : Int32)), .val (.int (Int32.ofNat (List.length cs))), .val .null, .val (.ref t7)] [(.int (0 : Int32)), (.ref x)]
    refine Go.putF C O (List.mem_of_getElem? (i := 1) rfl) 1 rfl (w_51 hW) Via.refl (Or.inr ⟨w_25 hW, rfl, rfl⟩) (w_22 hW) (fl_0 hW) nd_0 (ty := .byte) (by decide +kernel) (v' := (.int (0 : Int32))) rfl rfl (vs' := [.null, (.int (0 : Int32))]) rfl d3_48 (fun h15 K16 O => ?_)
    replace V := V.keep K16 (ninS hxa nin0)
    replace F8 := F8.keep K16 (ninS (Ne.symm n_x_t7) nin0)
    refine Go.aloadN C d3_51 rfl rfl ?_
    refine Go.aload C d3_52 rfl rfl ?_
    refine Go.putF C O (List.mem_of_getElem? (i := 1) rfl) 0 rfl (w_52 hW) Via.refl (Or.inr ⟨w_24 hW, rfl, rfl⟩) (w_22 hW) (fl_0 hW) nd_0 (ty := (.array .byte)) (by decide +kernel) (v' := (.ref t7)) rfl rfl (vs' := [(.ref t7), (.int (0 : Int32))]) rfl d3_54 (fun h17 K18 O => ?_)
    replace V := V.keep K18 (ninS hxa nin0)
    replace F8 := F8.keep K18 (ninS (Ne.symm n_x_t7) nin0)
    refine Go.retV C d3_57 (Nat.le_of_ble_eq_true rfl) (Nat.le_of_ble_eq_true rfl) [] (fun _ hx => nomatch hx) ?_
    exact ⟨_, rfl, rfl, ⟨O, F8⟩⟩
  · exact absurd (own_nil hl hc5) hnn
def Q2 (Z : State) (h : Heap) (x : Addr) (a : Addr) (cs : List Int32) : QT := fun v h' os' => ∃ t : Addr, (v = none) ∧ (os' = []) ∧ (Str Z h' x t (List.map own_b cs))
set_option maxRecDepth 65536 in
set_option maxHeartbeats 40000000 in
theorem rm2 {l : Launch} {Z : State} {a0 : Array Value} (hW : W0 Z a0) (h : Heap) (x : Addr) (a : Addr) (cs : List Int32) (O : Obj Z h x "java/lang/String" fStr [.null, (.int (0 : Int32))]) (V : Av Z h a .char (List.map Value.int cs)) (hcs : own_lat cs) (hcap : (List.length cs) ≤ 2) (hxa : a ≠ x) (hnn : ¬ cs = []) :
    Con l Z own_EL true y_4 jdk_42_method_3_code 2 none ({ frames := 3, cells := 1, slots := 2, locals := 60 } : Room) [] #[(.ref x), (.ref a)] h [x] (Q2 Z h x a cs) := by
  refine Con.intro (a0 := a0) (Ls := #[.val (.ref x), .val (.ref a)]) (by decide +kernel) (own_ew hW) (fun m => by first | (simp [entryFrame, mkF, argsToLocals, Value.category]; done) | rfl) ?_
  intro k C
  refine Go.aloadN C d2_0 rfl rfl ?_
  refine Go.aloadN C d2_1 rfl rfl ?_
  refine Go.iconst C (0 : Int32) d2_2 (by decide) ?_
  refine Go.aloadN C d2_3 rfl rfl ?_
  refine Go.arraylength C V (Int32.ofNat (List.length cs)) (by rw [List.length_map]) d2_4 ?_
  refine Go.aconstNull C d2_5 ?_
  refine Go.callI C (z := y_3) (a := x) (argsL := [(.ref a), (.int (0 : Int32)), (.int (Int32.ofNat (List.length cs))), .null]) (rm3 hW h (x) (a) (cs) O V (by assumption) (by assumption) (by assumption) (by assumption)) rfl (w_33 hW) (w_34 hW) (w_21 hW) (w_36 hW) d2_6 pd_3 rfl (by decide) rfl (st := []) rfl (by decide) (Nat.le_of_ble_eq_true rfl) (by decide) (by decide) (List.forall_mem_cons.mpr ⟨(List.mem_of_getElem? (i := 0) rfl), (fun _ hx => nomatch hx)⟩) (fun v1 h2 os3 q4 K5 ho6 => ?_)
  obtain ⟨t7, rfl, rfl, F8⟩ := q4
  replace V := V.keep K5 (ninS hxa nin0)
  show Go k h2 _ _ _ 9 #[.val (.ref x), .val (.ref a)] []
  refine Go.retV C d2_9 (Nat.le_of_ble_eq_true rfl) (Nat.le_of_ble_eq_true rfl) [] (fun _ hx => nomatch hx) ?_
  exact ⟨_, rfl, rfl, F8⟩
def Q9 (Z : State) (h : Heap) (p : Int32) : QT := fun v h' os' => (v = some (.int (1 : Int32))) ∧ (os' = []) ∧ (h = h')
set_option maxRecDepth 65536 in
set_option maxHeartbeats 40000000 in
theorem rm9 {l : Launch} {Z : State} {a0 : Array Value} (hW : W0 Z a0) (h : Heap) (p : Int32) (hp : own_L p) :
    Con l Z own_EL true y_5 jdk_43_method_3_code 1 (some .boolean) ({ frames := 0, cells := 0, slots := 0, locals := 0 } : Room) [] #[(.int p)] h [] (Q9 Z h p) := by
  refine Con.intro (a0 := a0) (Ls := #[.val (.int p)]) (by decide +kernel) (own_ew hW) (fun m => by first | (simp [entryFrame, mkF, argsToLocals, Value.category]; done) | rfl) ?_
  intro k C
  refine Go.iloadN C d9_0 rfl ?_
  refine Go.sipush C (255 : Int32) d9_1 (by decide) ?_
  refine Go.icmpgt C d9_4 (fun hc4 => absurd hc4 hp.2) (fun hc4 => ?_)
  refine Go.iconst C (1 : Int32) d9_7 (by decide) ?_
  refine Go.goto C d9_8 ?_
  refine Go.ireturn C d9_12 (Nat.le_of_ble_eq_true rfl) (Nat.le_of_ble_eq_true rfl) (by simp) rfl [] (fun _ hx => nomatch hx) ?_
  exact ⟨rfl, rfl, rfl⟩
def Q10 (Z : State) (h : Heap) (p : Int32) : QT := fun v h' os' => ∃ t : Addr, (v = some (.ref t)) ∧ (os' = [t]) ∧ (Av Z h' t .byte [(.int (own_b p))])
set_option maxRecDepth 65536 in
set_option maxHeartbeats 40000000 in
theorem rm10 {l : Launch} {Z : State} {a0 : Array Value} (hW : W0 Z a0) (h : Heap) (p : Int32) :
    Con l Z own_EL true y_6 jdk_43_method_46_code 1 (some (.array .byte)) ({ frames := 0, cells := 1, slots := 1, locals := 0 } : Room) [] #[(.int p)] h [] (Q10 Z h p) := by
  refine Con.intro (a0 := a0) (Ls := #[.val (.int p)]) (by decide +kernel) (own_ew hW) (fun m => by first | (simp [entryFrame, mkF, argsToLocals, Value.category]; done) | rfl) ?_
  intro k C
  refine Go.iconst C (1 : Int32) d10_0 (by decide) ?_
  refine Go.newarray C (aty := .byte) (w_23 hW) d10_1 (by decide) 1 rfl (cap := 1) (by decide) (by decide) (by decide) (by decide) (fun b1 h2 e3 K4 A5 => ?_)
  have A5 : Av Z h2 b1 .byte [(.int (0 : Int32))] := A5
  have ge_b1 : h.size ≤ b1 := Nat.le_trans (Nat.le_refl _) (ge_of e3)
  have l_h2 : h.size ≤ h2.size := Nat.le_trans (Nat.le_refl _) K4.1
  refine Go.dup C d10_3 rfl ?_
  refine Go.iconst C (0 : Int32) d10_4 (by decide) ?_
  refine Go.iloadN C d10_5 rfl ?_
  refine Go.i2b C d10_6 ?_
  refine Go.bastore C A5 (List.mem_of_getElem? (i := 0) rfl) 0 (by decide) rfl (Nat.le_of_ble_eq_true rfl) (x' := (own_b p)) (own_b_nar p) (vs' := [(.int (own_b p))]) rfl d10_7 (fun h6 K7 A5 => ?_)
  have l_h6 : h.size ≤ h6.size := Nat.le_trans l_h2 K7.1
  refine Go.areturn C d10_8 (Nat.le_of_ble_eq_true rfl) (Nat.le_of_ble_eq_true rfl) rfl rfl [b1] (List.forall_mem_cons.mpr ⟨⟨(List.mem_of_getElem? (i := 0) rfl), ge_b1⟩, (fun _ hx => nomatch hx)⟩) ?_
  exact ⟨_, rfl, rfl, A5⟩
def Q11 (Z : State) (h : Heap) (x : Addr) (t : Addr) : QT := fun v h' os' => (v = none) ∧ (os' = []) ∧ (Obj Z h' x "java/lang/String" fStr [(.ref t), (.int (0 : Int32))])
set_option maxRecDepth 65536 in
set_option maxHeartbeats 40000000 in
theorem rm11 {l : Launch} {Z : State} {a0 : Array Value} (hW : W0 Z a0) (h : Heap) (x : Addr) (t : Addr) (O : Obj Z h x "java/lang/String" fStr [.null, (.int (0 : Int32))]) :
    Con l Z own_EL true y_7 jdk_42_method_151_code 3 none ({ frames := 1, cells := 0, slots := 0, locals := 12 } : Room) [] #[(.ref x), (.ref t), (.int (0 : Int32))] h [x] (Q11 Z h x t) := by
  refine Con.intro (a0 := a0) (Ls := #[.val (.ref x), .val (.ref t), .val (.int (0 : Int32))]) (by decide +kernel) (own_ew hW) (fun m => by first | (simp [entryFrame, mkF, argsToLocals, Value.category]; done) | rfl) ?_
  intro k C
  refine Go.aloadN C d11_0 rfl rfl ?_
  refine Go.initO C (w_37 hW) (w_38 hW) (w_39 hW) d11_1 rfl (by decide) (Nat.le_of_ble_eq_true rfl) ?_
  refine Go.aloadN C d11_4 rfl rfl ?_
  refine Go.aloadN C d11_5 rfl rfl ?_
  refine Go.putF C O (List.mem_of_getElem? (i := 0) rfl) 0 rfl (w_52 hW) Via.refl (Or.inr ⟨w_24 hW, rfl, rfl⟩) (w_22 hW) (fl_0 hW) nd_0 (ty := (.array .byte)) (by decide +kernel) (v' := (.ref t)) rfl rfl (vs' := [(.ref t), (.int (0 : Int32))]) rfl d11_6 (fun h1 K2 O => ?_)
  refine Go.aloadN C d11_9 rfl rfl ?_
  refine Go.iloadN C d11_10 rfl ?_
  refine Go.putF C O (List.mem_of_getElem? (i := 0) rfl) 1 rfl (w_51 hW) Via.refl (Or.inr ⟨w_25 hW, rfl, rfl⟩) (w_22 hW) (fl_0 hW) nd_0 (ty := .byte) (by decide +kernel) (v' := (.int (0 : Int32))) rfl rfl (vs' := [(.ref t), (.int (0 : Int32))]) rfl d11_11 (fun h3 K4 O => ?_)
  refine Go.retV C d11_14 (Nat.le_of_ble_eq_true rfl) (Nat.le_of_ble_eq_true rfl) [] (fun _ hx => nomatch hx) ?_
  exact ⟨rfl, rfl, O⟩
def Q8 (Z : State) (h : Heap) (p : Int32) : QT := fun v h' os' => ∃ r : Addr, ∃ t : Addr, (v = some (.ref r)) ∧ (os' = []) ∧ (Str Z h' r t [own_b p])
set_option maxRecDepth 65536 in
set_option maxHeartbeats 40000000 in
theorem rm8 {l : Launch} {Z : State} {a0 : Array Value} (hW : W0 Z a0) (h : Heap) (p : Int32) (hp : own_L p) :
    Con l Z own_EL true y_8 jdk_42_method_139_code 1 (some (.object "java/lang/String")) ({ frames := 2, cells := 2, slots := 5, locals := 27 } : Room) [] #[(.int p)] h [] (Q8 Z h p) := by
  refine Con.intro (a0 := a0) (Ls := #[.val (.int p)]) (by decide +kernel) (own_ew hW) (fun m => by first | (simp [entryFrame, mkF, argsToLocals, Value.category]; done) | rfl) ?_
  intro k C
  obtain ⟨cz, Scs, ncz⟩ := own_cs hW
  refine Go.getS C Scs (host := "") (Or.inl (w_40 hW)) Via.refl d8_0 ?_
  refine Go.ifeq C d8_3 (fun hc3 => absurd hc3 ncz) (fun hc3 => ?_)
  refine Go.iloadN C d8_6 rfl ?_
  refine Go.callS C (z := y_5) (argsL := [(.int p)]) (rm9 hW h (p) (by assumption)) (w_56 hW) (w_57 hW) (w_58 hW) (w_59 hW) d8_7 pd_4 rfl (by decide) rfl (st := []) rfl (by decide) (Nat.le_of_ble_eq_true rfl) (by decide) (by decide) ((fun _ hx => nomatch hx)) (fun v1 h2 os3 q4 K5 ho6 => ?_)
  obtain ⟨rfl, rfl, rfl⟩ := q4
  clear K5 ho6
  show Go k h _ _ _ 10 #[.val (.int p)] [(.int (1 : Int32))]
  refine Go.ifeq C d8_10 (fun hc => absurd hc (by decide)) (fun _ => ?_)
  refine Go.new C (w_60 hW) (w_22 hW) (w_21 hW) (fl_0 hW) dv_0 d8_13 (by decide) (by decide) (fun b7 h8 e9 K10 O11 => ?_)
  refine Go.dup C d8_16 rfl ?_
  refine Go.iloadN C d8_17 rfl ?_
  refine Go.callS C (z := y_6) (argsL := [(.int p)]) (rm10 hW h8 (p)) (w_61 hW) (w_62 hW) (w_58 hW) (w_63 hW) d8_18 pd_5 rfl (by decide) rfl (st := [(.ref b7), (.ref b7)]) rfl (by decide) (Nat.le_of_ble_eq_true rfl) (by decide) (by decide) ((fun _ hx => nomatch hx)) (fun v12 h13 os14 q15 K16 ho17 => ?_)
  obtain ⟨t18, rfl, rfl, F19⟩ := q15
  have g_t18 : h8.size ≤ t18 := (ho17 _ (List.mem_of_getElem? (i := 0) rfl)).1
  have n_b7_t18 : b7 ≠ t18 := ne_lt O11.lt g_t18
  replace O11 := O11.k0 K16
  show Go k h13 _ _ _ 21 #[.val (.int p)] [(.ref t18), (.ref b7), (.ref b7)]
  refine Go.iconst C (0 : Int32) d8_21 (by decide) ?_
  refine Go.callI C (z := y_7) (a := b7) (argsL := [(.ref t18), (.int (0 : Int32))]) (rm11 hW h13 (b7) (t18) O11) rfl (w_64 hW) (w_65 hW) (w_21 hW) (w_66 hW) d8_22 pd_6 rfl (by decide) rfl (st := [(.ref b7)]) rfl (by decide) (Nat.le_of_ble_eq_true rfl) (by decide) (by decide) (List.forall_mem_cons.mpr ⟨(List.mem_of_getElem? (i := 1) rfl), (fun _ hx => nomatch hx)⟩) (fun v20 h21 os22 q23 K24 ho25 => ?_)
  obtain ⟨rfl, rfl, F26⟩ := q23
  replace F19 := F19.keep K24 (ninS (Ne.symm n_b7_t18) nin0)
  show Go k h21 _ _ _ 25 #[.val (.int p)] [(.ref b7)]
  refine Go.areturn C d8_25 (Nat.le_of_ble_eq_true rfl) (Nat.le_of_ble_eq_true rfl) rfl rfl [] (fun _ hx => nomatch hx) ?_
  exact ⟨_, _, rfl, rfl, ⟨F26, F19⟩⟩
def Q1 (Z : State) (h : Heap) (p : Int32) (n : Int32) : QT := fun v h' os' => ∃ r : Addr, (v = some (.ref r)) ∧ (os' = [])
set_option maxRecDepth 65536 in
set_option maxHeartbeats 40000000 in
theorem rm1 {l : Launch} {Z : State} {a0 : Array Value} (hW : W0 Z a0) (h : Heap) (p : Int32) (n : Int32) :
    Con l Z own_EL true y_9 method_2_code 5 (some (.object "java/lang/String")) ({ frames := 4, cells := 3, slots := 12, locals := 90 } : Room) [] #[(.int p), (.int n)] h [] (Q1 Z h p n) := by
  refine Con.intro (a0 := a0) (Ls := #[.val (.int p), .val (.int n), .unset, .unset, .unset]) (by decide +kernel) (own_ew hW) (fun m => by first | (simp [entryFrame, mkF, argsToLocals, Value.category]; done) | rfl) ?_
  intro k C
  refine Go.iloadN C d1_0 rfl ?_
  refine Go.sipush C (255 : Int32) d1_1 (by decide) ?_
  refine Go.iand C d1_4 ?_
  refine Go.i2c C d1_5 ?_
  generalize e_c0 : ((p &&& (255 : Int32)).toUInt32.toUInt16.toUInt32.toInt32) = c0
  have h_c0 := own_c8i e_c0
  refine Go.istoreN C d1_6 (Ls' := #[.val (.int p), .val (.int n), .val (.int c0), .unset, .unset]) rfl ?_
  refine Go.iloadN C d1_7 rfl ?_
  refine Go.bipush C (8 : Int32) d1_8 (by decide) ?_
  refine Go.iushr C d1_10 ?_
  refine Go.sipush C (255 : Int32) d1_11 (by decide) ?_
  refine Go.iand C d1_14 ?_
  refine Go.i2c C d1_15 ?_
  generalize e_c1 : ((((p.toUInt32 >>> ((8 : Int32) &&& 31).toUInt32).toInt32) &&& (255 : Int32)).toUInt32.toUInt16.toUInt32.toInt32) = c1
  have h_c1 := own_c8i e_c1
  refine Go.istoreN C d1_16 (Ls' := #[.val (.int p), .val (.int n), .val (.int c0), .val (.int c1), .unset]) rfl ?_
  refine Go.iloadN C d1_17 rfl ?_
  refine Go.ifne C d1_18 (fun hc18 => ?_) (fun hc18 => ?_)
  · refine Go.iloadN C d1_24 rfl ?_
    refine Go.iconst C (1 : Int32) d1_25 (by decide) ?_
    refine Go.icmpne C d1_26 (fun hc26 => ?_) (fun hc26 => ?_)
    · refine Go.iconst C (2 : Int32) d1_34 (by decide) ?_
      refine Go.newarray C (aty := .char) (w_28 hW) d1_35 (by decide) 2 rfl (cap := 2) (by decide) (by decide) (by decide) (by decide) (fun b10 h11 e12 K13 A14 => ?_)
      have A14 : Av Z h11 b10 .char [(.int (0 : Int32)), (.int (0 : Int32))] := A14
      refine Go.astore C d1_37 rfl (Ls' := #[.val (.int p), .val (.int n), .val (.int c0), .val (.int c1), .val (.ref b10)]) rfl ?_
      refine Go.aload C d1_39 rfl rfl ?_
      refine Go.iconst C (0 : Int32) d1_41 (by decide) ?_
      refine Go.iloadN C d1_42 rfl ?_
      refine Go.castore C A14 (List.mem_of_getElem? (i := 0) rfl) 0 (by decide) rfl (Nat.le_of_ble_eq_true rfl) (x' := c0) (own_nar_lat h_c0) (vs' := [(.int c0), (.int (0 : Int32))]) rfl d1_43 (fun h15 K16 A14 => ?_)
      refine Go.aload C d1_44 rfl rfl ?_
      refine Go.iconst C (1 : Int32) d1_46 (by decide) ?_
      refine Go.iloadN C d1_47 rfl ?_
      refine Go.castore C A14 (List.mem_of_getElem? (i := 0) rfl) 1 (by decide) rfl (Nat.le_of_ble_eq_true rfl) (x' := c1) (own_nar_lat h_c1) (vs' := [(.int c0), (.int c1)]) rfl d1_48 (fun h17 K18 A14 => ?_)
      refine Go.new C (w_29 hW) (w_22 hW) (w_21 hW) (fl_0 hW) dv_0 d1_49 (by decide) (by decide) (fun b19 h20 e21 K22 O23 => ?_)
      have n_b10_b19 : b10 ≠ b19 := ne_lt A14.lt (ge_of e21)
      replace A14 := A14.k0 K22
      refine Go.dup C d1_52 rfl ?_
      refine Go.aload C d1_53 rfl rfl ?_
      have A14 : Av Z h20 b10 .char (List.map Value.int ([c0, c1] : List Int32)) := A14
      refine Go.callI C (z := y_4) (a := b19) (argsL := [(.ref b10)]) (rm2 hW h20 (b19) (b10) ([c0, c1]) O23 A14 (own_lat2 h_c0 h_c1) (Nat.le_of_ble_eq_true rfl) n_b10_b19 (by simp)) rfl (w_30 hW) (w_31 hW) (w_21 hW) (w_32 hW) d1_55 pd_8 rfl (by decide) rfl (st := [(.ref b19)]) rfl (by decide) (Nat.le_of_ble_eq_true rfl) (by decide) (by decide) (List.forall_mem_cons.mpr ⟨(List.mem_of_getElem? (i := 0) rfl), (fun _ hx => nomatch hx)⟩) (fun v24 h25 os26 q27 K28 ho29 => ?_)
      obtain ⟨t30, rfl, rfl, F31⟩ := q27
      replace A14 := A14.keep K28 (ninS n_b10_b19 nin0)
      show Go k h25 _ _ _ 58 #[.val (.int p), .val (.int n), .val (.int c0), .val (.int c1), .val (.ref b10)] [(.ref b19)]
      refine Go.areturn C d1_58 (Nat.le_of_ble_eq_true rfl) (Nat.le_of_ble_eq_true rfl) rfl rfl [] (fun _ hx => nomatch hx) ?_
      exact ⟨_, rfl, rfl⟩
    · refine Go.iloadN C d1_29 rfl ?_
      refine Go.callS C (z := y_8) (argsL := [(.int c0)]) (rm8 hW h (c0) h_c0) (w_53 hW) (w_54 hW) (w_21 hW) (w_55 hW) d1_30 pd_7 rfl (by decide) rfl (st := []) rfl (by decide) (Nat.le_of_ble_eq_true rfl) (by decide) (by decide) ((fun _ hx => nomatch hx)) (fun v1 h2 os3 q4 K5 ho6 => ?_)
      obtain ⟨r7, t8, rfl, rfl, F9⟩ := q4
      show Go k h2 _ _ _ 33 #[.val (.int p), .val (.int n), .val (.int c0), .val (.int c1), .unset] [(.ref r7)]
      refine Go.areturn C d1_33 (Nat.le_of_ble_eq_true rfl) (Nat.le_of_ble_eq_true rfl) rfl rfl [] (fun _ hx => nomatch hx) ?_
      exact ⟨_, rfl, rfl⟩
  · refine Go.ldcO C (w_20 hW) (own_sa hW) d1_21 (n := 0) (by decide) (by decide) (by decide) (by decide) (fun a1 h1 K1 => ?_)
    refine Go.areturn C d1_23 (Nat.le_of_ble_eq_true rfl) (Nat.le_of_ble_eq_true rfl) rfl rfl [] (fun _ hx => nomatch hx) ?_
    exact ⟨_, rfl, rfl⟩
def Q13 (Z : State) (h : Heap) (x : Addr) : QT := fun v h' os' => (v = none) ∧ (os' = []) ∧ (h = h')
set_option maxRecDepth 65536 in
set_option maxHeartbeats 40000000 in
theorem rm13 {l : Launch} {Z : State} {a0 : Array Value} (hW : W0 Z a0) (h : Heap) (x : Addr) :
    Con l Z own_EL true y_10 jdk_30_method_1_code 1 none ({ frames := 1, cells := 0, slots := 0, locals := 12 } : Room) [] #[(.ref x)] h [] (Q13 Z h x) := by
  refine Con.intro (a0 := a0) (Ls := #[.val (.ref x)]) (by decide +kernel) (own_ew hW) (fun m => by first | (simp [entryFrame, mkF, argsToLocals, Value.category]; done) | rfl) ?_
  intro k C
  refine Go.aloadN C d13_0 rfl rfl ?_
  refine Go.initO C (w_79 hW) (w_38 hW) (w_39 hW) d13_1 rfl (by decide) (Nat.le_of_ble_eq_true rfl) ?_
  refine Go.retV C d13_4 (Nat.le_of_ble_eq_true rfl) (Nat.le_of_ble_eq_true rfl) [] (fun _ hx => nomatch hx) ?_
  exact ⟨rfl, rfl, rfl⟩
def Q12 (Z : State) (h : Heap) (t : Addr) (gf : Value) (ix : Int32) (gg : Value) (gp : Value) (gr : Value) (wf : Int32) (gn : Value) (rs : Int32) (dy : Int32) (gk : Value) : QT := fun v h' os' => (v = none) ∧ (os' = []) ∧ (Obj Z h' t "com/example/dossier_relay/dossierrelay/bundle/BundleObject" f_1 [gf, (.int ix), gg, gp, gr, (.int wf), gn, (.int rs), (.int dy), gk])
set_option maxRecDepth 65536 in
set_option maxHeartbeats 40000000 in
theorem rm12 {l : Launch} {Z : State} {a0 : Array Value} (hW : W0 Z a0) (h : Heap) (t : Addr) (gf : Value) (ix : Int32) (gg : Value) (gp : Value) (gr : Value) (wf : Int32) (gn : Value) (rs : Int32) (dy : Int32) (gk : Value) (O : Obj Z h t "com/example/dossier_relay/dossierrelay/bundle/BundleObject" f_1 [.null, (.int (0 : Int32)), .null, .null, .null, (.int (0 : Int32)), .null, (.int (0 : Int32)), (.int (0 : Int32)), .null]) (hgf : gf.isRef = true) (hgg : gg.isRef = true) (hgp : gp.isRef = true) (hgr : gr.isRef = true) (hgn : gn.isRef = true) (hgk : gk.isRef = true) (hwf : wf = 0 ∨ wf = 1) (hrs : rs = 0 ∨ rs = 1) :
    Con l Z own_EL true y_11 prog_4_method_1_code 11 none ({ frames := 2, cells := 0, slots := 0, locals := 24 } : Room) [] #[(.ref t), gf, (.int ix), gg, gp, gr, (.int wf), gn, (.int rs), (.int dy), gk] h [t] (Q12 Z h t gf ix gg gp gr wf gn rs dy gk) := by
  refine Con.intro (a0 := a0) (Ls := #[.val (.ref t), .val gf, .val (.int ix), .val gg, .val gp, .val gr, .val (.int wf), .val gn, .val (.int rs), .val (.int dy), .val gk]) (by decide +kernel) (own_ew hW) (fun m => by simp [entryFrame, mkF, argsToLocals, catI, catJ, catD, catR, catN, cat_ref hgf, cat_ref hgg, cat_ref hgp, cat_ref hgr, cat_ref hgn, cat_ref hgk]) ?_
  intro k C
  refine Go.aloadN C d12_0 rfl rfl ?_
  refine Go.callI C (z := y_10) (a := t) (argsL := []) (rm13 hW h (t)) rfl (w_74 hW) (w_75 hW) (w_77 hW) (w_78 hW) d12_1 pd_9 rfl (by decide) rfl (st := []) rfl (by decide) (Nat.le_of_ble_eq_true rfl) (by decide) (by decide) ((fun _ hx => nomatch hx)) (fun v1 h2 os3 q4 K5 ho6 => ?_)
  obtain ⟨rfl, rfl, rfl⟩ := q4
  clear K5 ho6
  show Go k h _ _ _ 4 #[.val (.ref t), .val gf, .val (.int ix), .val gg, .val gp, .val gr, .val (.int wf), .val gn, .val (.int rs), .val (.int dy), .val gk] []
  refine Go.aloadN C d12_4 rfl rfl ?_
  refine Go.aloadN C d12_5 rfl hgf ?_
  refine Go.putF C O (List.mem_of_getElem? (i := 0) rfl) 0 rfl (w_80 hW) Via.refl (Or.inr ⟨w_81 hW, rfl, rfl⟩) (w_69 hW) (fl_1 hW) nd_1 (ty := (.object "com/example/dossier_relay/dossierrelay/bundle/BundleFile")) (by decide +kernel) (v' := gf) rfl (fits_refv rfl hgf) (vs' := [gf, (.int (0 : Int32)), .null, .null, .null, (.int (0 : Int32)), .null, (.int (0 : Int32)), (.int (0 : Int32)), .null]) rfl d12_6 (fun h7 K8 O => ?_)
  refine Go.aloadN C d12_9 rfl rfl ?_
  refine Go.iloadN C d12_10 rfl ?_
  refine Go.putF C O (List.mem_of_getElem? (i := 0) rfl) 1 rfl (w_82 hW) Via.refl (Or.inr ⟨w_83 hW, rfl, rfl⟩) (w_69 hW) (fl_1 hW) nd_1 (ty := .int) (by decide +kernel) (v' := (.int ix)) rfl rfl (vs' := [gf, (.int ix), .null, .null, .null, (.int (0 : Int32)), .null, (.int (0 : Int32)), (.int (0 : Int32)), .null]) rfl d12_11 (fun h9 K10 O => ?_)
  refine Go.aloadN C d12_14 rfl rfl ?_
  refine Go.aloadN C d12_15 rfl hgg ?_
  refine Go.putF C O (List.mem_of_getElem? (i := 0) rfl) 2 rfl (w_84 hW) Via.refl (Or.inr ⟨w_85 hW, rfl, rfl⟩) (w_69 hW) (fl_1 hW) nd_1 (ty := (.object "java/lang/String")) (by decide +kernel) (v' := gg) rfl (fits_refv rfl hgg) (vs' := [gf, (.int ix), gg, .null, .null, (.int (0 : Int32)), .null, (.int (0 : Int32)), (.int (0 : Int32)), .null]) rfl d12_16 (fun h11 K12 O => ?_)
  refine Go.aloadN C d12_19 rfl rfl ?_
  refine Go.aload C d12_20 rfl hgp ?_
  refine Go.putF C O (List.mem_of_getElem? (i := 0) rfl) 3 rfl (w_86 hW) Via.refl (Or.inr ⟨w_87 hW, rfl, rfl⟩) (w_69 hW) (fl_1 hW) nd_1 (ty := (.object "java/lang/String")) (by decide +kernel) (v' := gp) rfl (fits_refv rfl hgp) (vs' := [gf, (.int ix), gg, gp, .null, (.int (0 : Int32)), .null, (.int (0 : Int32)), (.int (0 : Int32)), .null]) rfl d12_22 (fun h13 K14 O => ?_)
  refine Go.aloadN C d12_25 rfl rfl ?_
  refine Go.aload C d12_26 rfl hgr ?_
  refine Go.putF C O (List.mem_of_getElem? (i := 0) rfl) 4 rfl (w_88 hW) Via.refl (Or.inr ⟨w_89 hW, rfl, rfl⟩) (w_69 hW) (fl_1 hW) nd_1 (ty := (.object "java/lang/String")) (by decide +kernel) (v' := gr) rfl (fits_refv rfl hgr) (vs' := [gf, (.int ix), gg, gp, gr, (.int (0 : Int32)), .null, (.int (0 : Int32)), (.int (0 : Int32)), .null]) rfl d12_28 (fun h15 K16 O => ?_)
  refine Go.aloadN C d12_31 rfl rfl ?_
  refine Go.iload C d12_32 rfl ?_
  refine Go.putF C O (List.mem_of_getElem? (i := 0) rfl) 5 rfl (w_90 hW) Via.refl (Or.inr ⟨w_91 hW, rfl, rfl⟩) (w_69 hW) (fl_1 hW) nd_1 (ty := .boolean) (by decide +kernel) (v' := (.int wf)) (nar01 hwf).1 (nar01 hwf).2 (vs' := [gf, (.int ix), gg, gp, gr, (.int wf), .null, (.int (0 : Int32)), (.int (0 : Int32)), .null]) rfl d12_34 (fun h17 K18 O => ?_)
  refine Go.aloadN C d12_37 rfl rfl ?_
  refine Go.aload C d12_38 rfl hgn ?_
  refine Go.putF C O (List.mem_of_getElem? (i := 0) rfl) 6 rfl (w_92 hW) Via.refl (Or.inr ⟨w_93 hW, rfl, rfl⟩) (w_69 hW) (fl_1 hW) nd_1 (ty := (.object "java/lang/String")) (by decide +kernel) (v' := gn) rfl (fits_refv rfl hgn) (vs' := [gf, (.int ix), gg, gp, gr, (.int wf), gn, (.int (0 : Int32)), (.int (0 : Int32)), .null]) rfl d12_40 (fun h19 K20 O => ?_)
  refine Go.aloadN C d12_43 rfl rfl ?_
  refine Go.iload C d12_44 rfl ?_
  refine Go.putF C O (List.mem_of_getElem? (i := 0) rfl) 7 rfl (w_94 hW) Via.refl (Or.inr ⟨w_95 hW, rfl, rfl⟩) (w_69 hW) (fl_1 hW) nd_1 (ty := .boolean) (by decide +kernel) (v' := (.int rs)) (nar01 hrs).1 (nar01 hrs).2 (vs' := [gf, (.int ix), gg, gp, gr, (.int wf), gn, (.int rs), (.int (0 : Int32)), .null]) rfl d12_46 (fun h21 K22 O => ?_)
  refine Go.aloadN C d12_49 rfl rfl ?_
  refine Go.iload C d12_50 rfl ?_
  refine Go.putF C O (List.mem_of_getElem? (i := 0) rfl) 8 rfl (w_96 hW) Via.refl (Or.inr ⟨w_97 hW, rfl, rfl⟩) (w_69 hW) (fl_1 hW) nd_1 (ty := .int) (by decide +kernel) (v' := (.int dy)) rfl rfl (vs' := [gf, (.int ix), gg, gp, gr, (.int wf), gn, (.int rs), (.int dy), .null]) rfl d12_52 (fun h23 K24 O => ?_)
  refine Go.aloadN C d12_55 rfl rfl ?_
  refine Go.aload C d12_56 rfl hgk ?_
  refine Go.putF C O (List.mem_of_getElem? (i := 0) rfl) 9 rfl (w_98 hW) Via.refl (Or.inr ⟨w_99 hW, rfl, rfl⟩) (w_69 hW) (fl_1 hW) nd_1 (ty := (.array .int)) (by decide +kernel) (v' := gk) rfl (fits_refv rfl hgk) (vs' := [gf, (.int ix), gg, gp, gr, (.int wf), gn, (.int rs), (.int dy), gk]) rfl d12_58 (fun h25 K26 O => ?_)
  refine Go.retV C d12_61 (Nat.le_of_ble_eq_true rfl) (Nat.le_of_ble_eq_true rfl) [] (fun _ hx => nomatch hx) ?_
  exact ⟨rfl, rfl, O⟩
def Q_rm_npr (Z : State) (h : Heap) (o : Addr) (gf : Value) (ix : Int32) (gg : Value) (gr : Value) (gn : Value) (rs : Int32) (dy : Int32) (gk : Value) (ap : Addr) (wf : Int32) : QT := fun v h' os' => (v = some (.int (0 : Int32))) ∧ (os' = []) ∧ (h = h')
set_option maxRecDepth 65536 in
set_option maxHeartbeats 40000000 in
theorem rm_npr {l : Launch} {Z : State} {a0 : Array Value} (hW : W0 Z a0) (h : Heap) (o : Addr) (gf : Value) (ix : Int32) (gg : Value) (gr : Value) (gn : Value) (rs : Int32) (dy : Int32) (gk : Value) (ap : Addr) (wf : Int32) (O : Obj Z h o "com/example/dossier_relay/dossierrelay/bundle/BundleObject" f_1 [gf, (.int ix), gg, (.ref ap), gr, (.int wf), gn, (.int rs), (.int dy), gk]) :
    Con l Z own_EL true y_12 prog_4_method_3_code 1 (some .boolean) ({ frames := 0, cells := 0, slots := 0, locals := 0 } : Room) [] #[(.ref o)] h [] (Q_rm_npr Z h o gf ix gg gr gn rs dy gk ap wf) := by
  refine Con.intro (a0 := a0) (Ls := #[.val (.ref o)]) (by decide +kernel) (own_ew hW) (fun m => by first | (simp [entryFrame, mkF, argsToLocals, Value.category]; done) | rfl) ?_
  intro k C
  refine Go.aloadN C d14_0 rfl rfl ?_
  refine Go.getF C O 3 rfl rfl (host := "") (Or.inl (w_86 hW)) Via.refl d14_1 ?_
  refine Go.ifnonnullY C d14_4 ?_
  refine Go.iconst C (0 : Int32) d14_18 (by decide) ?_
  refine Go.ireturn C d14_19 (Nat.le_of_ble_eq_true rfl) (Nat.le_of_ble_eq_true rfl) (by simp) rfl [] (fun _ hx => nomatch hx) ?_
  exact ⟨rfl, rfl, rfl⟩
def Q_rm_np0 (Z : State) (h : Heap) (o : Addr) (gf : Value) (ix : Int32) (gg : Value) (gr : Value) (gn : Value) (rs : Int32) (dy : Int32) (gk : Value) : QT := fun v h' os' => (v = some (.int (0 : Int32))) ∧ (os' = []) ∧ (h = h')
set_option maxRecDepth 65536 in
set_option maxHeartbeats 40000000 in
theorem rm_np0 {l : Launch} {Z : State} {a0 : Array Value} (hW : W0 Z a0) (h : Heap) (o : Addr) (gf : Value) (ix : Int32) (gg : Value) (gr : Value) (gn : Value) (rs : Int32) (dy : Int32) (gk : Value) (O : Obj Z h o "com/example/dossier_relay/dossierrelay/bundle/BundleObject" f_1 [gf, (.int ix), gg, .null, gr, (.int (0 : Int32)), gn, (.int rs), (.int dy), gk]) :
    Con l Z own_EL true y_12 prog_4_method_3_code 1 (some .boolean) ({ frames := 0, cells := 0, slots := 0, locals := 0 } : Room) [] #[(.ref o)] h [] (Q_rm_np0 Z h o gf ix gg gr gn rs dy gk) := by
  refine Con.intro (a0 := a0) (Ls := #[.val (.ref o)]) (by decide +kernel) (own_ew hW) (fun m => by first | (simp [entryFrame, mkF, argsToLocals, Value.category]; done) | rfl) ?_
  intro k C
  refine Go.aloadN C d14_0 rfl rfl ?_
  refine Go.getF C O 3 rfl rfl (host := "") (Or.inl (w_86 hW)) Via.refl d14_1 ?_
  refine Go.ifnonnullN C d14_4 ?_
  refine Go.aloadN C d14_7 rfl rfl ?_
  refine Go.getF C O 5 rfl rfl (host := "") (Or.inl (w_90 hW)) Via.refl d14_8 ?_
  refine Go.ifeq C d14_11 (fun _ => ?_) (fun hc => absurd hc (by decide)) 
  refine Go.iconst C (0 : Int32) d14_18 (by decide) ?_
  refine Go.ireturn C d14_19 (Nat.le_of_ble_eq_true rfl) (Nat.le_of_ble_eq_true rfl) (by simp) rfl [] (fun _ hx => nomatch hx) ?_
  exact ⟨rfl, rfl, rfl⟩
def Q_rm_np1 (Z : State) (h : Heap) (o : Addr) (gf : Value) (ix : Int32) (gg : Value) (gr : Value) (gn : Value) (rs : Int32) (dy : Int32) (gk : Value) : QT := fun v h' os' => (v = some (.int (1 : Int32))) ∧ (os' = []) ∧ (h = h')
set_option maxRecDepth 65536 in
set_option maxHeartbeats 40000000 in
theorem rm_np1 {l : Launch} {Z : State} {a0 : Array Value} (hW : W0 Z a0) (h : Heap) (o : Addr) (gf : Value) (ix : Int32) (gg : Value) (gr : Value) (gn : Value) (rs : Int32) (dy : Int32) (gk : Value) (O : Obj Z h o "com/example/dossier_relay/dossierrelay/bundle/BundleObject" f_1 [gf, (.int ix), gg, .null, gr, (.int (1 : Int32)), gn, (.int rs), (.int dy), gk]) :
    Con l Z own_EL true y_12 prog_4_method_3_code 1 (some .boolean) ({ frames := 0, cells := 0, slots := 0, locals := 0 } : Room) [] #[(.ref o)] h [] (Q_rm_np1 Z h o gf ix gg gr gn rs dy gk) := by
  refine Con.intro (a0 := a0) (Ls := #[.val (.ref o)]) (by decide +kernel) (own_ew hW) (fun m => by first | (simp [entryFrame, mkF, argsToLocals, Value.category]; done) | rfl) ?_
  intro k C
  refine Go.aloadN C d14_0 rfl rfl ?_
  refine Go.getF C O 3 rfl rfl (host := "") (Or.inl (w_86 hW)) Via.refl d14_1 ?_
  refine Go.ifnonnullN C d14_4 ?_
  refine Go.aloadN C d14_7 rfl rfl ?_
  refine Go.getF C O 5 rfl rfl (host := "") (Or.inl (w_90 hW)) Via.refl d14_8 ?_
  refine Go.ifeq C d14_11 (fun hc => absurd hc (by decide)) (fun _ => ?_)
  refine Go.iconst C (1 : Int32) d14_14 (by decide) ?_
  refine Go.goto C d14_15 ?_
  refine Go.ireturn C d14_19 (Nat.le_of_ble_eq_true rfl) (Nat.le_of_ble_eq_true rfl) (by simp) rfl [] (fun _ hx => nomatch hx) ?_
  exact ⟨rfl, rfl, rfl⟩
def Q0 (Z : State) (h : Heap) (a : Int32) (b : Int32) (c : Int32) (d : Int32) (e : Int32) (f0 : Addr) (f1 : Addr) (f2 : Addr) (f3 : Addr) (f4 : Addr) (f5 : Addr) : QT := fun v h' os' => (v = some (.int (1 : Int32))) ∧ (os' = [])
set_option maxRecDepth 65536 in
set_option maxHeartbeats 40000000 in
theorem rm0 {l : Launch} {Z : State} {a0 : Array Value} (hW : W0 Z a0) (h : Heap) (a : Int32) (b : Int32) (c : Int32) (d : Int32) (e : Int32) (f0 : Addr) (f1 : Addr) (f2 : Addr) (f3 : Addr) (f4 : Addr) (f5 : Addr) (T0 : Sta Z Z.heap "com/example/dossier_relay/dossierrelay/bundle/BundleFile" "CONFIGURATION" "Lcom/example/dossier_relay/dossierrelay/bundle/BundleFile;" (.ref f0)) (T1 : Sta Z Z.heap "com/example/dossier_relay/dossierrelay/bundle/BundleFile" "METADATA" "Lcom/example/dossier_relay/dossierrelay/bundle/BundleFile;" (.ref f1)) (T2 : Sta Z Z.heap "com/example/dossier_relay/dossierrelay/bundle/BundleFile" "REPOROOTS" "Lcom/example/dossier_relay/dossierrelay/bundle/BundleFile;" (.ref f2)) (T3 : Sta Z Z.heap "com/example/dossier_relay/dossierrelay/bundle/BundleFile" "REPOFOLDERS" "Lcom/example/dossier_relay/dossierrelay/bundle/BundleFile;" (.ref f3)) (T4 : Sta Z Z.heap "com/example/dossier_relay/dossierrelay/bundle/BundleFile" "DOSSIERS" "Lcom/example/dossier_relay/dossierrelay/bundle/BundleFile;" (.ref f4)) (T5 : Sta Z Z.heap "com/example/dossier_relay/dossierrelay/bundle/BundleFile" "DOCUMENTS" "Lcom/example/dossier_relay/dossierrelay/bundle/BundleFile;" (.ref f5)) (E0 : Exa Z Z.heap f0 "com/example/dossier_relay/dossierrelay/bundle/BundleFile") (E1 : Exa Z Z.heap f1 "com/example/dossier_relay/dossierrelay/bundle/BundleFile") (E2 : Exa Z Z.heap f2 "com/example/dossier_relay/dossierrelay/bundle/BundleFile") (E3 : Exa Z Z.heap f3 "com/example/dossier_relay/dossierrelay/bundle/BundleFile") (E4 : Exa Z Z.heap f4 "com/example/dossier_relay/dossierrelay/bundle/BundleFile") (E5 : Exa Z Z.heap f5 "com/example/dossier_relay/dossierrelay/bundle/BundleFile") :
    Con l Z own_EL true x code 24 (some .boolean) room_1 tables_1 #[(.int a), (.int b), (.int c), (.int d), (.int e)] h [] (Q0 Z h a b c d e f0 f1 f2 f3 f4 f5) := by
  refine Con.intro (a0 := a0) (Ls := #[.val (.int a), .val (.int b), .val (.int c), .val (.int d), .val (.int e), .unset, .unset, .unset, .unset, .unset, .unset, .unset, .unset, .unset, .unset, .unset, .unset, .unset, .unset, .unset, .unset, .unset, .unset, .unset]) (by decide +kernel) (own_ew hW) (fun m => by first | (simp [entryFrame, mkF, argsToLocals, Value.category, maxLocals]; done) | rfl) ?_
  intro k C
  refine Go.bipush C (6 : Int32) d0_0 (by decide) ?_
  refine Go.anewarray C (w_0 hW) (w_1 hW) d0_2 (by decide) 6 rfl (cap := 6) (by decide) (by decide) (by decide) (by decide) (fun bA hA eA KA VA => ?_)
  have VA : Avr Z hA bA "com/example/dossier_relay/dossierrelay/bundle/BundleFile" [.null, .null, .null, .null, .null, .null] := VA
  refine Go.dup C d0_5 rfl ?_
  refine Go.iconst C (0 : Int32) d0_6 (by decide) ?_
  refine Go.getS C T0 (host := "") (Or.inl (w_2 hW)) Via.refl d0_7 ?_
  refine Go.old C (fun X0 => ?_)
  refine Go.aastore C VA (List.mem_of_getElem? (i := 0) rfl) (Ins.self (E0.ext X0)) 0 (by decide) rfl (Nat.le_of_ble_eq_true rfl) (vs' := [(.ref f0), .null, .null, .null, .null, .null]) rfl d0_10 (fun h1 K2 VA => ?_)
  refine Go.dup C d0_11 rfl ?_
  refine Go.iconst C (1 : Int32) d0_12 (by decide) ?_
  refine Go.getS C T1 (host := "") (Or.inl (w_6 hW)) Via.refl d0_13 ?_
  refine Go.old C (fun X1 => ?_)
  refine Go.aastore C VA (List.mem_of_getElem? (i := 0) rfl) (Ins.self (E1.ext X1)) 1 (by decide) rfl (Nat.le_of_ble_eq_true rfl) (vs' := [(.ref f0), (.ref f1), .null, .null, .null, .null]) rfl d0_16 (fun h3 K4 VA => ?_)
  refine Go.dup C d0_17 rfl ?_
  refine Go.iconst C (2 : Int32) d0_18 (by decide) ?_
  refine Go.getS C T2 (host := "") (Or.inl (w_8 hW)) Via.refl d0_19 ?_
  refine Go.old C (fun X2 => ?_)
  refine Go.aastore C VA (List.mem_of_getElem? (i := 0) rfl) (Ins.self (E2.ext X2)) 2 (by decide) rfl (Nat.le_of_ble_eq_true rfl) (vs' := [(.ref f0), (.ref f1), (.ref f2), .null, .null, .null]) rfl d0_22 (fun h5 K6 VA => ?_)
  refine Go.dup C d0_23 rfl ?_
  refine Go.iconst C (3 : Int32) d0_24 (by decide) ?_
  refine Go.getS C T3 (host := "") (Or.inl (w_10 hW)) Via.refl d0_25 ?_
  refine Go.old C (fun X3 => ?_)
  refine Go.aastore C VA (List.mem_of_getElem? (i := 0) rfl) (Ins.self (E3.ext X3)) 3 (by decide) rfl (Nat.le_of_ble_eq_true rfl) (vs' := [(.ref f0), (.ref f1), (.ref f2), (.ref f3), .null, .null]) rfl d0_28 (fun h7 K8 VA => ?_)
  refine Go.dup C d0_29 rfl ?_
  refine Go.iconst C (4 : Int32) d0_30 (by decide) ?_
  refine Go.getS C T4 (host := "") (Or.inl (w_12 hW)) Via.refl d0_31 ?_
  refine Go.old C (fun X4 => ?_)
  refine Go.aastore C VA (List.mem_of_getElem? (i := 0) rfl) (Ins.self (E4.ext X4)) 4 (by decide) rfl (Nat.le_of_ble_eq_true rfl) (vs' := [(.ref f0), (.ref f1), (.ref f2), (.ref f3), (.ref f4), .null]) rfl d0_34 (fun h9 K10 VA => ?_)
  refine Go.dup C d0_35 rfl ?_
  refine Go.iconst C (5 : Int32) d0_36 (by decide) ?_
  refine Go.getS C T5 (host := "") (Or.inl (w_14 hW)) Via.refl d0_37 ?_
  refine Go.old C (fun X5 => ?_)
  refine Go.aastore C VA (List.mem_of_getElem? (i := 0) rfl) (Ins.self (E5.ext X5)) 5 (by decide) rfl (Nat.le_of_ble_eq_true rfl) (vs' := [(.ref f0), (.ref f1), (.ref f2), (.ref f3), (.ref f4), (.ref f5)]) rfl d0_40 (fun h11 K12 VA => ?_)
  refine Go.astore C d0_41 rfl (Ls' := #[.val (.int a), .val (.int b), .val (.int c), .val (.int d), .val (.int e), .val (.ref bA), .unset, .unset, .unset, .unset, .unset, .unset, .unset, .unset, .unset, .unset, .unset, .unset, .unset, .unset, .unset, .unset, .unset, .unset]) rfl ?_
  refine Go.iloadN C d0_43 rfl ?_
  refine Go.iconst C (1 : Int32) d0_44 (by decide) ?_
  refine Go.iand C d0_45 ?_
  suffices J46 : ∀ (z6 : Int32), z6 = 0 ∨ z6 = 1 → Go k h11 [bA] 1 6 54 #[.val (.int a), .val (.int b), .val (.int c), .val (.int d), .val (.int e), .val (.ref bA), .unset, .unset, .unset, .unset, .unset, .unset, .unset, .unset, .unset, .unset, .unset, .unset, .unset, .unset, .unset, .unset, .unset, .unset] [(.int z6)] by
    refine Go.ifeq C d0_46 (fun hc46 => ?_) (fun hc46 => ?_)
    · refine Go.iconst C (0 : Int32) d0_53 (by decide) ?_
      exact Go.more (Nat.le_of_ble_eq_true rfl) (Nat.le_of_ble_eq_true rfl) (Go.less (os' := [bA]) (fun x hx => hx) (J46 (0 : Int32) (by decide)))
    · refine Go.iconst C (1 : Int32) d0_49 (by decide) ?_
      refine Go.goto C d0_50 ?_
      exact Go.more (Nat.le_of_ble_eq_true rfl) (Nat.le_of_ble_eq_true rfl) (Go.less (os' := [bA]) (fun x hx => hx) (J46 (1 : Int32) (by decide)))
  intro z6 hz6
  refine Go.istore C d0_54 (Ls' := #[.val (.int a), .val (.int b), .val (.int c), .val (.int d), .val (.int e), .val (.ref bA), .val (.int z6), .unset, .unset, .unset, .unset, .unset, .unset, .unset, .unset, .unset, .unset, .unset, .unset, .unset, .unset, .unset, .unset, .unset]) rfl ?_
  refine Go.iloadN C d0_56 rfl ?_
  refine Go.iconst C (2 : Int32) d0_57 (by decide) ?_
  refine Go.iand C d0_58 ?_
  suffices J59 : ∀ (z7 : Int32), z7 = 0 ∨ z7 = 1 → Go k h11 [bA] 1 6 67 #[.val (.int a), .val (.int b), .val (.int c), .val (.int d), .val (.int e), .val (.ref bA), .val (.int z6), .unset, .unset, .unset, .unset, .unset, .unset, .unset, .unset, .unset, .unset, .unset, .unset, .unset, .unset, .unset, .unset, .unset] [(.int z7)] by
    refine Go.ifeq C d0_59 (fun hc59 => ?_) (fun hc59 => ?_)
    · refine Go.iconst C (0 : Int32) d0_66 (by decide) ?_
      exact Go.more (Nat.le_of_ble_eq_true rfl) (Nat.le_of_ble_eq_true rfl) (Go.less (os' := [bA]) (fun x hx => hx) (J59 (0 : Int32) (by decide)))
    · refine Go.iconst C (1 : Int32) d0_62 (by decide) ?_
      refine Go.goto C d0_63 ?_
      exact Go.more (Nat.le_of_ble_eq_true rfl) (Nat.le_of_ble_eq_true rfl) (Go.less (os' := [bA]) (fun x hx => hx) (J59 (1 : Int32) (by decide)))
  intro z7 hz7
  refine Go.istore C d0_67 (Ls' := #[.val (.int a), .val (.int b), .val (.int c), .val (.int d), .val (.int e), .val (.ref bA), .val (.int z6), .val (.int z7), .unset, .unset, .unset, .unset, .unset, .unset, .unset, .unset, .unset, .unset, .unset, .unset, .unset, .unset, .unset, .unset]) rfl ?_
  refine Go.iloadN C d0_69 rfl ?_
  refine Go.iconst C (4 : Int32) d0_70 (by decide) ?_
  refine Go.iand C d0_71 ?_
  suffices J72 : ∀ (z8 : Int32), z8 = 0 ∨ z8 = 1 → Go k h11 [bA] 1 6 80 #[.val (.int a), .val (.int b), .val (.int c), .val (.int d), .val (.int e), .val (.ref bA), .val (.int z6), .val (.int z7), .unset, .unset, .unset, .unset, .unset, .unset, .unset, .unset, .unset, .unset, .unset, .unset, .unset, .unset, .unset, .unset] [(.int z8)] by
    refine Go.ifeq C d0_72 (fun hc72 => ?_) (fun hc72 => ?_)
    · refine Go.iconst C (0 : Int32) d0_79 (by decide) ?_
      exact Go.more (Nat.le_of_ble_eq_true rfl) (Nat.le_of_ble_eq_true rfl) (Go.less (os' := [bA]) (fun x hx => hx) (J72 (0 : Int32) (by decide)))
    · refine Go.iconst C (1 : Int32) d0_75 (by decide) ?_
      refine Go.goto C d0_76 ?_
      exact Go.more (Nat.le_of_ble_eq_true rfl) (Nat.le_of_ble_eq_true rfl) (Go.less (os' := [bA]) (fun x hx => hx) (J72 (1 : Int32) (by decide)))
  intro z8 hz8
  refine Go.istore C d0_80 (Ls' := #[.val (.int a), .val (.int b), .val (.int c), .val (.int d), .val (.int e), .val (.ref bA), .val (.int z6), .val (.int z7), .val (.int z8), .unset, .unset, .unset, .unset, .unset, .unset, .unset, .unset, .unset, .unset, .unset, .unset, .unset, .unset, .unset]) rfl ?_
  refine Go.iloadN C d0_82 rfl ?_
  refine Go.bipush C (8 : Int32) d0_83 (by decide) ?_
  refine Go.iand C d0_85 ?_
  suffices J86 : ∀ (z9 : Int32), z9 = 0 ∨ z9 = 1 → Go k h11 [bA] 1 6 94 #[.val (.int a), .val (.int b), .val (.int c), .val (.int d), .val (.int e), .val (.ref bA), .val (.int z6), .val (.int z7), .val (.int z8), .unset, .unset, .unset, .unset, .unset, .unset, .unset, .unset, .unset, .unset, .unset, .unset, .unset, .unset, .unset] [(.int z9)] by
    refine Go.ifeq C d0_86 (fun hc86 => ?_) (fun hc86 => ?_)
    · refine Go.iconst C (0 : Int32) d0_93 (by decide) ?_
      exact Go.more (Nat.le_of_ble_eq_true rfl) (Nat.le_of_ble_eq_true rfl) (Go.less (os' := [bA]) (fun x hx => hx) (J86 (0 : Int32) (by decide)))
    · refine Go.iconst C (1 : Int32) d0_89 (by decide) ?_
      refine Go.goto C d0_90 ?_
      exact Go.more (Nat.le_of_ble_eq_true rfl) (Nat.le_of_ble_eq_true rfl) (Go.less (os' := [bA]) (fun x hx => hx) (J86 (1 : Int32) (by decide)))
  intro z9 hz9
  refine Go.istore C d0_94 (Ls' := #[.val (.int a), .val (.int b), .val (.int c), .val (.int d), .val (.int e), .val (.ref bA), .val (.int z6), .val (.int z7), .val (.int z8), .val (.int z9), .unset, .unset, .unset, .unset, .unset, .unset, .unset, .unset, .unset, .unset, .unset, .unset, .unset, .unset]) rfl ?_
  refine Go.iloadN C d0_96 rfl ?_
  refine Go.bipush C (16 : Int32) d0_97 (by decide) ?_
  refine Go.iand C d0_99 ?_
  suffices J100 : ∀ (z10 : Int32), z10 = 0 ∨ z10 = 1 → Go k h11 [bA] 1 6 108 #[.val (.int a), .val (.int b), .val (.int c), .val (.int d), .val (.int e), .val (.ref bA), .val (.int z6), .val (.int z7), .val (.int z8), .val (.int z9), .unset, .unset, .unset, .unset, .unset, .unset, .unset, .unset, .unset, .unset, .unset, .unset, .unset, .unset] [(.int z10)] by
    refine Go.ifeq C d0_100 (fun hc100 => ?_) (fun hc100 => ?_)
    · refine Go.iconst C (0 : Int32) d0_107 (by decide) ?_
      exact Go.more (Nat.le_of_ble_eq_true rfl) (Nat.le_of_ble_eq_true rfl) (Go.less (os' := [bA]) (fun x hx => hx) (J100 (0 : Int32) (by decide)))
    · refine Go.iconst C (1 : Int32) d0_103 (by decide) ?_
      refine Go.goto C d0_104 ?_
      exact Go.more (Nat.le_of_ble_eq_true rfl) (Nat.le_of_ble_eq_true rfl) (Go.less (os' := [bA]) (fun x hx => hx) (J100 (1 : Int32) (by decide)))
  intro z10 hz10
  refine Go.istore C d0_108 (Ls' := #[.val (.int a), .val (.int b), .val (.int c), .val (.int d), .val (.int e), .val (.ref bA), .val (.int z6), .val (.int z7), .val (.int z8), .val (.int z9), .val (.int z10), .unset, .unset, .unset, .unset, .unset, .unset, .unset, .unset, .unset, .unset, .unset, .unset, .unset]) rfl ?_
  refine Go.iloadN C d0_110 rfl ?_
  refine Go.bipush C (32 : Int32) d0_111 (by decide) ?_
  refine Go.iand C d0_113 ?_
  suffices J114 : ∀ (z11 : Int32), z11 = 0 ∨ z11 = 1 → Go k h11 [bA] 1 6 122 #[.val (.int a), .val (.int b), .val (.int c), .val (.int d), .val (.int e), .val (.ref bA), .val (.int z6), .val (.int z7), .val (.int z8), .val (.int z9), .val (.int z10), .unset, .unset, .unset, .unset, .unset, .unset, .unset, .unset, .unset, .unset, .unset, .unset, .unset] [(.int z11)] by
    refine Go.ifeq C d0_114 (fun hc114 => ?_) (fun hc114 => ?_)
    · refine Go.iconst C (0 : Int32) d0_121 (by decide) ?_
      exact Go.more (Nat.le_of_ble_eq_true rfl) (Nat.le_of_ble_eq_true rfl) (Go.less (os' := [bA]) (fun x hx => hx) (J114 (0 : Int32) (by decide)))
    · refine Go.iconst C (1 : Int32) d0_117 (by decide) ?_
      refine Go.goto C d0_118 ?_
      exact Go.more (Nat.le_of_ble_eq_true rfl) (Nat.le_of_ble_eq_true rfl) (Go.less (os' := [bA]) (fun x hx => hx) (J114 (1 : Int32) (by decide)))
  intro z11 hz11
  refine Go.istore C d0_122 (Ls' := #[.val (.int a), .val (.int b), .val (.int c), .val (.int d), .val (.int e), .val (.ref bA), .val (.int z6), .val (.int z7), .val (.int z8), .val (.int z9), .val (.int z10), .val (.int z11), .unset, .unset, .unset, .unset, .unset, .unset, .unset, .unset, .unset, .unset, .unset, .unset]) rfl ?_
  refine Go.iloadN C d0_124 rfl ?_
  refine Go.bipush C (64 : Int32) d0_125 (by decide) ?_
  refine Go.iand C d0_127 ?_
  suffices J128 : ∀ (z12 : Int32), z12 = 0 ∨ z12 = 1 → Go k h11 [bA] 1 6 136 #[.val (.int a), .val (.int b), .val (.int c), .val (.int d), .val (.int e), .val (.ref bA), .val (.int z6), .val (.int z7), .val (.int z8), .val (.int z9), .val (.int z10), .val (.int z11), .unset, .unset, .unset, .unset, .unset, .unset, .unset, .unset, .unset, .unset, .unset, .unset] [(.int z12)] by
    refine Go.ifeq C d0_128 (fun hc128 => ?_) (fun hc128 => ?_)
    · refine Go.iconst C (0 : Int32) d0_135 (by decide) ?_
      exact Go.more (Nat.le_of_ble_eq_true rfl) (Nat.le_of_ble_eq_true rfl) (Go.less (os' := [bA]) (fun x hx => hx) (J128 (0 : Int32) (by decide)))
    · refine Go.iconst C (1 : Int32) d0_131 (by decide) ?_
      refine Go.goto C d0_132 ?_
      exact Go.more (Nat.le_of_ble_eq_true rfl) (Nat.le_of_ble_eq_true rfl) (Go.less (os' := [bA]) (fun x hx => hx) (J128 (1 : Int32) (by decide)))
  intro z12 hz12
  refine Go.istore C d0_136 (Ls' := #[.val (.int a), .val (.int b), .val (.int c), .val (.int d), .val (.int e), .val (.ref bA), .val (.int z6), .val (.int z7), .val (.int z8), .val (.int z9), .val (.int z10), .val (.int z11), .val (.int z12), .unset, .unset, .unset, .unset, .unset, .unset, .unset, .unset, .unset, .unset, .unset]) rfl ?_
  refine Go.iloadN C d0_138 rfl ?_
  refine Go.bipush C (7 : Int32) d0_139 (by decide) ?_
  refine Go.iushr C d0_141 ?_
  refine Go.bipush C (7 : Int32) d0_142 (by decide) ?_
  refine Go.iand C d0_144 ?_
  refine Go.bipush C (6 : Int32) d0_145 (by decide) ?_
  refine Go.irem C d0_147 (by decide) ?_
  generalize e_fi : ((((a.toUInt32 >>> ((7 : Int32) &&& 31).toUInt32).toInt32) &&& (7 : Int32)) % (6 : Int32)) = fi
  have h_fi := own_fi e_fi
  refine Go.istore C d0_148 (Ls' := #[.val (.int a), .val (.int b), .val (.int c), .val (.int d), .val (.int e), .val (.ref bA), .val (.int z6), .val (.int z7), .val (.int z8), .val (.int z9), .val (.int z10), .val (.int z11), .val (.int z12), .val (.int fi), .unset, .unset, .unset, .unset, .unset, .unset, .unset, .unset, .unset, .unset]) rfl ?_
  refine Go.iloadN C d0_150 rfl ?_
  refine Go.bipush C (10 : Int32) d0_151 (by decide) ?_
  refine Go.iushr C d0_153 ?_
  refine Go.iconst C (3 : Int32) d0_154 (by decide) ?_
  refine Go.iand C d0_155 ?_
  generalize (((a.toUInt32 >>> ((10 : Int32) &&& 31).toUInt32).toInt32) &&& (3 : Int32)) = g0
  refine Go.istore C d0_156 (Ls' := #[.val (.int a), .val (.int b), .val (.int c), .val (.int d), .val (.int e), .val (.ref bA), .val (.int z6), .val (.int z7), .val (.int z8), .val (.int z9), .val (.int z10), .val (.int z11), .val (.int z12), .val (.int fi), .val (.int g0), .unset, .unset, .unset, .unset, .unset, .unset, .unset, .unset, .unset]) rfl ?_
  refine Go.iload C d0_158 rfl ?_
  refine Go.iconst C (2 : Int32) d0_160 (by decide) ?_
  suffices J161 : ∀ gl : Int32, Go k h11 [bA] 1 6 167 #[.val (.int a), .val (.int b), .val (.int c), .val (.int d), .val (.int e), .val (.ref bA), .val (.int z6), .val (.int z7), .val (.int z8), .val (.int z9), .val (.int z10), .val (.int z11), .val (.int z12), .val (.int fi), .val (.int gl), .unset, .unset, .unset, .unset, .unset, .unset, .unset, .unset, .unset] [] by
    refine Go.icmple C d0_161 (fun _ => ?_) (fun _ => ?_)
    · exact J161 _
    · refine Go.iconst C (2 : Int32) d0_164 (by decide) ?_
      refine Go.istore C d0_165 (Ls' := #[.val (.int a), .val (.int b), .val (.int c), .val (.int d), .val (.int e), .val (.ref bA), .val (.int z6), .val (.int z7), .val (.int z8), .val (.int z9), .val (.int z10), .val (.int z11), .val (.int z12), .val (.int fi), .val (.int (2 : Int32)), .unset, .unset, .unset, .unset, .unset, .unset, .unset, .unset, .unset]) rfl ?_
      exact J161 _
  intro gl
  refine Go.iloadN C d0_167 rfl ?_
  refine Go.bipush C (12 : Int32) d0_168 (by decide) ?_
  refine Go.iushr C d0_170 ?_
  refine Go.iconst C (3 : Int32) d0_171 (by decide) ?_
  refine Go.iand C d0_172 ?_
  generalize (((a.toUInt32 >>> ((12 : Int32) &&& 31).toUInt32).toInt32) &&& (3 : Int32)) = r0
  refine Go.istore C d0_173 (Ls' := #[.val (.int a), .val (.int b), .val (.int c), .val (.int d), .val (.int e), .val (.ref bA), .val (.int z6), .val (.int z7), .val (.int z8), .val (.int z9), .val (.int z10), .val (.int z11), .val (.int z12), .val (.int fi), .val (.int gl), .val (.int r0), .unset, .unset, .unset, .unset, .unset, .unset, .unset, .unset]) rfl ?_
  refine Go.iload C d0_175 rfl ?_
  refine Go.iconst C (2 : Int32) d0_177 (by decide) ?_
  suffices J178 : ∀ rl : Int32, Go k h11 [bA] 1 6 184 #[.val (.int a), .val (.int b), .val (.int c), .val (.int d), .val (.int e), .val (.ref bA), .val (.int z6), .val (.int z7), .val (.int z8), .val (.int z9), .val (.int z10), .val (.int z11), .val (.int z12), .val (.int fi), .val (.int gl), .val (.int rl), .unset, .unset, .unset, .unset, .unset, .unset, .unset, .unset] [] by
    refine Go.icmple C d0_178 (fun _ => ?_) (fun _ => ?_)
    · exact J178 _
    · refine Go.iconst C (2 : Int32) d0_181 (by decide) ?_
      refine Go.istore C d0_182 (Ls' := #[.val (.int a), .val (.int b), .val (.int c), .val (.int d), .val (.int e), .val (.ref bA), .val (.int z6), .val (.int z7), .val (.int z8), .val (.int z9), .val (.int z10), .val (.int z11), .val (.int z12), .val (.int fi), .val (.int gl), .val (.int (2 : Int32)), .unset, .unset, .unset, .unset, .unset, .unset, .unset, .unset]) rfl ?_
      exact J178 _
  intro rl
  refine Go.iload C d0_184 rfl ?_
  suffices J186 : ∀ (h27 : Heap) (pg : Value), Keep h11 h27 [] → pg.isRef = true → Go k h27 [bA] 4 18 199 #[.val (.int a), .val (.int b), .val (.int c), .val (.int d), .val (.int e), .val (.ref bA), .val (.int z6), .val (.int z7), .val (.int z8), .val (.int z9), .val (.int z10), .val (.int z11), .val (.int z12), .val (.int fi), .val (.int gl), .val (.int rl), .unset, .unset, .unset, .unset, .unset, .unset, .unset, .unset] [pg] by
    refine Go.ifeq C d0_186 (fun hc186 => ?_) (fun hc186 => ?_)
    · refine Go.iloadN C d0_193 rfl ?_
      refine Go.iload C d0_194 rfl ?_
      refine Go.callS C (z := y_9) (argsL := [(.int b), (.int gl)]) (rm1 hW h11 (b) (gl)) (w_16 hW) (w_17 hW) (w_18 hW) (w_19 hW) d0_196 pd_10 rfl (by decide) rfl (st := []) rfl (by decide) (Nat.le_of_ble_eq_true rfl) (by decide) (by decide) ((fun _ hx => nomatch hx)) (fun v20 h21 os22 q23 K24 ho25 => ?_)
      obtain ⟨r26, rfl, rfl⟩ := q23
      replace VA := VA.k0 K24
      show Go k h21 _ _ _ 199 #[.val (.int a), .val (.int b), .val (.int c), .val (.int d), .val (.int e), .val (.ref bA), .val (.int z6), .val (.int z7), .val (.int z8), .val (.int z9), .val (.int z10), .val (.int z11), .val (.int z12), .val (.int fi), .val (.int gl), .val (.int rl), .unset, .unset, .unset, .unset, .unset, .unset, .unset, .unset] [(.ref r26)]
      exact Go.more (Nat.le_of_ble_eq_true rfl) (Nat.le_of_ble_eq_true rfl) (Go.less (os' := [bA]) (fun x hx => hx) (J186 _ (.ref r26) K24 rfl))
    · refine Go.aconstNull C d0_189 ?_
      refine Go.goto C d0_190 ?_
      exact Go.more (Nat.le_of_ble_eq_true rfl) (Nat.le_of_ble_eq_true rfl) (Go.less (os' := [bA]) (fun x hx => hx) (J186 _ .null (Keep.refl _ _) rfl))
  intro h27 pg K28 hpg
  replace VA := VA.k0 K28
  refine Go.astore C d0_199 hpg (Ls' := #[.val (.int a), .val (.int b), .val (.int c), .val (.int d), .val (.int e), .val (.ref bA), .val (.int z6), .val (.int z7), .val (.int z8), .val (.int z9), .val (.int z10), .val (.int z11), .val (.int z12), .val (.int fi), .val (.int gl), .val (.int rl), .val pg, .unset, .unset, .unset, .unset, .unset, .unset, .unset]) (sto1 rfl Sl.u (cat_ref hpg) rfl) ?_
  refine Go.iload C d0_201 rfl ?_
  suffices J203 : ∀ (h36 : Heap) (pr : Value), Keep h27 h36 [] → pr.isRef = true → Go k h36 [bA] 7 30 216 #[.val (.int a), .val (.int b), .val (.int c), .val (.int d), .val (.int e), .val (.ref bA), .val (.int z6), .val (.int z7), .val (.int z8), .val (.int z9), .val (.int z10), .val (.int z11), .val (.int z12), .val (.int fi), .val (.int gl), .val (.int rl), .val pg, .unset, .unset, .unset, .unset, .unset, .unset, .unset] [pr] by
    refine Go.ifeq C d0_203 (fun hc203 => ?_) (fun hc203 => ?_)
    · refine Go.iloadN C d0_210 rfl ?_
      refine Go.iload C d0_211 rfl ?_
      refine Go.callS C (z := y_9) (argsL := [(.int c), (.int rl)]) (rm1 hW h27 (c) (rl)) (w_16 hW) (w_17 hW) (w_18 hW) (w_19 hW) d0_213 pd_10 rfl (by decide) rfl (st := []) rfl (by decide) (Nat.le_of_ble_eq_true rfl) (by decide) (by decide) ((fun _ hx => nomatch hx)) (fun v29 h30 os31 q32 K33 ho34 => ?_)
      obtain ⟨r35, rfl, rfl⟩ := q32
      replace VA := VA.k0 K33
      show Go k h30 _ _ _ 216 #[.val (.int a), .val (.int b), .val (.int c), .val (.int d), .val (.int e), .val (.ref bA), .val (.int z6), .val (.int z7), .val (.int z8), .val (.int z9), .val (.int z10), .val (.int z11), .val (.int z12), .val (.int fi), .val (.int gl), .val (.int rl), .val pg, .unset, .unset, .unset, .unset, .unset, .unset, .unset] [(.ref r35)]
      exact Go.more (Nat.le_of_ble_eq_true rfl) (Nat.le_of_ble_eq_true rfl) (Go.less (os' := [bA]) (fun x hx => hx) (J203 _ (.ref r35) K33 rfl))
    · refine Go.aconstNull C d0_206 ?_
      refine Go.goto C d0_207 ?_
      exact Go.more (Nat.le_of_ble_eq_true rfl) (Nat.le_of_ble_eq_true rfl) (Go.less (os' := [bA]) (fun x hx => hx) (J203 _ .null (Keep.refl _ _) rfl))
  intro h36 pr K37 hpr
  replace VA := VA.k0 K37
  refine Go.astore C d0_216 hpr (Ls' := #[.val (.int a), .val (.int b), .val (.int c), .val (.int d), .val (.int e), .val (.ref bA), .val (.int z6), .val (.int z7), .val (.int z8), .val (.int z9), .val (.int z10), .val (.int z11), .val (.int z12), .val (.int fi), .val (.int gl), .val (.int rl), .val pg, .val pr, .unset, .unset, .unset, .unset, .unset, .unset]) (sto1 rfl Sl.u (cat_ref hpr) rfl) ?_
  refine Go.iload C d0_218 rfl ?_
  suffices J220 : ∀ wf : Int32, wf = 0 ∨ wf = 1 → Go k h36 [bA] 7 30 233 #[.val (.int a), .val (.int b), .val (.int c), .val (.int d), .val (.int e), .val (.ref bA), .val (.int z6), .val (.int z7), .val (.int z8), .val (.int z9), .val (.int z10), .val (.int z11), .val (.int z12), .val (.int fi), .val (.int gl), .val (.int rl), .val pg, .val pr, .unset, .unset, .unset, .unset, .unset, .unset] [(.int wf)] by
    refine Go.ifeq C d0_220 (fun hc220 => ?_) (fun hc220 => ?_)
    · refine Go.iconst C (0 : Int32) d0_232 (by decide) ?_
      exact J220 _ (by decide)
    · refine Go.aload C d0_223 rfl hpr ?_
      rcases ref_cases hpr with rfl | ⟨ar, rfl⟩
      · refine Go.ifnullY C d0_225 ?_
        refine Go.iconst C (0 : Int32) d0_232 (by decide) ?_
        exact J220 _ (by decide)
      · refine Go.ifnullN C d0_225 ?_
        refine Go.iconst C (1 : Int32) d0_228 (by decide) ?_
        refine Go.goto C d0_229 ?_
        exact J220 _ (by decide)
  intro wf hwf
  refine Go.istore C d0_233 (Ls' := #[.val (.int a), .val (.int b), .val (.int c), .val (.int d), .val (.int e), .val (.ref bA), .val (.int z6), .val (.int z7), .val (.int z8), .val (.int z9), .val (.int z10), .val (.int z11), .val (.int z12), .val (.int fi), .val (.int gl), .val (.int rl), .val pg, .val pr, .val (.int wf), .unset, .unset, .unset, .unset, .unset]) rfl ?_
  refine Go.iload C d0_235 rfl ?_
  suffices J237 : ∀ (h45 : Heap) (gu : Value), Keep h36 h45 [] → gu.isRef = true → Go k h45 [bA] 10 42 252 #[.val (.int a), .val (.int b), .val (.int c), .val (.int d), .val (.int e), .val (.ref bA), .val (.int z6), .val (.int z7), .val (.int z8), .val (.int z9), .val (.int z10), .val (.int z11), .val (.int z12), .val (.int fi), .val (.int gl), .val (.int rl), .val pg, .val pr, .val (.int wf), .unset, .unset, .unset, .unset, .unset] [gu] by
    refine Go.ifeq C d0_237 (fun hc237 => ?_) (fun hc237 => ?_)
    · refine Go.iloadN C d0_244 rfl ?_
      refine Go.bipush C (16 : Int32) d0_245 (by decide) ?_
      refine Go.iushr C d0_247 ?_
      refine Go.iconst C (2 : Int32) d0_248 (by decide) ?_
      refine Go.callS C (z := y_9) (argsL := [(.int ((b.toUInt32 >>> ((16 : Int32) &&& 31).toUInt32).toInt32)), (.int (2 : Int32))]) (rm1 hW h36 (((b.toUInt32 >>> ((16 : Int32) &&& 31).toUInt32).toInt32)) ((2 : Int32))) (w_16 hW) (w_17 hW) (w_18 hW) (w_19 hW) d0_249 pd_10 rfl (by decide) rfl (st := []) rfl (by decide) (Nat.le_of_ble_eq_true rfl) (by decide) (by decide) ((fun _ hx => nomatch hx)) (fun v38 h39 os40 q41 K42 ho43 => ?_)
      obtain ⟨r44, rfl, rfl⟩ := q41
      replace VA := VA.k0 K42
      show Go k h39 _ _ _ 252 #[.val (.int a), .val (.int b), .val (.int c), .val (.int d), .val (.int e), .val (.ref bA), .val (.int z6), .val (.int z7), .val (.int z8), .val (.int z9), .val (.int z10), .val (.int z11), .val (.int z12), .val (.int fi), .val (.int gl), .val (.int rl), .val pg, .val pr, .val (.int wf), .unset, .unset, .unset, .unset, .unset] [(.ref r44)]
      exact Go.more (Nat.le_of_ble_eq_true rfl) (Nat.le_of_ble_eq_true rfl) (Go.less (os' := [bA]) (fun x hx => hx) (J237 _ (.ref r44) K42 rfl))
    · refine Go.aconstNull C d0_240 ?_
      refine Go.goto C d0_241 ?_
      exact Go.more (Nat.le_of_ble_eq_true rfl) (Nat.le_of_ble_eq_true rfl) (Go.less (os' := [bA]) (fun x hx => hx) (J237 _ .null (Keep.refl _ _) rfl))
  intro h45 gu K46 hgu
  replace VA := VA.k0 K46
  refine Go.astore C d0_252 hgu (Ls' := #[.val (.int a), .val (.int b), .val (.int c), .val (.int d), .val (.int e), .val (.ref bA), .val (.int z6), .val (.int z7), .val (.int z8), .val (.int z9), .val (.int z10), .val (.int z11), .val (.int z12), .val (.int fi), .val (.int gl), .val (.int rl), .val pg, .val pr, .val (.int wf), .val gu, .unset, .unset, .unset, .unset]) (sto1 rfl Sl.u (cat_ref hgu) rfl) ?_
  refine Go.iload C d0_254 rfl ?_
  suffices J256 : ∀ (h54 : Heap) (nu : Value), Keep h45 h54 [] → nu.isRef = true → Go k h54 [bA] 13 54 271 #[.val (.int a), .val (.int b), .val (.int c), .val (.int d), .val (.int e), .val (.ref bA), .val (.int z6), .val (.int z7), .val (.int z8), .val (.int z9), .val (.int z10), .val (.int z11), .val (.int z12), .val (.int fi), .val (.int gl), .val (.int rl), .val pg, .val pr, .val (.int wf), .val gu, .unset, .unset, .unset, .unset] [nu] by
    refine Go.ifeq C d0_256 (fun hc256 => ?_) (fun hc256 => ?_)
    · refine Go.iloadN C d0_263 rfl ?_
      refine Go.bipush C (16 : Int32) d0_264 (by decide) ?_
      refine Go.iushr C d0_266 ?_
      refine Go.iconst C (1 : Int32) d0_267 (by decide) ?_
      refine Go.callS C (z := y_9) (argsL := [(.int ((c.toUInt32 >>> ((16 : Int32) &&& 31).toUInt32).toInt32)), (.int (1 : Int32))]) (rm1 hW h45 (((c.toUInt32 >>> ((16 : Int32) &&& 31).toUInt32).toInt32)) ((1 : Int32))) (w_16 hW) (w_17 hW) (w_18 hW) (w_19 hW) d0_268 pd_10 rfl (by decide) rfl (st := []) rfl (by decide) (Nat.le_of_ble_eq_true rfl) (by decide) (by decide) ((fun _ hx => nomatch hx)) (fun v47 h48 os49 q50 K51 ho52 => ?_)
      obtain ⟨r53, rfl, rfl⟩ := q50
      replace VA := VA.k0 K51
      show Go k h48 _ _ _ 271 #[.val (.int a), .val (.int b), .val (.int c), .val (.int d), .val (.int e), .val (.ref bA), .val (.int z6), .val (.int z7), .val (.int z8), .val (.int z9), .val (.int z10), .val (.int z11), .val (.int z12), .val (.int fi), .val (.int gl), .val (.int rl), .val pg, .val pr, .val (.int wf), .val gu, .unset, .unset, .unset, .unset] [(.ref r53)]
      exact Go.more (Nat.le_of_ble_eq_true rfl) (Nat.le_of_ble_eq_true rfl) (Go.less (os' := [bA]) (fun x hx => hx) (J256 _ (.ref r53) K51 rfl))
    · refine Go.aconstNull C d0_259 ?_
      refine Go.goto C d0_260 ?_
      exact Go.more (Nat.le_of_ble_eq_true rfl) (Nat.le_of_ble_eq_true rfl) (Go.less (os' := [bA]) (fun x hx => hx) (J256 _ .null (Keep.refl _ _) rfl))
  intro h54 nu K55 hnu
  replace VA := VA.k0 K55
  refine Go.astore C d0_271 hnu (Ls' := #[.val (.int a), .val (.int b), .val (.int c), .val (.int d), .val (.int e), .val (.ref bA), .val (.int z6), .val (.int z7), .val (.int z8), .val (.int z9), .val (.int z10), .val (.int z11), .val (.int z12), .val (.int fi), .val (.int gl), .val (.int rl), .val pg, .val pr, .val (.int wf), .val gu, .val nu, .unset, .unset, .unset]) (sto1 rfl Sl.u (cat_ref hnu) rfl) ?_
  refine Go.iload C d0_273 rfl ?_
  suffices J275 : ∀ (h63 : Heap) (rk : Value), Keep h54 h63 [] → rk.isRef = true → Go k h63 [bA] 14 55 289 #[.val (.int a), .val (.int b), .val (.int c), .val (.int d), .val (.int e), .val (.ref bA), .val (.int z6), .val (.int z7), .val (.int z8), .val (.int z9), .val (.int z10), .val (.int z11), .val (.int z12), .val (.int fi), .val (.int gl), .val (.int rl), .val pg, .val pr, .val (.int wf), .val gu, .val nu, .unset, .unset, .unset] [rk] by
    refine Go.ifeq C d0_275 (fun hc275 => ?_) (fun hc275 => ?_)
    · refine Go.iconst C (1 : Int32) d0_282 (by decide) ?_
      refine Go.newarray C (aty := .int) (w_67 hW) d0_283 (by decide) 1 rfl (cap := 1) (by decide) (by decide) (by decide) (by decide) (fun b56 h57 e58 K59 A60 => ?_)
      have A60 : Av Z h57 b56 .int [(.int (0 : Int32))] := A60
      have n_bA_b56 : bA ≠ b56 := ne_lt VA.lt (ge_of e58)
      replace VA := VA.k0 K59
      refine Go.dup C d0_285 rfl ?_
      refine Go.iconst C (0 : Int32) d0_286 (by decide) ?_
      refine Go.iloadN C d0_287 rfl ?_
      refine Go.iastore C A60 (List.mem_of_getElem? (i := 0) rfl) 0 (by decide) rfl (Nat.le_of_ble_eq_true rfl) (vs' := [(.int d)]) rfl d0_288 (fun h61 K62 A60 => ?_)
      replace VA := VA.keep K62 (ninS n_bA_b56 nin0)
      exact Go.more (Nat.le_of_ble_eq_true rfl) (Nat.le_of_ble_eq_true rfl) (Go.less (os' := [bA]) (fun x hx => List.mem_cons_of_mem _ (hx)) (J275 _ (.ref b56) (K59.trans K62 (allS (Or.inr (ge_of e58)) (all0))) rfl))
    · refine Go.aconstNull C d0_278 ?_
      refine Go.goto C d0_279 ?_
      exact Go.more (Nat.le_of_ble_eq_true rfl) (Nat.le_of_ble_eq_true rfl) (Go.less (os' := [bA]) (fun x hx => hx) (J275 _ .null (Keep.refl _ _) rfl))
  intro h63 rk K64 hrk
  replace VA := VA.k0 K64
  refine Go.astore C d0_289 hrk (Ls' := #[.val (.int a), .val (.int b), .val (.int c), .val (.int d), .val (.int e), .val (.ref bA), .val (.int z6), .val (.int z7), .val (.int z8), .val (.int z9), .val (.int z10), .val (.int z11), .val (.int z12), .val (.int fi), .val (.int gl), .val (.int rl), .val pg, .val pr, .val (.int wf), .val gu, .val nu, .val rk, .unset, .unset]) (sto1 rfl Sl.u (cat_ref hrk) rfl) ?_
  refine Go.new C (w_68 hW) (w_69 hW) (w_70 hW) (fl_1 hW) dv_1 d0_291 (by decide) (by decide) (fun b65 h66 e67 K68 O69 => ?_)
  have n_bA_b65 : bA ≠ b65 := ne_lt VA.lt (ge_of e67)
  replace VA := VA.k0 K68
  refine Go.dup C d0_294 rfl ?_
  refine Go.aload C d0_295 rfl rfl ?_
  refine Go.iload C d0_297 rfl ?_
  obtain ⟨bf, hbf, hbr⟩ : ∃ v : Value, ([(.ref f0), (.ref f1), (.ref f2), (.ref f3), (.ref f4), (.ref f5)] : List Value)[fi.toNatClampNeg]? = some v ∧ v.isRef = true := own_pick6 h_fi rfl rfl rfl rfl rfl rfl
  refine Go.aaload C rfl VA.av _ (own_fi_nn h_fi) rfl hbf d0_299 ?_
  refine Go.iloadN C d0_300 rfl ?_
  refine Go.aload C d0_301 rfl hgu ?_
  refine Go.aload C d0_303 rfl hpg ?_
  refine Go.aload C d0_305 rfl hpr ?_
  refine Go.iload C d0_307 rfl ?_
  refine Go.aload C d0_309 rfl hnu ?_
  refine Go.iload C d0_311 rfl ?_
  refine Go.iload C d0_313 rfl ?_
  refine Go.aload C d0_315 rfl hrk ?_
  refine Go.callI C (z := y_11) (a := b65) (argsL := [bf, (.int d), gu, pg, pr, (.int wf), nu, (.int z8), (.int e), rk]) (rm12 hW h66 (b65) (bf) (d) (gu) (pg) (pr) (wf) (nu) (z8) (e) (rk) O69 hbr hgu hpg hpr hnu hrk hwf hz8) rfl (w_71 hW) (w_72 hW) (w_70 hW) (w_73 hW) d0_317 pd_11 rfl (by decide) rfl (st := [(.ref b65)]) rfl (by decide) (Nat.le_of_ble_eq_true rfl) (by decide) (by decide) (List.forall_mem_cons.mpr ⟨(List.mem_of_getElem? (i := 0) rfl), (fun _ hx => nomatch hx)⟩) (fun v70 h71 os72 q73 K74 ho75 => ?_)
  obtain ⟨rfl, rfl, F76⟩ := q73
  replace VA := VA.keep K74 (ninS n_bA_b65 nin0)
  show Go k h71 _ _ _ 320 #[.val (.int a), .val (.int b), .val (.int c), .val (.int d), .val (.int e), .val (.ref bA), .val (.int z6), .val (.int z7), .val (.int z8), .val (.int z9), .val (.int z10), .val (.int z11), .val (.int z12), .val (.int fi), .val (.int gl), .val (.int rl), .val pg, .val pr, .val (.int wf), .val gu, .val nu, .val rk, .unset, .unset] [(.ref b65)]
  refine Go.astore C d0_320 rfl (Ls' := #[.val (.int a), .val (.int b), .val (.int c), .val (.int d), .val (.int e), .val (.ref bA), .val (.int z6), .val (.int z7), .val (.int z8), .val (.int z9), .val (.int z10), .val (.int z11), .val (.int z12), .val (.int fi), .val (.int gl), .val (.int rl), .val pg, .val pr, .val (.int wf), .val gu, .val nu, .val rk, .val (.ref b65), .unset]) rfl ?_
  refine Go.aload C d0_322 rfl hpg ?_
  rcases ref_cases hpg with rfl | ⟨ap, rfl⟩
  · refine Go.ifnullY C d0_324 ?_
    refine Go.iload C d0_333 rfl ?_
    rcases hwf with rfl | rfl
    · refine Go.ifne C d0_335 (fun hc => absurd hc (by decide)) (fun _ => ?_)
      refine Go.iconst C (0 : Int32) d0_338 (by decide) ?_
      refine Go.istore C d0_339 (Ls' := #[.val (.int a), .val (.int b), .val (.int c), .val (.int d), .val (.int e), .val (.ref bA), .val (.int z6), .val (.int z7), .val (.int z8), .val (.int z9), .val (.int z10), .val (.int z11), .val (.int z12), .val (.int fi), .val (.int gl), .val (.int rl), .val .null, .val pr, .val (.int (0 : Int32)), .val gu, .val nu, .val rk, .val (.ref b65), .val (.int (0 : Int32))]) rfl ?_
      refine Go.goto C d0_341 ?_
      refine Go.aload C d0_347 rfl rfl ?_
      refine Go.callV C (z := y_12) (zr := y_12) (a := b65) (argsL := []) (rm_np0 hW h71 (b65) (bf) (d) (gu) (pr) (nu) (z8) (e) (rk) F76) F76.1 (w_100 hW) (w_101 hW) (fun hz => notFace_of_selects (args := #[]) (mvT hz (w_103 hW))) (w_103 hW) (w_102 hW) (w_70 hW) (w_104 hW) d0_349 pd_12 rfl (by decide) rfl (st := []) rfl (by decide) (Nat.le_of_ble_eq_true rfl) (by decide) (by decide) ((fun _ hx => nomatch hx)) (fun v83 h84 os85 q86 K87 ho88 => ?_)
      obtain ⟨rfl, rfl, rfl⟩ := q86
      clear K87 ho88
      show Go k h71 _ _ _ 352 #[.val (.int a), .val (.int b), .val (.int c), .val (.int d), .val (.int e), .val (.ref bA), .val (.int z6), .val (.int z7), .val (.int z8), .val (.int z9), .val (.int z10), .val (.int z11), .val (.int z12), .val (.int fi), .val (.int gl), .val (.int rl), .val .null, .val pr, .val (.int (0 : Int32)), .val gu, .val nu, .val rk, .val (.ref b65), .val (.int (0 : Int32))] [(.int (0 : Int32))]
      refine Go.iload C d0_352 rfl ?_
      refine Go.icmpne C d0_354 (fun hc => absurd hc (by decide)) (fun _ => ?_)
      refine Go.iconst C (1 : Int32) d0_357 (by decide) ?_
      refine Go.goto C d0_358 ?_
      refine Go.ireturn C d0_362 (Nat.le_of_ble_eq_true rfl) (Nat.le_of_ble_eq_true rfl) (by simp) rfl [] (fun _ hx => nomatch hx) ?_
      exact ⟨rfl, rfl⟩
    · refine Go.ifne C d0_335 (fun _ => ?_) (fun hc => absurd hc (by decide)) 
      refine Go.iconst C (1 : Int32) d0_344 (by decide) ?_
      refine Go.istore C d0_345 (Ls' := #[.val (.int a), .val (.int b), .val (.int c), .val (.int d), .val (.int e), .val (.ref bA), .val (.int z6), .val (.int z7), .val (.int z8), .val (.int z9), .val (.int z10), .val (.int z11), .val (.int z12), .val (.int fi), .val (.int gl), .val (.int rl), .val .null, .val pr, .val (.int (1 : Int32)), .val gu, .val nu, .val rk, .val (.ref b65), .val (.int (1 : Int32))]) rfl ?_
      refine Go.aload C d0_347 rfl rfl ?_
      refine Go.callV C (z := y_12) (zr := y_12) (a := b65) (argsL := []) (rm_np1 hW h71 (b65) (bf) (d) (gu) (pr) (nu) (z8) (e) (rk) F76) F76.1 (w_100 hW) (w_101 hW) (fun hz => notFace_of_selects (args := #[]) (mvT hz (w_103 hW))) (w_103 hW) (w_102 hW) (w_70 hW) (w_104 hW) d0_349 pd_12 rfl (by decide) rfl (st := []) rfl (by decide) (Nat.le_of_ble_eq_true rfl) (by decide) (by decide) ((fun _ hx => nomatch hx)) (fun v89 h90 os91 q92 K93 ho94 => ?_)
      obtain ⟨rfl, rfl, rfl⟩ := q92
      clear K93 ho94
      show Go k h71 _ _ _ 352 #[.val (.int a), .val (.int b), .val (.int c), .val (.int d), .val (.int e), .val (.ref bA), .val (.int z6), .val (.int z7), .val (.int z8), .val (.int z9), .val (.int z10), .val (.int z11), .val (.int z12), .val (.int fi), .val (.int gl), .val (.int rl), .val .null, .val pr, .val (.int (1 : Int32)), .val gu, .val nu, .val rk, .val (.ref b65), .val (.int (1 : Int32))] [(.int (1 : Int32))]
      refine Go.iload C d0_352 rfl ?_
      refine Go.icmpne C d0_354 (fun hc => absurd hc (by decide)) (fun _ => ?_)
      refine Go.iconst C (1 : Int32) d0_357 (by decide) ?_
      refine Go.goto C d0_358 ?_
      refine Go.ireturn C d0_362 (Nat.le_of_ble_eq_true rfl) (Nat.le_of_ble_eq_true rfl) (by simp) rfl [] (fun _ hx => nomatch hx) ?_
      exact ⟨rfl, rfl⟩
  · refine Go.ifnullN C d0_324 ?_
    refine Go.iconst C (0 : Int32) d0_327 (by decide) ?_
    refine Go.istore C d0_328 (Ls' := #[.val (.int a), .val (.int b), .val (.int c), .val (.int d), .val (.int e), .val (.ref bA), .val (.int z6), .val (.int z7), .val (.int z8), .val (.int z9), .val (.int z10), .val (.int z11), .val (.int z12), .val (.int fi), .val (.int gl), .val (.int rl), .val (.ref ap), .val pr, .val (.int wf), .val gu, .val nu, .val rk, .val (.ref b65), .val (.int (0 : Int32))]) rfl ?_
    refine Go.goto C d0_330 ?_
    refine Go.aload C d0_347 rfl rfl ?_
    refine Go.callV C (z := y_12) (zr := y_12) (a := b65) (argsL := []) (rm_npr hW h71 (b65) (bf) (d) (gu) (pr) (nu) (z8) (e) (rk) (ap) (wf) F76) F76.1 (w_100 hW) (w_101 hW) (fun hz => notFace_of_selects (args := #[]) (mvT hz (w_103 hW))) (w_103 hW) (w_102 hW) (w_70 hW) (w_104 hW) d0_349 pd_12 rfl (by decide) rfl (st := []) rfl (by decide) (Nat.le_of_ble_eq_true rfl) (by decide) (by decide) ((fun _ hx => nomatch hx)) (fun v77 h78 os79 q80 K81 ho82 => ?_)
    obtain ⟨rfl, rfl, rfl⟩ := q80
    clear K81 ho82
    show Go k h71 _ _ _ 352 #[.val (.int a), .val (.int b), .val (.int c), .val (.int d), .val (.int e), .val (.ref bA), .val (.int z6), .val (.int z7), .val (.int z8), .val (.int z9), .val (.int z10), .val (.int z11), .val (.int z12), .val (.int fi), .val (.int gl), .val (.int rl), .val (.ref ap), .val pr, .val (.int wf), .val gu, .val nu, .val rk, .val (.ref b65), .val (.int (0 : Int32))] [(.int (0 : Int32))]
    refine Go.iload C d0_352 rfl ?_
    refine Go.icmpne C d0_354 (fun hc => absurd hc (by decide)) (fun _ => ?_)
    refine Go.iconst C (1 : Int32) d0_357 (by decide) ?_
    refine Go.goto C d0_358 ?_
    refine Go.ireturn C d0_362 (Nat.le_of_ble_eq_true rfl) (Nat.le_of_ble_eq_true rfl) (by simp) rfl [] (fun _ hx => nomatch hx) ?_
    exact ⟨rfl, rfl⟩
set_option maxRecDepth 65536 in
set_option maxHeartbeats 40000000 in
theorem comes_1 {Post : Tables → Env → Array Value → State → Outcome → State → Prop} (hpost : ∀ tb e args s v u, (limb_1_1.after args s (.returned v) u = true ∧ limb_1_2.after args s (.returned v) u = true ∧ True) → ReturnedEndW s (.returned v) u (Jvm.fieldLocs frame_1_writes args s ++ Jvm.arrayLocs frame_1_arrays args s ++ Jvm.staticLocs frame_1_statics s) 40 1216 → Post tb e args s (.returned v) u) :
    ArmFor flags0 classFile x code maxLocals ret World_1 tables_1 room_1 Calls_1 rest_1 Pre_1 Post := by
  intro l hfl _ _ p e ha hc hk s m args below hf hA hF happ hP
  obtain ⟨hcalls, hrest, hpre⟩ := hP
  obtain ⟨-, -, -, hnamed, -, -, -, hat⟩ := (Spec.applies_iff hf).mp happ
  obtain ⟨hg, hn⟩ := and_e (Cond.before_iff.mp (show (Jvm.Cond.and given_1 narrow_1).before args s = true from hpre))
  obtain ⟨g1, g2⟩ := and_e hg
  obtain ⟨g3, g4⟩ := and_e g2
  obtain ⟨g5, g6⟩ := and_e g4
  obtain ⟨g7, g8⟩ := and_e g6
  obtain ⟨g9, g10⟩ := and_e g8
  obtain ⟨w0, w1, w2, w3, w4, rfl⟩ : ∃ w0 w1 w2 w3 w4 : Value, args = #[w0, w1, w2, w3, w4] := by
    have hs : args.size = 5 := by simpa [Cond.value, given_1] using g1
    obtain ⟨L⟩ := args
    match L, hs with
    | [w0, w1, w2, w3, w4], _ => exact ⟨w0, w1, w2, w3, w4, rfl⟩
  have hw := fun d (hd : d ∈ tables_1) => atoms_spec (ws := Jvm.Cond.code x code maxLocals ret :: tables_1) hat d (List.mem_cons_of_mem _ hd)
  have hfit : Fit s := fun {y c} hc i hi => by
    obtain ⟨ha, rfl⟩ := Array.getElem?_eq_some_iff.mp hc
    have q := List.all_eq_true.mp ((Array.all_eq_true_iff_forall_mem.mp hF) _ (Array.getElem_mem ha)) i (List.mem_range.mpr hi)
    simpa [Array.getElem?_eq_getElem hi] using q
  obtain ⟨hsets, hown0⟩ := atoms_of _ (rest_1_c_eq ▸ (show rest_1_c.before _ s = true from hrest))
  have hW : W0 s _ := ⟨hw, hsets⟩
  obtain ⟨i0, ei0⟩ := is_v g3
  obtain rfl : w0 = (.int i0) := Option.some.inj ei0
  obtain ⟨i1, ei1⟩ := is_v g5
  obtain rfl : w1 = (.int i1) := Option.some.inj ei1
  obtain ⟨i2, ei2⟩ := is_v g7
  obtain rfl : w2 = (.int i2) := Option.some.inj ei2
  obtain ⟨i3, ei3⟩ := is_v g9
  obtain rfl : w3 = (.int i3) := Option.some.inj ei3
  obtain ⟨i4, ei4⟩ := is_v g10
  obtain rfl : w4 = (.int i4) := Option.some.inj ei4
  obtain ⟨n0, m0⟩ := and_e hn
  obtain ⟨n1, m1⟩ := and_e m0
  obtain ⟨n2, m2⟩ := and_e m1
  obtain ⟨n3, m3⟩ := and_e m2
  obtain ⟨n4, m4⟩ := and_e m3
  have n5 := m4
  obtain ⟨f0, v0⟩ := exa_v n0
  have T0 := Sta.start v0 (Or.inr ⟨(w_3 hW), (w_4 hW)⟩)
  have E0 := Exa.start v0 n0
  obtain ⟨f1, v1⟩ := exa_v n1
  have T1 := Sta.start v1 (Or.inr ⟨(w_3 hW), (w_7 hW)⟩)
  have E1 := Exa.start v1 n1
  obtain ⟨f2, v2⟩ := exa_v n2
  have T2 := Sta.start v2 (Or.inr ⟨(w_3 hW), (w_9 hW)⟩)
  have E2 := Exa.start v2 n2
  obtain ⟨f3, v3⟩ := exa_v n3
  have T3 := Sta.start v3 (Or.inr ⟨(w_3 hW), (w_11 hW)⟩)
  have E3 := Exa.start v3 n3
  obtain ⟨f4, v4⟩ := exa_v n4
  have T4 := Sta.start v4 (Or.inr ⟨(w_3 hW), (w_13 hW)⟩)
  have E4 := Exa.start v4 n4
  obtain ⟨f5, v5⟩ := exa_v n5
  have T5 := Sta.start v5 (Or.inr ⟨(w_3 hW), (w_15 hW)⟩)
  have E5 := Exa.start v5 n5
  obtain ⟨n, o, h1, h2, h3, v, L, os, rfl, hQ, -, -, N, -, hq, hq2⟩ := (rm0 (l := l) hW s.heap i0 i1 i2 i3 i4 f0 f1 f2 f3 f4 f5 T0 T1 T2 T3 T4 T5 E0 E1 E2 E3 E4 E5 : Con l s own_EL true x code maxLocals ret room_1 tables_1 _ _ _ _) p e ha hc hk s m _ below hf ((Spec.applies_iff_loose hf).mp happ).1 ⟨rfl, State.Warmed39.refl s, rfl, (fun _ q => nomatch q), ⟨Nat.le_refl _, fun _ _ q => q⟩, (fun _ q => nomatch q)⟩ trivial
  obtain ⟨rfl, -⟩ := hQ
  refine ⟨n, _, h1, h2, h3, hpost _ _ _ _ _ _ ⟨Cond.after_iff.mpr rfl, Cond.after_iff.mpr (eq_i res_at (Term.int_eval (1)) rfl), trivial⟩ ⟨hq.1, hq.2.1, hq.2.2.1, (hq.2.2.2.sift fun y hy => Or.inr (N y hy)).mono (by decide) (by decide)⟩⟩
theorem main_1_1 : Claimed_1_1 := comes_1 fun _ _ _ _ _ _ h hF => ⟨h.1, hF⟩
theorem main_1_2 : Claimed_1_2 := comes_1 fun _ _ _ _ _ _ h hF => ⟨h.2.1, hF⟩
end Jvm.Pilot.@@N@@
namespace Jvm.Pilot.@@N@@
open Jvm Jvm.ClassFile Sem Op Lib Jvm.Free Jvm.Stand Jvm.Pilot.@@N@@.Jvm.D
/-! MADE BY PROGRAM (witnessworld.py) out of the Statement's table words and the real class files: 24 classes; the members and pool entries that the words name. The judged class is class 1, her method 2. -/
namespace start1
open Jvm.ClassFile
def u (s : String) : CpInfo := .utf8 (stringToUtf16 s)
/-- a pool by its gaps: so many unusable entries, then the entry; so many at the end -/
def gap : Nat → List CpInfo → List CpInfo
  | 0, r => r
  | n + 1, r => .unusable :: gap n r
def poolList (es : List (Nat × CpInfo)) (last : Nat) : List CpInfo := es.foldr (fun e r => gap e.1 (e.2 :: r)) (gap last [])
def pool (es : List (Nat × CpInfo)) (last : Nat) : Array CpInfo := ⟨poolList es last⟩
def fileOf (pool : Array CpInfo) (this : Nat) (attrs : Array Attribute := #[]) (ms : Array MethodInfo := #[]) (fl : Nat := 33) (sup : Nat := 0) (ifs : Array Nat := #[]) (fds : Array FieldInfo := #[]) : ClassFile where
  minorVersion := 0
  majorVersion := 65
  constantPool := pool
  accessFlags := fl
  thisClass := this
  superClass := sup
  interfaces := ifs
  fields := fds
  methods := ms
  attributes := attrs
def plain (name : String) (sup : Option ClassId) : Class where
  name := name
  kind := .ordinary
  loader := none
  accessFlags := 33
  super := sup
  interfaces := #[]
  cf := none
  fields := #[]
  methods := #[]
  instanceTypes := #[]
  staticTypes := #[]
  resolved := #[]
  callSites := []
  init := .initialized
  statics := none
  mirror := none

def pool0 : Array CpInfo := pool [(5, u "<init>"), (0, u "()V"), (1, .class_ 10), (1, u "java/lang/Object")] 113

def k0c0 : Code := { maxStack := 0, maxLocals := 1, code := object_method_1_code, exceptionTable := #[], attributes := #[] }
def k0m0 : Method := { name := "<init>", desc := "()V", sig := { parameters := [], returnType := none }, accessFlags := 1, code := some k0c0 }
/-- java/lang/Object -/
def k0 : Class := { plain "java/lang/Object" none with
  accessFlags := 33
  interfaces := #[]
  cf := some (fileOf pool0 8 #[] #[{ accessFlags := 1, nameIndex := 5, descriptorIndex := 6, attributes := #[] }] 33 0 #[] #[])
  fields := #[]
  methods := #[k0m0]
  instanceTypes := #[]
  staticTypes := #[]
  resolved := Array.replicate 124 none
  statics := none }

def pool1 : Array CpInfo := pool [(2, .class_ 4), (1, u "java/lang/Object"), (0, u "<init>"), (0, u "()V"), (0, .string 8), (0, u ""), (0, .methodref 10 11), (0, .class_ 12), (0, .nameAndType 13 14), (0, u "java/lang/String"), (0, u "valueOf"), (0, u "(C)Ljava/lang/String;"), (0, .methodref 10 16), (0, .nameAndType 5 17), (0, u "([C)V"), (0, .class_ 19), (0, u "com/example/dossier_relay/dossierrelay/bundle/BundleFile"), (0, .fieldref 18 21), (0, .nameAndType 22 23), (0, u "CONFIGURATION"), (0, u "Lcom/example/dossier_relay/dossierrelay/bundle/BundleFile;"), (0, .fieldref 18 25), (0, .nameAndType 26 23), (0, u "METADATA"), (0, .fieldref 18 28), (0, .nameAndType 29 23), (0, u "REPOROOTS"), (0, .fieldref 18 31), (0, .nameAndType 32 23), (0, u "REPOFOLDERS"), (0, .fieldref 18 34), (0, .nameAndType 35 23), (0, u "DOSSIERS"), (0, .fieldref 18 37), (0, .nameAndType 38 23), (0, u "DOCUMENTS"), (0, .methodref 40 41), (0, .class_ 42), (0, .nameAndType 43 44), (0, u "com/example/dossier_relay/dossierrelay/bundle/BundleObjectNamesParentByReferencePinLaw"), (0, u "drawn"), (0, u "(II)Ljava/lang/String;"), (0, .class_ 46), (0, u "com/example/dossier_relay/dossierrelay/bundle/BundleObject"), (0, .methodref 45 48), (0, .nameAndType 5 49), (0, u "(Lcom/example/dossier_relay/dossierrelay/bundle/BundleFile;ILjava/lang/String;Ljava/lang/String;Ljava/lang/String;ZLjava/lang/String;ZI[I)V"), (0, .methodref 45 51), (0, .nameAndType 52 53), (0, u "namesParentByReference"), (0, u "()Z"), (3, u "law"), (0, u "(IIIII)Z")] 6

def k1m0 : Method := { name := "<init>", desc := "()V", sig := { parameters := [], returnType := none }, accessFlags := 1, code := none }
def k1c1 : Code := { maxStack := 3, maxLocals := 5, code := method_2_code, exceptionTable := #[], attributes := #[] }
def k1m1 : Method := { name := "drawn", desc := "(II)Ljava/lang/String;", sig := { parameters := [.int, .int], returnType := some (.object "java/lang/String") }, accessFlags := 10, code := some k1c1 }
def k1c2 : Code := { maxStack := 12, maxLocals := 24, code := code, exceptionTable := #[], attributes := #[] }
def k1m2 : Method := { name := "law", desc := "(IIIII)Z", sig := { parameters := [.int, .int, .int, .int, .int], returnType := some .boolean }, accessFlags := 9, code := some k1c2 }
/-- com/example/dossier_relay/dossierrelay/bundle/BundleObjectNamesParentByReferencePinLaw -/
def k1 : Class := { plain "com/example/dossier_relay/dossierrelay/bundle/BundleObjectNamesParentByReferencePinLaw" (some 0) with
  accessFlags := 49
  interfaces := #[]
  cf := some (fileOf pool1 40 #[] #[{ accessFlags := 1, nameIndex := 5, descriptorIndex := 6, attributes := #[] }, { accessFlags := 10, nameIndex := 43, descriptorIndex := 44, attributes := #[] }, { accessFlags := 9, nameIndex := 57, descriptorIndex := 58, attributes := #[] }] 49 2 #[] #[])
  fields := #[]
  methods := #[k1m0, k1m1, k1m2]
  instanceTypes := #[]
  staticTypes := #[]
  resolved := Array.replicate 65 none
  statics := none }

def pool2 : Array CpInfo := pool [(1, .class_ 2), (0, u "java/lang/constant/Constable"), (0, .class_ 4), (0, u "java/lang/Object")] 6

/-- java/lang/constant/Constable -/
def k2 : Class := { plain "java/lang/constant/Constable" (some 0) with
  accessFlags := 1537
  interfaces := #[]
  cf := some (fileOf pool2 1 #[] #[] 1537 3 #[] #[])
  fields := #[]
  methods := #[]
  instanceTypes := #[]
  staticTypes := #[]
  resolved := Array.replicate 11 none
  statics := none }

def pool3 : Array CpInfo := pool [(1, .class_ 2), (0, u "java/lang/Comparable"), (0, .class_ 4), (0, u "java/lang/Object")] 7

/-- java/lang/Comparable -/
def k3 : Class := { plain "java/lang/Comparable" (some 0) with
  accessFlags := 1537
  interfaces := #[]
  cf := some (fileOf pool3 1 #[] #[] 1537 3 #[] #[])
  fields := #[]
  methods := #[]
  instanceTypes := #[]
  staticTypes := #[]
  resolved := Array.replicate 12 none
  statics := none }

def pool4 : Array CpInfo := pool [(1, .class_ 2), (0, u "java/io/Serializable"), (0, .class_ 4), (0, u "java/lang/Object")] 2

/-- java/io/Serializable -/
def k4 : Class := { plain "java/io/Serializable" (some 0) with
  accessFlags := 1537
  interfaces := #[]
  cf := some (fileOf pool4 1 #[] #[] 1537 3 #[] #[])
  fields := #[]
  methods := #[]
  instanceTypes := #[]
  staticTypes := #[]
  resolved := Array.replicate 7 none
  statics := none }

def pool5 : Array CpInfo := pool [(2, .class_ 4), (1, u "java/lang/Enum"), (0, u "name"), (0, u "Ljava/lang/String;"), (2, u "ordinal"), (0, u "I"), (1, .class_ 14), (1, u "java/lang/Object"), (4, u "hash"), (86, .class_ 108), (1, u "java/lang/Enum$EnumDesc"), (2, .class_ 112), (0, u "java/lang/constant/Constable"), (0, .class_ 114), (0, u "java/lang/Comparable"), (0, .class_ 116), (0, u "java/io/Serializable")] 87

/-- java/lang/Enum -/
def k5 : Class := { plain "java/lang/Enum" (some 0) with
  accessFlags := 1057
  interfaces := #[2, 3, 4]
  cf := some (fileOf pool5 2 #[.nestMembers #[106]] #[] 1057 12 #[111, 113, 115] #[{ accessFlags := 18, nameIndex := 5, descriptorIndex := 6, attributes := #[] }, { accessFlags := 18, nameIndex := 9, descriptorIndex := 10, attributes := #[] }, { accessFlags := 2, nameIndex := 19, descriptorIndex := 10, attributes := #[] }])
  fields := #[{ name := "name", type := (.object "java/lang/String"), accessFlags := 18, slot := 0, constantValue := 0 }, { name := "ordinal", type := .int, accessFlags := 18, slot := 1, constantValue := 0 }, { name := "hash", type := .int, accessFlags := 2, slot := 2, constantValue := 0 }]
  methods := #[]
  instanceTypes := #[(.object "java/lang/String"), .int, .int]
  staticTypes := #[]
  resolved := Array.replicate 204 none
  statics := none }

def pool6 : Array CpInfo := pool [(1, .class_ 2), (0, u "com/example/dossier_relay/dossierrelay/bundle/BundleFile"), (2, u "CONFIGURATION"), (0, u "Lcom/example/dossier_relay/dossierrelay/bundle/BundleFile;"), (2, u "METADATA"), (2, u "REPOROOTS"), (2, u "REPOFOLDERS"), (2, u "DOSSIERS"), (2, u "DOCUMENTS"), (2, u "$VALUES"), (0, u "[Lcom/example/dossier_relay/dossierrelay/bundle/BundleFile;"), (6, .class_ 34), (1, u "java/lang/Enum"), (8, u "fileName"), (0, u "Ljava/lang/String;"), (2, u "schemaFileName"), (66, u "BUNDLE_SUFFIX"), (3, u "FILES_FOLDER")] 22

/-- com/example/dossier_relay/dossierrelay/bundle/BundleFile -/
def k6 : Class := { plain "com/example/dossier_relay/dossierrelay/bundle/BundleFile" (some 5) with
  accessFlags := 16433
  interfaces := #[]
  cf := some (fileOf pool6 1 #[] #[] 16433 32 #[] #[{ accessFlags := 16409, nameIndex := 5, descriptorIndex := 6, attributes := #[] }, { accessFlags := 16409, nameIndex := 9, descriptorIndex := 6, attributes := #[] }, { accessFlags := 16409, nameIndex := 12, descriptorIndex := 6, attributes := #[] }, { accessFlags := 16409, nameIndex := 15, descriptorIndex := 6, attributes := #[] }, { accessFlags := 16409, nameIndex := 18, descriptorIndex := 6, attributes := #[] }, { accessFlags := 16409, nameIndex := 21, descriptorIndex := 6, attributes := #[] }, { accessFlags := 25, nameIndex := 114, descriptorIndex := 44, attributes := #[] }, { accessFlags := 25, nameIndex := 118, descriptorIndex := 44, attributes := #[] }, { accessFlags := 18, nameIndex := 43, descriptorIndex := 44, attributes := #[] }, { accessFlags := 18, nameIndex := 47, descriptorIndex := 44, attributes := #[] }, { accessFlags := 4122, nameIndex := 24, descriptorIndex := 25, attributes := #[] }])
  fields := #[{ name := "CONFIGURATION", type := (.object "com/example/dossier_relay/dossierrelay/bundle/BundleFile"), accessFlags := 16409, slot := 0, constantValue := 0 }, { name := "METADATA", type := (.object "com/example/dossier_relay/dossierrelay/bundle/BundleFile"), accessFlags := 16409, slot := 1, constantValue := 0 }, { name := "REPOROOTS", type := (.object "com/example/dossier_relay/dossierrelay/bundle/BundleFile"), accessFlags := 16409, slot := 2, constantValue := 0 }, { name := "REPOFOLDERS", type := (.object "com/example/dossier_relay/dossierrelay/bundle/BundleFile"), accessFlags := 16409, slot := 3, constantValue := 0 }, { name := "DOSSIERS", type := (.object "com/example/dossier_relay/dossierrelay/bundle/BundleFile"), accessFlags := 16409, slot := 4, constantValue := 0 }, { name := "DOCUMENTS", type := (.object "com/example/dossier_relay/dossierrelay/bundle/BundleFile"), accessFlags := 16409, slot := 5, constantValue := 0 }, { name := "BUNDLE_SUFFIX", type := (.object "java/lang/String"), accessFlags := 25, slot := 6, constantValue := 0 }, { name := "FILES_FOLDER", type := (.object "java/lang/String"), accessFlags := 25, slot := 7, constantValue := 0 }, { name := "fileName", type := (.object "java/lang/String"), accessFlags := 18, slot := 3, constantValue := 0 }, { name := "schemaFileName", type := (.object "java/lang/String"), accessFlags := 18, slot := 4, constantValue := 0 }, { name := "$VALUES", type := (.array (.object "com/example/dossier_relay/dossierrelay/bundle/BundleFile")), accessFlags := 4122, slot := 8, constantValue := 0 }]
  methods := #[]
  instanceTypes := #[(.object "java/lang/String"), .int, .int, (.object "java/lang/String"), (.object "java/lang/String")]
  staticTypes := #[(.object "com/example/dossier_relay/dossierrelay/bundle/BundleFile"), (.object "com/example/dossier_relay/dossierrelay/bundle/BundleFile"), (.object "com/example/dossier_relay/dossierrelay/bundle/BundleFile"), (.object "com/example/dossier_relay/dossierrelay/bundle/BundleFile"), (.object "com/example/dossier_relay/dossierrelay/bundle/BundleFile"), (.object "com/example/dossier_relay/dossierrelay/bundle/BundleFile"), (.object "java/lang/String"), (.object "java/lang/String"), (.array (.object "com/example/dossier_relay/dossierrelay/bundle/BundleFile"))]
  resolved := Array.replicate 141 none
  statics := some 0 }

def pool7 : Array CpInfo := pool [(2, .class_ 4), (1, u "java/lang/CharSequence"), (42, .class_ 48), (0, u "java/lang/CharSequence$1CodePointIterator"), (10, .class_ 60), (0, u "java/lang/CharSequence$1CharIterator"), (5, .class_ 67), (0, u "java/lang/Object")] 63

/-- java/lang/CharSequence -/
def k7 : Class := { plain "java/lang/CharSequence" (some 0) with
  accessFlags := 1537
  interfaces := #[]
  cf := some (fileOf pool7 2 #[.nestMembers #[47, 59]] #[] 1537 66 #[] #[])
  fields := #[]
  methods := #[]
  instanceTypes := #[]
  staticTypes := #[]
  resolved := Array.replicate 131 none
  statics := none }

def pool8 : Array CpInfo := pool [(1, .class_ 2), (0, u "java/lang/constant/ConstantDesc"), (0, .class_ 4), (0, u "java/lang/Object")] 32

/-- java/lang/constant/ConstantDesc -/
def k8 : Class := { plain "java/lang/constant/ConstantDesc" (some 0) with
  accessFlags := 1537
  interfaces := #[]
  cf := some (fileOf pool8 1 #[] #[] 1537 3 #[] #[])
  fields := #[]
  methods := #[]
  instanceTypes := #[]
  staticTypes := #[]
  resolved := Array.replicate 37 none
  statics := none }

def pool9 : Array CpInfo := pool [(1, .methodref 2 3), (0, .class_ 4), (0, .nameAndType 5 6), (0, u "java/lang/Object"), (0, u "<init>"), (0, u "()V"), (2, .fieldref 10 11), (0, .class_ 12), (0, .nameAndType 13 14), (0, u "java/lang/String"), (0, u "value"), (0, u "[B"), (0, .fieldref 10 16), (0, .nameAndType 17 18), (0, u "coder"), (0, u "B"), (2, u "hash"), (0, u "I"), (2, u "hashIsZero"), (0, u "Z"), (0, .methodref 10 28), (0, .nameAndType 5 29), (0, u "([CIILjava/lang/Void;)V"), (8, .fieldref 10 39), (0, .nameAndType 40 26), (0, u "COMPACT_STRINGS"), (1, .class_ 44), (1, u "java/lang/StringUTF16"), (0, u "compress"), (1, .methodref 42 48), (0, .nameAndType 49 50), (0, u "coderFromArrayLen"), (0, u "([BI)B"), (2, u "toBytes"), (53, .class_ 109), (1, u "java/lang/StringLatin1"), (67, .methodref 42 178), (0, .nameAndType 45 179), (0, u "([CII)[B"), (29, .methodref 10 210), (0, .nameAndType 5 211), (0, u "([BB)V"), (157, u "(C)Z"), (205, .class_ 576), (0, u "java/lang/CharSequence"), (22, u "CASE_INSENSITIVE_ORDER"), (0, u "Ljava/util/Comparator;"), (181, u "valueOf"), (0, u "(C)Ljava/lang/String;"), (226, u "([C)V"), (4, .methodref 107 1016), (0, .nameAndType 1017 369), (0, u "canEncode"), (0, .methodref 107 1019), (0, .nameAndType 53 1020), (0, u "(C)[B"), (80, u "serialPersistentFields"), (0, u "[Ljava/io/ObjectStreamField;"), (0, .class_ 1104), (0, u "java/lang/String$CaseInsensitiveComparator"), (1, .class_ 1107), (0, u "java/io/Serializable"), (0, .class_ 1109), (0, u "java/lang/Comparable"), (0, .class_ 1111), (0, u "java/lang/constant/Constable"), (0, .class_ 1113), (0, u "java/lang/constant/ConstantDesc"), (2, u "serialVersionUID"), (0, u "J"), (3, u "REPL"), (0, u "C"), (2, u "LATIN1"), (1, u "UTF16")] 323

def k9m0 : Method := { name := "<init>", desc := "()V", sig := { parameters := [], returnType := none }, accessFlags := 1, code := none }
def k9c1 : Code := { maxStack := 5, maxLocals := 2, code := jdk_42_method_3_code, exceptionTable := #[], attributes := #[] }
def k9m1 : Method := { name := "<init>", desc := "([C)V", sig := { parameters := [(.array .char)], returnType := none }, accessFlags := 1, code := some k9c1 }
def k9c2 : Code := { maxStack := 4, maxLocals := 1, code := jdk_42_method_139_code, exceptionTable := #[], attributes := #[] }
def k9m2 : Method := { name := "valueOf", desc := "(C)Ljava/lang/String;", sig := { parameters := [.char], returnType := some (.object "java/lang/String") }, accessFlags := 9, code := some k9c2 }
def k9c3 : Code := { maxStack := 4, maxLocals := 6, code := jdk_42_method_149_code, exceptionTable := #[], attributes := #[] }
def k9m3 : Method := { name := "<init>", desc := "([CIILjava/lang/Void;)V", sig := { parameters := [(.array .char), .int, .int, (.object "java/lang/Void")], returnType := none }, accessFlags := 2, code := some k9c3 }
def k9c4 : Code := { maxStack := 2, maxLocals := 3, code := jdk_42_method_151_code, exceptionTable := #[], attributes := #[] }
def k9m4 : Method := { name := "<init>", desc := "([BB)V", sig := { parameters := [(.array .byte), .byte], returnType := none }, accessFlags := 0, code := some k9c4 }
/-- java/lang/String -/
def k9 : Class := { plain "java/lang/String" (some 0) with
  accessFlags := 49
  interfaces := #[4, 3, 7, 2, 8]
  cf := some (fileOf pool9 10 #[.nestMembers #[1103]] #[{ accessFlags := 1, nameIndex := 5, descriptorIndex := 6, attributes := #[] }, { accessFlags := 1, nameIndex := 5, descriptorIndex := 1010, attributes := #[] }, { accessFlags := 9, nameIndex := 782, descriptorIndex := 783, attributes := #[] }, { accessFlags := 2, nameIndex := 5, descriptorIndex := 29, attributes := #[] }, { accessFlags := 0, nameIndex := 5, descriptorIndex := 211, attributes := #[] }] 49 2 #[1106, 1108, 575, 1110, 1112] #[{ accessFlags := 18, nameIndex := 13, descriptorIndex := 14, attributes := #[] }, { accessFlags := 18, nameIndex := 17, descriptorIndex := 18, attributes := #[] }, { accessFlags := 2, nameIndex := 21, descriptorIndex := 22, attributes := #[] }, { accessFlags := 2, nameIndex := 25, descriptorIndex := 26, attributes := #[] }, { accessFlags := 26, nameIndex := 1116, descriptorIndex := 1117, attributes := #[] }, { accessFlags := 24, nameIndex := 40, descriptorIndex := 26, attributes := #[] }, { accessFlags := 26, nameIndex := 1101, descriptorIndex := 1102, attributes := #[] }, { accessFlags := 26, nameIndex := 1121, descriptorIndex := 1122, attributes := #[] }, { accessFlags := 25, nameIndex := 599, descriptorIndex := 600, attributes := #[] }, { accessFlags := 24, nameIndex := 1125, descriptorIndex := 18, attributes := #[] }, { accessFlags := 24, nameIndex := 1127, descriptorIndex := 18, attributes := #[] }])
  fields := #[{ name := "value", type := (.array .byte), accessFlags := 18, slot := 0, constantValue := 0 }, { name := "coder", type := .byte, accessFlags := 18, slot := 1, constantValue := 0 }, { name := "hash", type := .int, accessFlags := 2, slot := 2, constantValue := 0 }, { name := "hashIsZero", type := .boolean, accessFlags := 2, slot := 3, constantValue := 0 }, { name := "serialVersionUID", type := .long, accessFlags := 26, slot := 0, constantValue := 0 }, { name := "COMPACT_STRINGS", type := .boolean, accessFlags := 24, slot := 1, constantValue := 0 }, { name := "serialPersistentFields", type := (.array (.object "java/io/ObjectStreamField")), accessFlags := 26, slot := 2, constantValue := 0 }, { name := "REPL", type := .char, accessFlags := 26, slot := 3, constantValue := 0 }, { name := "CASE_INSENSITIVE_ORDER", type := (.object "java/util/Comparator"), accessFlags := 25, slot := 4, constantValue := 0 }, { name := "LATIN1", type := .byte, accessFlags := 24, slot := 5, constantValue := 0 }, { name := "UTF16", type := .byte, accessFlags := 24, slot := 6, constantValue := 0 }]
  methods := #[k9m0, k9m1, k9m2, k9m3, k9m4]
  instanceTypes := #[(.array .byte), .byte, .int, .boolean]
  staticTypes := #[.long, .boolean, (.array (.object "java/io/ObjectStreamField")), .char, (.object "java/util/Comparator"), .byte, .byte]
  resolved := Array.replicate 1451 none
  statics := some 1 }

def pool10 : Array CpInfo := pool [(6, .class_ 8), (1, u "java/lang/Object"), (0, u "<init>"), (0, u "()V"), (1, .class_ 14), (1, u "java/lang/StringUTF16"), (31, u "$assertionsDisabled"), (0, u "Z"), (13, u "HI_BYTE_SHIFT"), (0, u "I"), (2, u "LO_BYTE_SHIFT"), (49, .methodref 12 116), (0, .nameAndType 117 118), (0, u "compress"), (0, u "([CI[BII)I"), (3, u "([CII)[B"), (138, u "coderFromArrayLen"), (0, u "([BI)B"), (106, .class_ 371), (1, u "java/lang/StringUTF16$LinesSpliterator"), (58, u "MAX_LENGTH"), (196, .class_ 628), (0, u "java/lang/StringUTF16$CodePointsSpliterator"), (0, .class_ 630), (0, u "java/lang/StringUTF16$CharsSpliterator")] 4

def k10m0 : Method := { name := "<init>", desc := "()V", sig := { parameters := [], returnType := none }, accessFlags := 0, code := none }
def k10c1 : Code := { maxStack := 2, maxLocals := 2, code := jdk_52_method_15_code, exceptionTable := #[], attributes := #[] }
def k10m1 : Method := { name := "coderFromArrayLen", desc := "([BI)B", sig := { parameters := [(.array .byte), .int], returnType := some .byte }, accessFlags := 8, code := some k10c1 }
def k10c2 : Code := { maxStack := 5, maxLocals := 6, code := jdk_52_method_16_code, exceptionTable := #[], attributes := #[] }
def k10m2 : Method := { name := "compress", desc := "([CII)[B", sig := { parameters := [(.array .char), .int, .int], returnType := some (.array .byte) }, accessFlags := 9, code := some k10c2 }
def k10c3 : Code := { maxStack := 3, maxLocals := 7, code := jdk_52_method_21_code, exceptionTable := #[], attributes := #[] }
def k10m3 : Method := { name := "compress", desc := "([CI[BII)I", sig := { parameters := [(.array .char), .int, (.array .byte), .int, .int], returnType := some .int }, accessFlags := 9, code := some k10c3 }
/-- java/lang/StringUTF16 -/
def k10 : Class := { plain "java/lang/StringUTF16" (some 0) with
  accessFlags := 48
  interfaces := #[]
  cf := some (fileOf pool10 12 #[.nestMembers #[627, 629, 369]] #[{ accessFlags := 0, nameIndex := 9, descriptorIndex := 10, attributes := #[] }, { accessFlags := 8, nameIndex := 261, descriptorIndex := 262, attributes := #[] }, { accessFlags := 9, nameIndex := 117, descriptorIndex := 122, attributes := #[] }, { accessFlags := 9, nameIndex := 117, descriptorIndex := 118, attributes := #[] }] 48 6 #[] #[{ accessFlags := 26, nameIndex := 61, descriptorIndex := 62, attributes := #[] }, { accessFlags := 26, nameIndex := 65, descriptorIndex := 62, attributes := #[] }, { accessFlags := 24, nameIndex := 430, descriptorIndex := 62, attributes := #[] }, { accessFlags := 4120, nameIndex := 46, descriptorIndex := 47, attributes := #[] }])
  fields := #[{ name := "HI_BYTE_SHIFT", type := .int, accessFlags := 26, slot := 0, constantValue := 0 }, { name := "LO_BYTE_SHIFT", type := .int, accessFlags := 26, slot := 1, constantValue := 0 }, { name := "MAX_LENGTH", type := .int, accessFlags := 24, slot := 2, constantValue := 0 }, { name := "$assertionsDisabled", type := .boolean, accessFlags := 4120, slot := 3, constantValue := 0 }]
  methods := #[k10m0, k10m1, k10m2, k10m3]
  instanceTypes := #[]
  staticTypes := #[.int, .int, .int, .boolean]
  resolved := Array.replicate 635 none
  statics := none }

def pool11 : Array CpInfo := pool [(4, .class_ 6), (1, u "java/lang/Object"), (0, u "<init>"), (0, u "()V"), (5, .class_ 16), (1, u "java/lang/StringLatin1"), (73, u "canEncode"), (14, u "(C)Z"), (15, u "$assertionsDisabled"), (0, u "Z"), (98, .class_ 223), (1, u "java/lang/StringLatin1$LinesSpliterator"), (156, u "toBytes"), (1, u "(C)[B"), (7, .class_ 391), (0, u "java/lang/StringLatin1$CharsSpliterator")] 3

def k11m0 : Method := { name := "<init>", desc := "()V", sig := { parameters := [], returnType := none }, accessFlags := 0, code := none }
def k11c1 : Code := { maxStack := 2, maxLocals := 1, code := jdk_43_method_3_code, exceptionTable := #[], attributes := #[] }
def k11m1 : Method := { name := "canEncode", desc := "(C)Z", sig := { parameters := [.char], returnType := some .boolean }, accessFlags := 9, code := some k11c1 }
def k11c2 : Code := { maxStack := 4, maxLocals := 1, code := jdk_43_method_46_code, exceptionTable := #[], attributes := #[] }
def k11m2 : Method := { name := "toBytes", desc := "(C)[B", sig := { parameters := [.char], returnType := some (.array .byte) }, accessFlags := 9, code := some k11c2 }
/-- java/lang/StringLatin1 -/
def k11 : Class := { plain "java/lang/StringLatin1" (some 0) with
  accessFlags := 48
  interfaces := #[]
  cf := some (fileOf pool11 14 #[.nestMembers #[390, 221]] #[{ accessFlags := 0, nameIndex := 7, descriptorIndex := 8, attributes := #[] }, { accessFlags := 9, nameIndex := 90, descriptorIndex := 105, attributes := #[] }, { accessFlags := 9, nameIndex := 380, descriptorIndex := 382, attributes := #[] }] 48 4 #[] #[{ accessFlags := 4120, nameIndex := 121, descriptorIndex := 122, attributes := #[] }])
  fields := #[{ name := "$assertionsDisabled", type := .boolean, accessFlags := 4120, slot := 0, constantValue := 0 }]
  methods := #[k11m0, k11m1, k11m2]
  instanceTypes := #[]
  staticTypes := #[.boolean]
  resolved := Array.replicate 395 none
  statics := none }

def pool12 : Array CpInfo := pool [(1, .methodref 2 3), (0, .class_ 4), (0, .nameAndType 5 6), (0, u "java/lang/Object"), (0, u "<init>"), (0, u "()V"), (0, .class_ 8), (0, u "java/lang/Record")] 13

def k12c0 : Code := { maxStack := 1, maxLocals := 1, code := jdk_30_method_1_code, exceptionTable := #[], attributes := #[] }
def k12m0 : Method := { name := "<init>", desc := "()V", sig := { parameters := [], returnType := none }, accessFlags := 4, code := some k12c0 }
/-- java/lang/Record -/
def k12 : Class := { plain "java/lang/Record" (some 0) with
  accessFlags := 1057
  interfaces := #[]
  cf := some (fileOf pool12 7 #[] #[{ accessFlags := 4, nameIndex := 5, descriptorIndex := 6, attributes := #[] }] 1057 2 #[] #[])
  fields := #[]
  methods := #[k12m0]
  instanceTypes := #[]
  staticTypes := #[]
  resolved := Array.replicate 22 none
  statics := none }

def pool13 : Array CpInfo := pool [(3, .methodref 4 5), (0, .class_ 6), (0, .nameAndType 7 8), (0, u "java/lang/Record"), (0, u "<init>"), (0, u "()V"), (0, .fieldref 10 11), (0, .class_ 12), (0, .nameAndType 13 14), (0, u "com/example/dossier_relay/dossierrelay/bundle/BundleObject"), (0, u "file"), (0, u "Lcom/example/dossier_relay/dossierrelay/bundle/BundleFile;"), (0, .fieldref 10 16), (0, .nameAndType 17 18), (0, u "index"), (0, u "I"), (0, .fieldref 10 20), (0, .nameAndType 21 22), (0, u "guid"), (0, u "Ljava/lang/String;"), (0, .fieldref 10 24), (0, .nameAndType 25 22), (0, u "parentGuid"), (0, .fieldref 10 27), (0, .nameAndType 28 22), (0, u "parentReference"), (0, .fieldref 10 30), (0, .nameAndType 31 32), (0, u "parentReferenceWellFormed"), (0, u "Z"), (0, .fieldref 10 34), (0, .nameAndType 35 22), (0, u "number"), (0, .fieldref 10 37), (0, .nameAndType 38 32), (0, u "resolved"), (0, .fieldref 10 40), (0, .nameAndType 41 18), (0, u "day"), (0, .fieldref 10 43), (0, .nameAndType 44 45), (0, u "restrictedRanks"), (0, u "[I"), (13, u "namesParentByReference"), (0, u "()Z"), (22, u "NO_DAY"), (1, u "(Lcom/example/dossier_relay/dossierrelay/bundle/BundleFile;ILjava/lang/String;Ljava/lang/String;Ljava/lang/String;ZLjava/lang/String;ZI[I)V")] 55

def k13c0 : Code := { maxStack := 2, maxLocals := 11, code := prog_4_method_1_code, exceptionTable := #[], attributes := #[] }
def k13m0 : Method := { name := "<init>", desc := "(Lcom/example/dossier_relay/dossierrelay/bundle/BundleFile;ILjava/lang/String;Ljava/lang/String;Ljava/lang/String;ZLjava/lang/String;ZI[I)V", sig := { parameters := [(.object "com/example/dossier_relay/dossierrelay/bundle/BundleFile"), .int, (.object "java/lang/String"), (.object "java/lang/String"), (.object "java/lang/String"), .boolean, (.object "java/lang/String"), .boolean, .int, (.array .int)], returnType := none }, accessFlags := 0, code := some k13c0 }
def k13c1 : Code := { maxStack := 1, maxLocals := 1, code := prog_4_method_3_code, exceptionTable := #[], attributes := #[] }
def k13m1 : Method := { name := "namesParentByReference", desc := "()Z", sig := { parameters := [], returnType := some .boolean }, accessFlags := 0, code := some k13c1 }
/-- com/example/dossier_relay/dossierrelay/bundle/BundleObject -/
def k13 : Class := { plain "com/example/dossier_relay/dossierrelay/bundle/BundleObject" (some 12) with
  accessFlags := 48
  interfaces := #[]
  cf := some (fileOf pool13 10 #[] #[{ accessFlags := 0, nameIndex := 7, descriptorIndex := 85, attributes := #[] }, { accessFlags := 0, nameIndex := 59, descriptorIndex := 60, attributes := #[] }] 48 4 #[] #[{ accessFlags := 18, nameIndex := 13, descriptorIndex := 14, attributes := #[] }, { accessFlags := 18, nameIndex := 17, descriptorIndex := 18, attributes := #[] }, { accessFlags := 18, nameIndex := 21, descriptorIndex := 22, attributes := #[] }, { accessFlags := 18, nameIndex := 25, descriptorIndex := 22, attributes := #[] }, { accessFlags := 18, nameIndex := 28, descriptorIndex := 22, attributes := #[] }, { accessFlags := 18, nameIndex := 31, descriptorIndex := 32, attributes := #[] }, { accessFlags := 18, nameIndex := 35, descriptorIndex := 22, attributes := #[] }, { accessFlags := 18, nameIndex := 38, descriptorIndex := 32, attributes := #[] }, { accessFlags := 18, nameIndex := 41, descriptorIndex := 18, attributes := #[] }, { accessFlags := 18, nameIndex := 44, descriptorIndex := 45, attributes := #[] }, { accessFlags := 24, nameIndex := 83, descriptorIndex := 18, attributes := #[] }])
  fields := #[{ name := "file", type := (.object "com/example/dossier_relay/dossierrelay/bundle/BundleFile"), accessFlags := 18, slot := 0, constantValue := 0 }, { name := "index", type := .int, accessFlags := 18, slot := 1, constantValue := 0 }, { name := "guid", type := (.object "java/lang/String"), accessFlags := 18, slot := 2, constantValue := 0 }, { name := "parentGuid", type := (.object "java/lang/String"), accessFlags := 18, slot := 3, constantValue := 0 }, { name := "parentReference", type := (.object "java/lang/String"), accessFlags := 18, slot := 4, constantValue := 0 }, { name := "parentReferenceWellFormed", type := .boolean, accessFlags := 18, slot := 5, constantValue := 0 }, { name := "number", type := (.object "java/lang/String"), accessFlags := 18, slot := 6, constantValue := 0 }, { name := "resolved", type := .boolean, accessFlags := 18, slot := 7, constantValue := 0 }, { name := "day", type := .int, accessFlags := 18, slot := 8, constantValue := 0 }, { name := "restrictedRanks", type := (.array .int), accessFlags := 18, slot := 9, constantValue := 0 }, { name := "NO_DAY", type := .int, accessFlags := 24, slot := 0, constantValue := 0 }]
  methods := #[k13m0, k13m1]
  instanceTypes := #[(.object "com/example/dossier_relay/dossierrelay/bundle/BundleFile"), .int, (.object "java/lang/String"), (.object "java/lang/String"), (.object "java/lang/String"), .boolean, (.object "java/lang/String"), .boolean, .int, (.array .int)]
  staticTypes := #[.int]
  resolved := Array.replicate 141 none
  statics := none }

def pool14 : Array CpInfo := pool [(2, .class_ 4), (1, u "java/lang/Object"), (0, u "<init>"), (0, u "()V"), (17, .class_ 26), (1, u "jdk/internal/util/Preconditions"), (28, .class_ 56), (0, u "jdk/internal/util/Preconditions$4"), (57, .class_ 115), (0, u "jdk/internal/util/Preconditions$1"), (7, u "SIOOBE_FORMATTER"), (0, u "Ljava/util/function/BiFunction;"), (0, .class_ 126), (0, u "jdk/internal/util/Preconditions$2"), (3, u "AIOOBE_FORMATTER"), (0, .class_ 132), (0, u "jdk/internal/util/Preconditions$3"), (3, u "IOOBE_FORMATTER")] 57

def k14m0 : Method := { name := "<init>", desc := "()V", sig := { parameters := [], returnType := none }, accessFlags := 1, code := none }
/-- jdk/internal/util/Preconditions -/
def k14 : Class := { plain "jdk/internal/util/Preconditions" (some 0) with
  accessFlags := 33
  interfaces := #[]
  cf := some (fileOf pool14 24 #[.nestMembers #[55, 131, 125, 114]] #[{ accessFlags := 1, nameIndex := 5, descriptorIndex := 6, attributes := #[] }] 33 2 #[] #[{ accessFlags := 25, nameIndex := 123, descriptorIndex := 124, attributes := #[] }, { accessFlags := 25, nameIndex := 130, descriptorIndex := 124, attributes := #[] }, { accessFlags := 25, nameIndex := 136, descriptorIndex := 124, attributes := #[] }])
  fields := #[{ name := "SIOOBE_FORMATTER", type := (.object "java/util/function/BiFunction"), accessFlags := 25, slot := 0, constantValue := 0 }, { name := "AIOOBE_FORMATTER", type := (.object "java/util/function/BiFunction"), accessFlags := 25, slot := 1, constantValue := 0 }, { name := "IOOBE_FORMATTER", type := (.object "java/util/function/BiFunction"), accessFlags := 25, slot := 2, constantValue := 0 }]
  methods := #[k14m0]
  instanceTypes := #[]
  staticTypes := #[(.object "java/util/function/BiFunction"), (.object "java/util/function/BiFunction"), (.object "java/util/function/BiFunction")]
  resolved := Array.replicate 194 none
  statics := some 2 }

def pool15 : Array CpInfo := pool [(9, u "<init>"), (6, .class_ 18), (1, u "java/lang/Object"), (0, u "()V"), (1, .class_ 23), (1, u "jdk/internal/util/ArraysSupport"), (0, u "LOG2_ARRAY_LONG_INDEX_SCALE"), (0, u "I"), (2, u "U"), (0, u "Ljdk/internal/misc/Unsafe;"), (8, u "BIG_ENDIAN"), (0, u "Z"), (8, u "LOG2_BYTE_BIT_SIZE"), (4, u "LOG2_ARRAY_INT_INDEX_SCALE"), (54, u "JLA"), (0, u "Ljdk/internal/access/JavaLangAccess;"), (11, u "LOG2_ARRAY_BOOLEAN_INDEX_SCALE"), (9, u "LOG2_ARRAY_BYTE_INDEX_SCALE"), (5, u "LOG2_ARRAY_CHAR_INDEX_SCALE"), (5, u "LOG2_ARRAY_SHORT_INDEX_SCALE"), (18, u "LOG2_ARRAY_FLOAT_INDEX_SCALE"), (24, u "LOG2_ARRAY_DOUBLE_INDEX_SCALE"), (89, u "T_BOOLEAN"), (2, u "T_CHAR"), (1, u "T_FLOAT"), (1, u "T_DOUBLE"), (1, u "T_BYTE"), (1, u "T_SHORT"), (1, u "T_INT"), (1, u "T_LONG"), (1, u "SOFT_MAX_ARRAY_LENGTH")] 83

def k15m0 : Method := { name := "<init>", desc := "()V", sig := { parameters := [], returnType := none }, accessFlags := 2, code := none }
/-- jdk/internal/util/ArraysSupport -/
def k15 : Class := { plain "jdk/internal/util/ArraysSupport" (some 0) with
  accessFlags := 33
  interfaces := #[]
  cf := some (fileOf pool15 21 #[] #[{ accessFlags := 2, nameIndex := 9, descriptorIndex := 19, attributes := #[] }] 33 16 #[] #[{ accessFlags := 24, nameIndex := 28, descriptorIndex := 29, attributes := #[] }, { accessFlags := 26, nameIndex := 38, descriptorIndex := 39, attributes := #[] }, { accessFlags := 25, nameIndex := 121, descriptorIndex := 25, attributes := #[] }, { accessFlags := 25, nameIndex := 131, descriptorIndex := 25, attributes := #[] }, { accessFlags := 25, nameIndex := 137, descriptorIndex := 25, attributes := #[] }, { accessFlags := 25, nameIndex := 143, descriptorIndex := 25, attributes := #[] }, { accessFlags := 25, nameIndex := 53, descriptorIndex := 25, attributes := #[] }, { accessFlags := 25, nameIndex := 24, descriptorIndex := 25, attributes := #[] }, { accessFlags := 25, nameIndex := 162, descriptorIndex := 25, attributes := #[] }, { accessFlags := 25, nameIndex := 187, descriptorIndex := 25, attributes := #[] }, { accessFlags := 26, nameIndex := 48, descriptorIndex := 25, attributes := #[] }, { accessFlags := 25, nameIndex := 277, descriptorIndex := 25, attributes := #[] }, { accessFlags := 25, nameIndex := 280, descriptorIndex := 25, attributes := #[] }, { accessFlags := 25, nameIndex := 282, descriptorIndex := 25, attributes := #[] }, { accessFlags := 25, nameIndex := 284, descriptorIndex := 25, attributes := #[] }, { accessFlags := 25, nameIndex := 286, descriptorIndex := 25, attributes := #[] }, { accessFlags := 25, nameIndex := 288, descriptorIndex := 25, attributes := #[] }, { accessFlags := 25, nameIndex := 290, descriptorIndex := 25, attributes := #[] }, { accessFlags := 25, nameIndex := 292, descriptorIndex := 25, attributes := #[] }, { accessFlags := 26, nameIndex := 108, descriptorIndex := 109, attributes := #[] }, { accessFlags := 25, nameIndex := 294, descriptorIndex := 25, attributes := #[] }])
  fields := #[{ name := "U", type := (.object "jdk/internal/misc/Unsafe"), accessFlags := 24, slot := 0, constantValue := 0 }, { name := "BIG_ENDIAN", type := .boolean, accessFlags := 26, slot := 1, constantValue := 0 }, { name := "LOG2_ARRAY_BOOLEAN_INDEX_SCALE", type := .int, accessFlags := 25, slot := 2, constantValue := 0 }, { name := "LOG2_ARRAY_BYTE_INDEX_SCALE", type := .int, accessFlags := 25, slot := 3, constantValue := 0 }, { name := "LOG2_ARRAY_CHAR_INDEX_SCALE", type := .int, accessFlags := 25, slot := 4, constantValue := 0 }, { name := "LOG2_ARRAY_SHORT_INDEX_SCALE", type := .int, accessFlags := 25, slot := 5, constantValue := 0 }, { name := "LOG2_ARRAY_INT_INDEX_SCALE", type := .int, accessFlags := 25, slot := 6, constantValue := 0 }, { name := "LOG2_ARRAY_LONG_INDEX_SCALE", type := .int, accessFlags := 25, slot := 7, constantValue := 0 }, { name := "LOG2_ARRAY_FLOAT_INDEX_SCALE", type := .int, accessFlags := 25, slot := 8, constantValue := 0 }, { name := "LOG2_ARRAY_DOUBLE_INDEX_SCALE", type := .int, accessFlags := 25, slot := 9, constantValue := 0 }, { name := "LOG2_BYTE_BIT_SIZE", type := .int, accessFlags := 26, slot := 10, constantValue := 0 }, { name := "T_BOOLEAN", type := .int, accessFlags := 25, slot := 11, constantValue := 0 }, { name := "T_CHAR", type := .int, accessFlags := 25, slot := 12, constantValue := 0 }, { name := "T_FLOAT", type := .int, accessFlags := 25, slot := 13, constantValue := 0 }, { name := "T_DOUBLE", type := .int, accessFlags := 25, slot := 14, constantValue := 0 }, { name := "T_BYTE", type := .int, accessFlags := 25, slot := 15, constantValue := 0 }, { name := "T_SHORT", type := .int, accessFlags := 25, slot := 16, constantValue := 0 }, { name := "T_INT", type := .int, accessFlags := 25, slot := 17, constantValue := 0 }, { name := "T_LONG", type := .int, accessFlags := 25, slot := 18, constantValue := 0 }, { name := "JLA", type := (.object "jdk/internal/access/JavaLangAccess"), accessFlags := 26, slot := 19, constantValue := 0 }, { name := "SOFT_MAX_ARRAY_LENGTH", type := .int, accessFlags := 25, slot := 20, constantValue := 0 }]
  methods := #[k15m0]
  instanceTypes := #[]
  staticTypes := #[(.object "jdk/internal/misc/Unsafe"), .boolean, .int, .int, .int, .int, .int, .int, .int, .int, .int, .int, .int, .int, .int, .int, .int, .int, .int, (.object "jdk/internal/access/JavaLangAccess"), .int]
  resolved := Array.replicate 378 none
  statics := none }

def pool16 : Array CpInfo := pool [(1, u "java/lang/Cloneable"), (0, .class_ 1), (0, u "java/lang/Object"), (0, .class_ 3)] 3

/-- java/lang/Cloneable -/
def k16 : Class := { plain "java/lang/Cloneable" (some 0) with
  accessFlags := 1537
  interfaces := #[]
  cf := some (fileOf pool16 2 #[] #[] 1537 4 #[] #[])
  fields := #[]
  methods := #[]
  instanceTypes := #[]
  staticTypes := #[]
  resolved := Array.replicate 8 none
  statics := none }

/-- the primitive byte -/
def k17 : Class := { plain "byte" none with kind := .primitive 'B', accessFlags := 0x411 }
/-- [B -/
def k18 : Class := { plain "[B" (some 0) with kind := .array 17 .byte, interfaces := #[16, 4], accessFlags := 1041 }

/-- the primitive char -/
def k19 : Class := { plain "char" none with kind := .primitive 'C', accessFlags := 0x411 }
/-- [C -/
def k20 : Class := { plain "[C" (some 0) with kind := .array 19 .char, interfaces := #[16, 4], accessFlags := 1041 }

/-- the primitive int -/
def k21 : Class := { plain "int" none with kind := .primitive 'I', accessFlags := 0x411 }
/-- [I -/
def k22 : Class := { plain "[I" (some 0) with kind := .array 21 .int, interfaces := #[16, 4], accessFlags := 1041 }

/-- [Lcom/example/dossier_relay/dossierrelay/bundle/BundleFile; -/
def k23 : Class := { plain "[Lcom/example/dossier_relay/dossierrelay/bundle/BundleFile;" (some 0) with kind := .array 6 (.object "com/example/dossier_relay/dossierrelay/bundle/BundleFile"), interfaces := #[16, 4], accessFlags := 1041 }

def heap : Heap := #[{ cls := 6, slots := #[.ref 3, .ref 4, .ref 5, .ref 6, .ref 7, .ref 8, .null, .null, .null], vm := .statics 6 },
  { cls := 9, slots := #[.long 0, .int 1, .null, .int 0, .null, .int 0, .int 0], vm := .statics 9 },
  { cls := 14, slots := #[.null, .null, .null], vm := .statics 14 },
  { cls := 6, slots := #[.null, .int 0, .int 0, .null, .null], vm := .none },
  { cls := 6, slots := #[.null, .int 0, .int 0, .null, .null], vm := .none },
  { cls := 6, slots := #[.null, .int 0, .int 0, .null, .null], vm := .none },
  { cls := 6, slots := #[.null, .int 0, .int 0, .null, .null], vm := .none },
  { cls := 6, slots := #[.null, .int 0, .int 0, .null, .null], vm := .none },
  { cls := 6, slots := #[.null, .int 0, .int 0, .null, .null], vm := .none }]
def classes : Array Class := #[k0, k1, k2, k3, k4, k5, k6, k7, k8, k9, k10, k11, k12, k13, k14, k15, k16, k17, k18, k19, k20, k21, k22, k23]
def interned : List (Array UInt16 × Addr) := []
def slotsUsed : Nat := 49
def theMethod : MethodId := ⟨1, 2⟩
def args0 : Array Value := #[.int 5, .int 7, .int 9, .int 1, .int 2]
def aboutOver (below : List Frame) : State where
  vm := { classes := classes, interned := interned.toArray }
  heap := heap
  slotsUsed := slotsUsed
  threads := #[{ frames := .invoking theMethod args0 :: below }]
def below0 : List Frame := [.native { method := ⟨0, 0⟩, args := #[] }]
def about1 : State := aboutOver below0
def p0 : Program := .bare "" "" ""
def e0 : Env := launch0.env 0 0 0
theorem w_frames : about1.frames = Frame.invoking theMethod args0 :: below0 := rfl
set_option maxRecDepth 65536 in
theorem w_args : argsFit about1.vm theMethod args0 = true := by decide +kernel
set_option maxRecDepth 65536 in
theorem w_heap : heapFits about1 = true := by decide +kernel
set_option maxRecDepth 65536 in
theorem w_runnable : about1.curStatus? = some .runnable := by decide +kernel
set_option maxRecDepth 65536 in
theorem w_alone : about1.alone = true := by decide +kernel
set_option maxRecDepth 65536 in
theorem w_named : about1.methodNamed? x = some theMethod := by decide +kernel
set_option maxRecDepth 65536 in
theorem w_hears : about1.hears theMethod below0 = true := by decide +kernel
set_option maxRecDepth 65536 in
theorem w_ripe : about1.ripe theMethod args0 below0 = true := by decide +kernel
theorem w_running : about1.status = .running := rfl
set_option maxRecDepth 65536 in
theorem w_room : about1.hasRoom e0.platform room_1 = true :=
  launch0.hasRoom_least _ room_1 (by decide +kernel) (by decide +kernel) (by decide +kernel) (by decide +kernel) (by decide +kernel) (by decide +kernel)
theorem allAtoms_all (ts : List Jvm.Cond) (a : Array Jvm.Value) (st : Jvm.State) : (allAtoms ts).before a st = ts.all (fun c => c.before a st) := by
  induction ts with
  | nil => rfl
  | cons c t ih =>
    show (Jvm.Cond.and c (allAtoms t)).before a st = _
    rw [Jvm.Cond.before_and, ih, List.all_cons]
def words1 : List Jvm.Cond := Jvm.Cond.code x code maxLocals ret :: tables_1
/-- a 'code' word, met by the world's own term for the bytes: nothing is compared byte by byte -/
theorem code_word {y : MethodName} {bytes : ByteArray} {mx : Nat} {rt : Option FieldType} {a : Array Value} {s : State} {m : MethodId} {meth : Method} {c : Code} (h1 : s.methodNamed? y = some m) (h2 : s.vm.method? m = some meth) (h3 : meth.code = some c) (h4 : c.code = bytes)
    (h5 : (c.maxLocals == mx && c.exceptionTable.isEmpty && decide (c.maxStack ≤ mostOperands) && decide (meth.sig.returnType = rt) && !meth.locks && decide (parseMethodDescriptor y.desc = some meth.sig)) = true) : (Jvm.Cond.code y bytes mx rt).before a s = true := by
  simp only [Bool.and_eq_true, beq_iff_eq, Bool.not_eq_true', decide_eq_true_eq] at h5
  obtain ⟨⟨⟨⟨⟨g1, g2⟩, g3⟩, g4⟩, g5⟩, g6⟩ := h5
  simp [Cond.before, Cond.holds, Cond.value, h1, h2, h3, h4, g1, g2, g3, g4, g5, g6]
def isCode : Jvm.Cond → Bool
  | .code _ _ _ _ => true
  | _ => false
theorem all_split {L : List Jvm.Cond} {P : Jvm.Cond → Bool} (h1 : L.all (fun c => isCode c || P c) = true) (h2 : ∀ c ∈ L.filter isCode, P c = true) : L.all P = true := by
  refine List.all_eq_true.mpr fun c hc => ?_
  have h := List.all_eq_true.mp h1 c hc
  rcases Bool.eq_false_or_eq_true (isCode c) with hi | hi
  · exact h2 c (List.mem_filter.mpr ⟨hc, hi⟩)
  · simpa [hi] using h
set_option maxRecDepth 65536 in
theorem w_c0 : (Jvm.Cond.code x code maxLocals ret).before args0 about1 = true := code_word (m := ⟨1, 2⟩) (meth := k1m2) (c := k1c2) (by decide +kernel) rfl rfl rfl (by decide +kernel)
set_option maxRecDepth 65536 in
theorem w_c1 : (Jvm.Cond.code ({ cls := "com/example/dossier_relay/dossierrelay/bundle/BundleObjectNamesParentByReferencePinLaw", name := "drawn", desc := "(II)Ljava/lang/String;" } : Jvm.MethodName) method_2_code (5 : Nat) (Option.some (Jvm.ClassFile.FieldType.object "java/lang/String"))).before args0 about1 = true := code_word (m := ⟨1, 1⟩) (meth := k1m1) (c := k1c1) (by decide +kernel) rfl rfl rfl (by decide +kernel)
set_option maxRecDepth 65536 in
theorem w_c2 : (Jvm.Cond.code ({ cls := "java/lang/String", name := "<init>", desc := "([C)V" } : Jvm.MethodName) jdk_42_method_3_code (2 : Nat) (Option.none : Option Jvm.ClassFile.FieldType)).before args0 about1 = true := code_word (m := ⟨9, 1⟩) (meth := k9m1) (c := k9c1) (by decide +kernel) rfl rfl rfl (by decide +kernel)
set_option maxRecDepth 65536 in
theorem w_c3 : (Jvm.Cond.code ({ cls := "java/lang/String", name := "<init>", desc := "([CIILjava/lang/Void;)V" } : Jvm.MethodName) jdk_42_method_149_code (6 : Nat) (Option.none : Option Jvm.ClassFile.FieldType)).before args0 about1 = true := code_word (m := ⟨9, 3⟩) (meth := k9m3) (c := k9c3) (by decide +kernel) rfl rfl rfl (by decide +kernel)
set_option maxRecDepth 65536 in
theorem w_c4 : (Jvm.Cond.code ({ cls := "java/lang/Object", name := "<init>", desc := "()V" } : Jvm.MethodName) object_method_1_code (1 : Nat) (Option.none : Option Jvm.ClassFile.FieldType)).before args0 about1 = true := code_word (m := ⟨0, 0⟩) (meth := k0m0) (c := k0c0) (by decide +kernel) rfl rfl rfl (by decide +kernel)
set_option maxRecDepth 65536 in
theorem w_c5 : (Jvm.Cond.code ({ cls := "java/lang/StringUTF16", name := "compress", desc := "([CII)[B" } : Jvm.MethodName) jdk_52_method_16_code (6 : Nat) (Option.some (Jvm.ClassFile.FieldType.array Jvm.ClassFile.FieldType.byte))).before args0 about1 = true := code_word (m := ⟨10, 2⟩) (meth := k10m2) (c := k10c2) (by decide +kernel) rfl rfl rfl (by decide +kernel)
set_option maxRecDepth 65536 in
theorem w_c6 : (Jvm.Cond.code ({ cls := "java/lang/StringUTF16", name := "compress", desc := "([CI[BII)I" } : Jvm.MethodName) jdk_52_method_21_code (7 : Nat) (Option.some Jvm.ClassFile.FieldType.int)).before args0 about1 = true := code_word (m := ⟨10, 3⟩) (meth := k10m3) (c := k10c3) (by decide +kernel) rfl rfl rfl (by decide +kernel)
set_option maxRecDepth 65536 in
theorem w_c7 : (Jvm.Cond.code ({ cls := "java/lang/StringUTF16", name := "coderFromArrayLen", desc := "([BI)B" } : Jvm.MethodName) jdk_52_method_15_code (2 : Nat) (Option.some Jvm.ClassFile.FieldType.byte)).before args0 about1 = true := code_word (m := ⟨10, 1⟩) (meth := k10m1) (c := k10c1) (by decide +kernel) rfl rfl rfl (by decide +kernel)
set_option maxRecDepth 65536 in
theorem w_c8 : (Jvm.Cond.code ({ cls := "java/lang/String", name := "valueOf", desc := "(C)Ljava/lang/String;" } : Jvm.MethodName) jdk_42_method_139_code (1 : Nat) (Option.some (Jvm.ClassFile.FieldType.object "java/lang/String"))).before args0 about1 = true := code_word (m := ⟨9, 2⟩) (meth := k9m2) (c := k9c2) (by decide +kernel) rfl rfl rfl (by decide +kernel)
set_option maxRecDepth 65536 in
theorem w_c9 : (Jvm.Cond.code ({ cls := "java/lang/StringLatin1", name := "canEncode", desc := "(C)Z" } : Jvm.MethodName) jdk_43_method_3_code (1 : Nat) (Option.some Jvm.ClassFile.FieldType.boolean)).before args0 about1 = true := code_word (m := ⟨11, 1⟩) (meth := k11m1) (c := k11c1) (by decide +kernel) rfl rfl rfl (by decide +kernel)
set_option maxRecDepth 65536 in
theorem w_c10 : (Jvm.Cond.code ({ cls := "java/lang/StringLatin1", name := "toBytes", desc := "(C)[B" } : Jvm.MethodName) jdk_43_method_46_code (1 : Nat) (Option.some (Jvm.ClassFile.FieldType.array Jvm.ClassFile.FieldType.byte))).before args0 about1 = true := code_word (m := ⟨11, 2⟩) (meth := k11m2) (c := k11c2) (by decide +kernel) rfl rfl rfl (by decide +kernel)
set_option maxRecDepth 65536 in
theorem w_c11 : (Jvm.Cond.code ({ cls := "java/lang/String", name := "<init>", desc := "([BB)V" } : Jvm.MethodName) jdk_42_method_151_code (3 : Nat) (Option.none : Option Jvm.ClassFile.FieldType)).before args0 about1 = true := code_word (m := ⟨9, 4⟩) (meth := k9m4) (c := k9c4) (by decide +kernel) rfl rfl rfl (by decide +kernel)
set_option maxRecDepth 65536 in
theorem w_c12 : (Jvm.Cond.code ({ cls := "com/example/dossier_relay/dossierrelay/bundle/BundleObject", name := "<init>", desc := "(Lcom/example/dossier_relay/dossierrelay/bundle/BundleFile;ILjava/lang/String;Ljava/lang/String;Ljava/lang/String;ZLjava/lang/String;ZI[I)V" } : Jvm.MethodName) prog_4_method_1_code (11 : Nat) (Option.none : Option Jvm.ClassFile.FieldType)).before args0 about1 = true := code_word (m := ⟨13, 0⟩) (meth := k13m0) (c := k13c0) (by decide +kernel) rfl rfl rfl (by decide +kernel)
set_option maxRecDepth 65536 in
theorem w_c13 : (Jvm.Cond.code ({ cls := "java/lang/Record", name := "<init>", desc := "()V" } : Jvm.MethodName) jdk_30_method_1_code (1 : Nat) (Option.none : Option Jvm.ClassFile.FieldType)).before args0 about1 = true := code_word (m := ⟨12, 0⟩) (meth := k12m0) (c := k12c0) (by decide +kernel) rfl rfl rfl (by decide +kernel)
set_option maxRecDepth 65536 in
theorem w_c14 : (Jvm.Cond.code ({ cls := "com/example/dossier_relay/dossierrelay/bundle/BundleObject", name := "namesParentByReference", desc := "()Z" } : Jvm.MethodName) prog_4_method_3_code (1 : Nat) (Option.some Jvm.ClassFile.FieldType.boolean)).before args0 about1 = true := code_word (m := ⟨13, 1⟩) (meth := k13m1) (c := k13c1) (by decide +kernel) rfl rfl rfl (by decide +kernel)
def codes1 : List Jvm.Cond := [Jvm.Cond.code x code maxLocals ret, Jvm.Cond.code ({ cls := "com/example/dossier_relay/dossierrelay/bundle/BundleObjectNamesParentByReferencePinLaw", name := "drawn", desc := "(II)Ljava/lang/String;" } : Jvm.MethodName) method_2_code (5 : Nat) (Option.some (Jvm.ClassFile.FieldType.object "java/lang/String")), Jvm.Cond.code ({ cls := "java/lang/String", name := "<init>", desc := "([C)V" } : Jvm.MethodName) jdk_42_method_3_code (2 : Nat) (Option.none : Option Jvm.ClassFile.FieldType), Jvm.Cond.code ({ cls := "java/lang/String", name := "<init>", desc := "([CIILjava/lang/Void;)V" } : Jvm.MethodName) jdk_42_method_149_code (6 : Nat) (Option.none : Option Jvm.ClassFile.FieldType), Jvm.Cond.code ({ cls := "java/lang/Object", name := "<init>", desc := "()V" } : Jvm.MethodName) object_method_1_code (1 : Nat) (Option.none : Option Jvm.ClassFile.FieldType), Jvm.Cond.code ({ cls := "java/lang/StringUTF16", name := "compress", desc := "([CII)[B" } : Jvm.MethodName) jdk_52_method_16_code (6 : Nat) (Option.some (Jvm.ClassFile.FieldType.array Jvm.ClassFile.FieldType.byte)), Jvm.Cond.code ({ cls := "java/lang/StringUTF16", name := "compress", desc := "([CI[BII)I" } : Jvm.MethodName) jdk_52_method_21_code (7 : Nat) (Option.some Jvm.ClassFile.FieldType.int), Jvm.Cond.code ({ cls := "java/lang/StringUTF16", name := "coderFromArrayLen", desc := "([BI)B" } : Jvm.MethodName) jdk_52_method_15_code (2 : Nat) (Option.some Jvm.ClassFile.FieldType.byte), Jvm.Cond.code ({ cls := "java/lang/String", name := "valueOf", desc := "(C)Ljava/lang/String;" } : Jvm.MethodName) jdk_42_method_139_code (1 : Nat) (Option.some (Jvm.ClassFile.FieldType.object "java/lang/String")), Jvm.Cond.code ({ cls := "java/lang/StringLatin1", name := "canEncode", desc := "(C)Z" } : Jvm.MethodName) jdk_43_method_3_code (1 : Nat) (Option.some Jvm.ClassFile.FieldType.boolean), Jvm.Cond.code ({ cls := "java/lang/StringLatin1", name := "toBytes", desc := "(C)[B" } : Jvm.MethodName) jdk_43_method_46_code (1 : Nat) (Option.some (Jvm.ClassFile.FieldType.array Jvm.ClassFile.FieldType.byte)), Jvm.Cond.code ({ cls := "java/lang/String", name := "<init>", desc := "([BB)V" } : Jvm.MethodName) jdk_42_method_151_code (3 : Nat) (Option.none : Option Jvm.ClassFile.FieldType), Jvm.Cond.code ({ cls := "com/example/dossier_relay/dossierrelay/bundle/BundleObject", name := "<init>", desc := "(Lcom/example/dossier_relay/dossierrelay/bundle/BundleFile;ILjava/lang/String;Ljava/lang/String;Ljava/lang/String;ZLjava/lang/String;ZI[I)V" } : Jvm.MethodName) prog_4_method_1_code (11 : Nat) (Option.none : Option Jvm.ClassFile.FieldType), Jvm.Cond.code ({ cls := "java/lang/Record", name := "<init>", desc := "()V" } : Jvm.MethodName) jdk_30_method_1_code (1 : Nat) (Option.none : Option Jvm.ClassFile.FieldType), Jvm.Cond.code ({ cls := "com/example/dossier_relay/dossierrelay/bundle/BundleObject", name := "namesParentByReference", desc := "()Z" } : Jvm.MethodName) prog_4_method_3_code (1 : Nat) (Option.some Jvm.ClassFile.FieldType.boolean)]
set_option maxRecDepth 65536 in
theorem codes_eq : words1.filter isCode = codes1 := rfl
theorem w_codes : ∀ c ∈ words1.filter isCode, c.before args0 about1 = true := by
  rw [codes_eq]
  intro c hc
  simp only [codes1, List.mem_cons, List.not_mem_nil, or_false] at hc
  rcases hc with rfl | rfl | rfl | rfl | rfl | rfl | rfl | rfl | rfl | rfl | rfl | rfl | rfl | rfl | rfl
  · exact w_c0
  · exact w_c1
  · exact w_c2
  · exact w_c3
  · exact w_c4
  · exact w_c5
  · exact w_c6
  · exact w_c7
  · exact w_c8
  · exact w_c9
  · exact w_c10
  · exact w_c11
  · exact w_c12
  · exact w_c13
  · exact w_c14
set_option maxRecDepth 65536 in
theorem w_t1 : (words1.take 24).all (fun c => isCode c || c.before args0 about1) = true := by decide +kernel
set_option maxRecDepth 65536 in
theorem w_t2 : ((words1.drop 24).take 24).all (fun c => isCode c || c.before args0 about1) = true := by decide +kernel
set_option maxRecDepth 65536 in
theorem w_t3 : (((words1.drop 24).drop 24).take 24).all (fun c => isCode c || c.before args0 about1) = true := by decide +kernel
set_option maxRecDepth 65536 in
theorem w_t4 : ((((words1.drop 24).drop 24).drop 24).take 24).all (fun c => isCode c || c.before args0 about1) = true := by decide +kernel
set_option maxRecDepth 65536 in
theorem w_t5 : ((((words1.drop 24).drop 24).drop 24).drop 24).all (fun c => isCode c || c.before args0 about1) = true := by decide +kernel
theorem w_tables : (allAtoms (Jvm.Cond.code x code maxLocals ret :: tables_1)).before args0 about1 = true := by
  rw [allAtoms_all]
  show words1.all (fun c => c.before args0 about1) = true
  refine all_split ?_ w_codes
  rw [← List.take_append_drop 24 words1, List.all_append, w_t1, ← List.take_append_drop 24 (words1.drop 24), List.all_append, w_t2, ← List.take_append_drop 24 ((words1.drop 24).drop 24), List.all_append, w_t3, ← List.take_append_drop 24 (((words1.drop 24).drop 24).drop 24), List.all_append, w_t4, w_t5]
  rfl
set_option maxRecDepth 65536 in
theorem w_rest : rest_1_c.before args0 about1 = true := by decide +kernel
set_option maxRecDepth 65536 in
theorem w_case : (Jvm.Cond.and given_1 narrow_1).before args0 about1 = true := by decide +kernel
theorem w_applies : (headSpec (Jvm.Cond.code x code maxLocals ret :: tables_1) room_1).applies x e0.platform about1 = true :=
  (Spec.applies_iff w_frames).mpr ⟨w_running, w_runnable, w_alone, w_named, w_hears, w_ripe, w_room, w_tables⟩
theorem atStart : AtStart classFile x code maxLocals ret World_1 tables_1 room_1 Calls_1 rest_1 Pre_1 launch0 p0 e0 about1 theMethod args0 below0 :=
  ⟨lists_1, trivial, launch0.admits_env _ _ _, launch0.least_env, fairChoices_fair.cas, fairChoices_fair.clock, w_frames, w_args, w_heap, w_applies, trivial, w_rest, w_case⟩
end start1
theorem witness_1 : WitnessClaimed_1 := ⟨start1.p0, start1.e0, start1.about1, start1.theMethod, start1.args0, start1.below0, start1.atStart⟩
end Jvm.Pilot.@@N@@
