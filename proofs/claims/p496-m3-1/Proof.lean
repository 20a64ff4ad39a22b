import JvmDerived
import JvmDerived.Pilot.@@N@@Statement
import JvmDerived.Pilot.@@N@@Code
set_option linter.unusedVariables false
set_option linter.unusedSimpArgs false
namespace Jvm.OwnGo
open Jvm Jvm.ClassFile Sem Op Lib Jvm.Free Jvm.Stand Jvm.LawKit Jvm.RoadKit Bundle
/-! THE GO KIT: a walk of a body told backwards: 'Go k h os cells slots pc Ls st': from pc with these locals and this stack, over the heap h, the body comes to its end as its contract says. -/
abbrev QT : Type := Option Value → Heap → List Addr → Prop
abbrev KT : Type := Program × Launch × Env × Room × State × MethodId × Array Value × List Frame × Method × Code × State × List (String × Nat) × Bool × List Addr × QT
def Own (Z : State) (h0 : Heap) (EL : List (String × Nat)) (wr : List Addr) (vm : Vm) (h : Heap) (x : Addr) : Prop :=
  Safe Z EL vm h x ∧ Z.heap.size ≤ x ∧ x < h.size ∧ (x ∈ wr ∨ h0.size ≤ x)
def Done (Z : State) (EL : List (String × Nat)) (wd : Bool) (R : Room) (wr : List Addr) (Q : QT) (s : State) (o : Outcome) (s' : State) : Prop :=
  ∃ v L os, o = .returned v ∧ Q v s'.heap os ∧ (∀ x ∈ os, Safe Z EL s'.vm s'.heap x ∧ s.heap.size ≤ x ∧ x < s'.heap.size) ∧ Keep s.heap s'.heap wr ∧ Fr Z.heap.size L ∧
    CHr Z EL s.vm s.heap s'.vm s'.heap ∧ ReturnedEndW s o s' L R.cells R.slots ∧ (wd = false → FrameEnd s o s' L R.cells R.slots)
def Fen (p : Program) (e : Env) (below : List Frame) (P : Outcome → State → Prop) (A : State) : Prop :=
  ∃ s' o, Steps p.tables e below A s' ∧ s'.status = .running ∧ Ended s' below o ∧ P o s'
theorem Fen.of {p : Program} {e : Env} {below : List Frame} {P : Outcome → State → Prop} {A B : State} (st : ∀ t, Steps p.tables e below B t → Steps p.tables e below A t) (F : Fen p e below P B) : Fen p e below P A := by
  obtain ⟨s', o, h1, h2⟩ := F
  exact ⟨s', o, st _ h1, h2⟩
def Go : KT → Heap → List Addr → Nat → Nat → Nat → Array Slot → List Value → Prop :=
  fun ⟨p, l, e, R, s, m, args, below, meth, c, Z, EL, wd, wr, Q⟩ h os cells slots pc Ls st =>
    ∀ (T : State) (locs : List Loc) (vm : Vm), Stand p l e R (s.setVm vm) m args below meth c T locs cells slots → T.heap = h → Fr Z.heap.size locs → s.Since vm h.size → (wd = false → s.WarmedH vm) →
      CHr Z EL s.vm s.heap vm h → Keep s.heap h wr → (∀ x ∈ os, Own Z s.heap EL wr vm h x) → Fen p e below (Done Z EL wd R wr Q s) (T.setTop (mkF m pc Ls st))
def Ctx (k : KT) (l : Launch) (y : MethodName) (bytes : ByteArray) (maxL : Nat) (ret : Option FieldType) (R : Room) (Z : State) (a0 : Array Value) (EL : List (String × Nat)) (wd : Bool) (wr : List Addr) (h0 : Heap) (Q : QT) : Prop :=
  match k with
  | ⟨p, l', e, R', s, m, args, below, meth, c, Z', EL', wd', wr', Q'⟩ => (l' = l ∧ R' = R ∧ Z' = Z ∧ EL' = EL ∧ wd' = wd ∧ wr' = wr ∧ Q' = Q ∧ s.heap = h0) ∧ p.tables.exec = Jvm.exec ∧ c.code = bytes ∧ c.maxLocals = maxL ∧ meth.sig.returnType = ret ∧
      meth.locks = false ∧ meth.name = y.name ∧ Z'.Warmed39 s.vm ∧ s.vm.findClass y.cls = some m.cls ∧ EW Z' a0 EL' ∧ Ext Z'.heap s.heap ∧ (∀ x ∈ wr, Z'.heap.size ≤ x)
/-- a body's contract -/
def Con (l : Launch) (Z : State) (EL : List (String × Nat)) (wd : Bool) (y : MethodName) (bytes : ByteArray) (maxL : Nat) (ret : Option FieldType) (rm : Room) (ws : List Jvm.Cond) (as' : Array Value) (h : Heap) (wr : List Addr) (Q : QT) : Prop :=
  MetFree l y (head1 (Cond.code y bytes maxL ret :: ws) rm) (fun a U => a = as' ∧ Z.Warmed39 U.vm ∧ U.heap = h ∧ CHv Z EL U.vm h ∧ Ext Z.heap h ∧ ∀ x ∈ wr, Safe Z EL U.vm h x ∧ Z.heap.size ≤ x ∧ x < h.size) (fun _ _ _ _ _ => True)
    (fun _ U o U' => Done Z EL wd rm wr Q U o U')
section Base
variable {p : Program} {l : Launch} {e : Env} {R : Room} {s : State} {m : MethodId} {args : Array Value} {below : List Frame} {meth : Method} {c : Code} {T T' : State} {locs locs' : List Loc} {cells slots cells' slots' : Nat}
variable {Z : State} {a0 : Array Value} {EL : List (String × Nat)} {wd : Bool} {wr ws os : List Addr} {h h' h0 : Heap} {vm vm' : Vm} {Q : QT}
theorem Since.up {n n' : Nat} (S : s.Since vm n) (q : n ≤ n') : s.Since vm n' := ⟨S.1, fun j p hj hp => ⟨(S.2 j p hj hp).1, Nat.lt_of_lt_of_le (S.2 j p hj hp).2 q⟩⟩
theorem Own.chr {x : Addr} (O : Own Z h0 EL wr vm h x) (A : CHr Z EL vm h vm' h') : Own Z h0 EL wr vm' h' x := ⟨A.safe O.2.2.1 O.1, O.2.1, Nat.lt_of_lt_of_le O.2.2.1 A.2.1, O.2.2.2⟩
theorem keepOs (K : Keep h0 h wr) (K' : Keep h h' ws) (ow : ∀ x ∈ os, Own Z h0 EL wr vm h x) (q : ∀ x ∈ ws, x ∈ os) : Keep h0 h' wr := K.trans K' fun x hx => (ow x (q x hx)).2.2.2
theorem Keep.ofExt (E : Ext h h') : Keep h h' ws := (Keep.refl h ws).ext E
theorem safeOs (ow : ∀ x ∈ os, Own Z h0 EL wr vm h x) (q : ∀ x ∈ ws, x ∈ os) : ∀ x ∈ ws, Safe Z EL vm h x := fun x hx => (ow x (q x hx)).1
end Base
/-! decode facts -/
def De (b : ByteArray) (pc : Nat) (i : Instr) (n pc' : Nat) : Prop := decode b pc = .ok (i, n) ∧ pc' = pc + n
def DeJ (b : ByteArray) (pc : Nat) (i : Int → Instr) (pc' pcT : Nat) : Prop := ∃ o : Int, decode b pc = .ok (i o, 3) ∧ pc' = pc + 3 ∧ 0 ≤ (pc : Int) + o ∧ ((pc : Int) + o).toNat = pcT
/-! facts of the heap: an object by its fields, an array by its values -/
abbrev FL : Type := List (String × String × String)
def Obj (Z : State) (h : Heap) (a : Addr) (C : String) (F : FL) (vs : List Value) : Prop := Exa Z h a C ∧ F.length = vs.length ∧ ∀ (i : Nat) (q : String × String × String) (v : Value), F[i]? = some q → vs[i]? = some v → Fld Z h a q.1 q.2.1 q.2.2 v
def Av (Z : State) (h : Heap) (a : Addr) (ty : FieldType) (vs : List Value) : Prop := ∃ (k : ClassId) (z : Int32), Arv Z h a k ty z vs (defaultValue ty) ∧ z.toNatClampNeg = vs.length
def LaidL (Z : State) (a0 : Array Value) (C : String) : FL → Prop
  | [] => True
  | q :: r => (Laid Z a0 C q.1 q.2.1 q.2.2 ∧ ∃ t, parseFieldDescriptor q.2.2 = some t) ∧ LaidL Z a0 C r
section Facts
variable {Z : State} {a0 : Array Value} {h h' : Heap} {a b : Addr} {C : String} {F : FL} {vs : List Value} {ws : List Addr} {ty : FieldType}
theorem LaidL.at {q : String × String × String} : ∀ {F : FL}, LaidL Z a0 C F → q ∈ F → Laid Z a0 C q.1 q.2.1 q.2.2 ∧ ∃ t, parseFieldDescriptor q.2.2 = some t
  | [], _, hq => nomatch hq
  | x :: r, L, hq => by
    rcases List.mem_cons.mp hq with rfl | hq
    · exact L.1
    · exact LaidL.at L.2 hq
theorem Obj.lt (O : Obj Z h a C F vs) : a < h.size := O.1.lt
theorem Obj.keep (O : Obj Z h a C F vs) (K : Keep h h' ws) (q : a ∉ ws) : Obj Z h' a C F vs := ⟨O.1.keep K, O.2.1, fun i p v h1 h2 => (O.2.2 i p v h1 h2).keep K q⟩
theorem Obj.k0 (O : Obj Z h a C F vs) (K : Keep h h' []) : Obj Z h' a C F vs := O.keep K nin0
theorem Obj.k1 (O : Obj Z h a C F vs) (K : Keep h h' [b]) (q : a ≠ b) : Obj Z h' a C F vs := O.keep K (ninS q nin0)
theorem Av.lt (O : Av Z h a ty vs) : a < h.size := by obtain ⟨k, z, A, -⟩ := O; exact A.lt
theorem Av.keep (O : Av Z h a ty vs) (K : Keep h h' ws) (q : a ∉ ws) : Av Z h' a ty vs := by obtain ⟨k, z, A, e⟩ := O; exact ⟨k, z, A.keep K q, e⟩
theorem Av.k0 (O : Av Z h a ty vs) (K : Keep h h' []) : Av Z h' a ty vs := O.keep K nin0
theorem Av.k1 (O : Av Z h a ty vs) (K : Keep h h' [b]) (q : a ≠ b) : Av Z h' a ty vs := O.keep K (ninS q nin0)
theorem Obj.new {A : Exa Z h a C} (D : ∀ {O nm d : String} {ty : FieldType}, Laid Z a0 C O nm d → parseFieldDescriptor d = some ty → Fld Z h a O nm d (defaultValue ty)) (L : LaidL Z a0 C F) (dv : F.map (fun q => (parseFieldDescriptor q.2.2).map defaultValue) = vs.map some) : Obj Z h a C F vs := by
  refine ⟨A, by simpa using congrArg List.length dv, fun i q v h1 h2 => ?_⟩
  obtain ⟨l1, t, l2⟩ := L.at (List.mem_of_getElem? h1)
  have e := congrArg (fun l => l[i]?) dv
  simp only [List.getElem?_map, h1, h2, Option.map_some, l2, Option.some.injEq] at e
  rw [← e]; exact D l1 l2
theorem nodup_ne {α : Type} : ∀ {l : List α} {i j : Nat} {x y : α}, l.Nodup → l[i]? = some x → l[j]? = some y → i ≠ j → x ≠ y := fun {l i j x y} hn h1 h2 hij e => by
  subst e
  obtain ⟨hi, e1⟩ := List.getElem?_eq_some_iff.mp h1
  obtain ⟨hj, e2⟩ := List.getElem?_eq_some_iff.mp h2
  exact hij ((List.getElem_inj hn).mp (e1.trans e2.symm))
theorem Obj.put {q : String × String × String} {v : Value} {i : Nat} (O : Obj Z h a C F vs) (W : Wr h h' a (RoadKit.slotOf Z q.1 q.2.1 q.2.2) v) (hq : F[i]? = some q) (L : LaidL Z a0 C F) (nd : (F.map (fun q => q.2.1)).Nodup) : Obj Z h' a C F (vs.set i v) := by
  refine ⟨O.1.wr W, by simpa using O.2.1, fun j p w h1 h2 => ?_⟩
  obtain ⟨l1, t, l2⟩ := L.at (List.mem_of_getElem? hq)
  obtain ⟨m1, u, m2⟩ := L.at (List.mem_of_getElem? h1)
  have hj : j < vs.length := by rw [← O.2.1]; exact (List.getElem?_eq_some_iff.mp h1).1
  by_cases e : i = j
  · subst e
    rw [hq] at h1; cases h1
    simp [hj] at h2; subst h2
    exact (O.2.2 i q _ hq (List.getElem?_eq_getElem hj)).same W
  · rw [List.getElem?_set_ne e] at h2
    refine (O.2.2 j p w h1 h2).other W (Or.inr ?_)
    have hn : p.2.1 ≠ q.2.1 := nodup_ne nd (i := j) (j := i) (by simp [h1]) (by simp [hq]) (fun z => e z.symm)
    exact slot_ne m1 l1 hn m2 l2
theorem Av.len (V : Av Z h a ty vs) : vs.length < 2147483648 := by
  obtain ⟨k, z, ⟨c, A, r1, r2, r3, H, G⟩, e⟩ := V
  rw [← e]; exact (back32 r3).2
theorem Av.lenI {bs : List Int32} (V : Av Z h a ty (List.map Value.int bs)) : bs.length < 2147483648 := by have := V.len; rwa [List.length_map] at this
theorem Av.new {k : ClassId} {z : Int32} (A : Arr Z h a (newA k ty z) ty) (q : ¬ z < 0) {n : Nat} (hn : z.toNatClampNeg = n) : Av Z h a ty (List.replicate n (defaultValue ty)) :=
  ⟨k, z, by have := (Arv.new A q).pad (pad_rep [] (defaultValue ty) n); simpa using this, by simpa using hn⟩
theorem Av.fit (V : Av Z h a ty vs) {i : Nat} {v : Value} (hv : vs[i]? = some v) : fits ty v = true := by
  obtain ⟨k, z, ⟨c, A, r1, r2, r3, H, G⟩, e⟩ := V
  have hi := (List.getElem?_eq_some_iff.mp hv).1
  have g := G i (by rw [r2, e]; exact hi)
  rw [List.getD_eq_getElem?_getD, hv] at g; exact g
end Facts
/-- a Latin-1 String: its object a, its bytes at t -/
def fStr : FL := [("java/lang/String", "value", "[B"), ("java/lang/String", "coder", "B")]
def Str (Z : State) (h : Heap) (a t : Addr) (bs : List Int32) : Prop := Obj Z h a "java/lang/String" fStr [.ref t, .int 0] ∧ Av Z h t .byte (bs.map .int)
section StrFacts
variable {Z : State} {h h' : Heap} {a t : Addr} {bs : List Int32} {ws : List Addr}
theorem Str.exa (S : Str Z h a t bs) : Exa Z h a "java/lang/String" := S.1.1
theorem Str.lt (S : Str Z h a t bs) : a < h.size := S.1.lt
theorem Str.lt1 (S : Str Z h a t bs) : t < h.size := S.2.lt
theorem Str.keep (S : Str Z h a t bs) (K : Keep h h' ws) (q1 : a ∉ ws) (q2 : t ∉ ws) : Str Z h' a t bs := ⟨S.1.keep K q1, S.2.keep K q2⟩
theorem Str.k0 (S : Str Z h a t bs) (K : Keep h h' []) : Str Z h' a t bs := S.keep K nin0 nin0
theorem Fld.det {Z : State} {h : Heap} {a : Addr} {C n d : String} {v w : Value} (F : Fld Z h a C n d v) (G : Fld Z h a C n d w) : v = w := Decidable.byContradiction fun q => Fld.ne F G q rfl
theorem Av.det {Z : State} {h : Heap} {a : Addr} {ty : FieldType} {vs vs' : List Value} (V : Av Z h a ty vs) (V' : Av Z h a ty vs') : vs = vs' := by
  obtain ⟨k, z, ⟨c, A, r1, r2, r3, H, G⟩, e⟩ := V
  obtain ⟨k', z', ⟨c', A', r1', r2', r3', H', G'⟩, e'⟩ := V'
  cases A.1.symm.trans A'.1
  have hl : vs.length = vs'.length := by rw [← e, ← e', ← r2, ← r2']
  refine List.ext_getElem hl fun i h1 h2 => ?_
  have a1 := H i (by rw [r2, e]; exact h1)
  have a2 := H' i (by rw [r2', e']; exact h2)
  rw [a1] at a2
  simpa [List.getD_eq_getElem?_getD, h1, h2] using a2
theorem map_int_inj {xs ys : List Int32} (q : xs.map Value.int = ys.map Value.int) : xs = ys := (List.map_inj_right (fun _ _ z => Value.int.inj z)).mp q
theorem Str.det {bs' : List Int32} {t' : Addr} (S : Str Z h a t bs) (S' : Str Z h a t' bs') : t = t' ∧ bs = bs' := by
  have e : (Value.ref t) = .ref t' := Fld.det (S.1.2.2 0 _ _ rfl rfl) (S'.1.2.2 0 _ _ rfl rfl)
  cases e
  exact ⟨rfl, map_int_inj (Av.det S.2 S'.2)⟩
end StrFacts
/-- an array of references, whose class's components are C's -/
def Avr (Z : State) (h : Heap) (a : Addr) (C : String) (vs : List Value) : Prop := ∃ (k : ClassId) (z : Int32), Arv Z h a k (.object C) z vs .null ∧ z.toNatClampNeg = vs.length ∧ Ovr Z k C
theorem Avr.av {Z : State} {h : Heap} {a : Addr} {C : String} {vs : List Value} (V : Avr Z h a C vs) : Av Z h a (.object C) vs := by obtain ⟨k, z, A, e, -⟩ := V; exact ⟨k, z, A, e⟩
theorem Avr.lt {Z : State} {h : Heap} {a : Addr} {C : String} {vs : List Value} (V : Avr Z h a C vs) : a < h.size := V.av.lt
theorem Avr.keep {Z : State} {h h' : Heap} {a : Addr} {C : String} {vs : List Value} {ws : List Addr} (V : Avr Z h a C vs) (K : Keep h h' ws) (q : a ∉ ws) : Avr Z h' a C vs := by obtain ⟨k, z, A, e, O⟩ := V; exact ⟨k, z, A.keep K q, e, O⟩
theorem Avr.k0 {Z : State} {h h' : Heap} {a : Addr} {C : String} {vs : List Value} (V : Avr Z h a C vs) (K : Keep h h' []) : Avr Z h' a C vs := V.keep K nin0
theorem cat_ref {v : Value} (q : v.isRef = true) : v.category = 1 := by rcases ref_cases q with rfl | ⟨a, rfl⟩ <;> rfl
theorem catI (x : Int32) : (Value.int x).category = 1 := rfl
theorem catJ (x : Int64) : (Value.long x).category = 2 := rfl
theorem catD (x : UInt64) : (Value.double x).category = 2 := rfl
theorem catR (a : Addr) : (Value.ref a).category = 1 := rfl
theorem catN : (Value.null).category = 1 := rfl
theorem fits_refv {ty : FieldType} {v : Value} (ht : ty.isReference = true) (hv : v.isRef = true) : fits ty v = true := by rcases ref_cases hv with rfl | ⟨a, rfl⟩ <;> cases ty <;> first | rfl | cases ht
theorem nar01 {z : Int32} (q : z = 0 ∨ z = 1) : narrow .boolean (.int z) = .int z ∧ fits .boolean (.int z) = true := by rcases q with rfl | rfl <;> exact ⟨rfl, rfl⟩
/-- a local that holds nothing or one word -/
def Sl (s : Slot) : Prop := s = .unset ∨ ∃ v, s = .val v ∧ v.category = 1
theorem Sl.u : Sl .unset := Or.inl rfl
theorem Sl.val {v : Value} (q : v.category = 1) : Sl (.val v) := Or.inr ⟨v, rfl, q⟩
theorem sto1 {Ls Ls' : Array Slot} {n : Nat} {v : Value} {s : Slot} (hold : Ls[n]? = some s) (hs : Sl s) (hv : v.category = 1) (e : Ls.setIfInBounds n (.val v) = Ls') : storeLocals Ls n v = some Ls' := e ▸ XS.store1 hold hs hv
section Small
theorem nI_int {n : Nat} (q : n < 2147483648) : (Int32.ofNat n).toInt = n := Int32.toInt_ofNat_of_lt q
theorem nI_nat {n : Nat} (q : n < 2147483648) : (Int32.ofNat n).toNatClampNeg = n := by rw [Int32.toNatClampNeg, nI_int q]; rfl
theorem nI_nn {n : Nat} (q : n < 2147483648) : ¬ Int32.ofNat n < 0 := by rw [Int32.lt_iff_toInt_lt, nI_int q]; show ¬ (n : Int) < 0; omega
theorem nI_lt {i n : Nat} (q1 : i < 2147483648) (q2 : n < 2147483648) : Int32.ofNat i < Int32.ofNat n ↔ i < n := by rw [Int32.lt_iff_toInt_lt, nI_int q1, nI_int q2]; omega
theorem nI_eq {i n : Nat} (q1 : i < 2147483648) (q2 : n < 2147483648) : Int32.ofNat i = Int32.ofNat n ↔ i = n := by rw [← Int32.toInt_inj, nI_int q1, nI_int q2]; omega
theorem nI_succ (i : Nat) : Int32.ofNat i + Int32.ofInt 1 = Int32.ofNat (i + 1) := by rw [Int32.ofNat_add]; rfl
theorem nI_nn' {x : Int32} (q : ¬ x < 0) : x = Int32.ofNat x.toNatClampNeg ∧ x.toNatClampNeg < 2147483648 := ⟨(back32 q).1.symm, (back32 q).2⟩
end Small
section Steps
variable {l : Launch} {y : MethodName} {bytes : ByteArray} {maxL : Nat} {ret : Option FieldType} {R : Room} {Z : State} {a0 : Array Value} {EL : List (String × Nat)} {wd : Bool} {wr : List Addr} {h0 : Heap} {Q : QT} {h : Heap} {os : List Addr} {cells slots : Nat} {Ls : Array Slot} {st : List Value}
theorem Go.pure {k : KT} (C : Ctx k l y bytes maxL ret R Z a0 EL wd wr h0 Q) {pc pc' : Nat} {Ls' : Array Slot} {st' : List Value}
    (hs : ∀ {p : Program} {e : Env} {below : List Frame} {T target : State} {m : MethodId} {c : Code}, p.tables.exec = Jvm.exec → c.code = bytes → At T m c below → Steps p.tables e below (T.setTop (mkF m pc' Ls' st')) target → Steps p.tables e below (T.setTop (mkF m pc Ls st)) target)
    (K : Go k h os cells slots pc' Ls' st') : Go k h os cells slots pc Ls st := by
  obtain ⟨p, l', e, R', s, m, args, below, meth, c, Z', EL', wd', wr', Q'⟩ := k
  obtain ⟨-, hx, hc, -⟩ := C
  intro T locs vm X e0 N S w A Kp ow
  exact Fen.of (fun t kt => hs hx hc X.here kt) (K T locs vm X e0 N S w A Kp ow)
theorem Go.iload {k : KT} (C : Ctx k l y bytes maxL ret R Z a0 EL wd wr h0 Q) {pc pc' : Nat} {n : Nat} {x : Int32} (hd : De bytes pc (.iload n) 2 pc') (hl : Ls[n]? = some (.val (.int x))) (K : Go k h os cells slots pc' Ls (.int x :: st)) : Go k h os cells slots pc Ls (st) :=
  Go.pure C (fun hx hc X kt => by obtain ⟨h1, rfl⟩ := hd; exact XS.iload X hx rfl (hb hc h1) hl kt) K
theorem Go.iloadN {k : KT} (C : Ctx k l y bytes maxL ret R Z a0 EL wd wr h0 Q) {pc pc' : Nat} {n : Fin 4} {x : Int32} (hd : De bytes pc (.iload_n n) 1 pc') (hl : Ls[n.val]? = some (.val (.int x))) (K : Go k h os cells slots pc' Ls (.int x :: st)) : Go k h os cells slots pc Ls (st) :=
  Go.pure C (fun hx hc X kt => by obtain ⟨h1, rfl⟩ := hd; exact XS.iloadN X hx rfl (hb hc h1) hl kt) K
theorem Go.lload {k : KT} (C : Ctx k l y bytes maxL ret R Z a0 EL wd wr h0 Q) {pc pc' : Nat} {n : Nat} {x : Int64} (hd : De bytes pc (.lload n) 2 pc') (hl : Ls[n]? = some (.val (.long x))) (K : Go k h os cells slots pc' Ls (.long x :: st)) : Go k h os cells slots pc Ls (st) :=
  Go.pure C (fun hx hc X kt => by obtain ⟨h1, rfl⟩ := hd; exact XS.lload X hx rfl (hb hc h1) hl kt) K
theorem Go.lloadN {k : KT} (C : Ctx k l y bytes maxL ret R Z a0 EL wd wr h0 Q) {pc pc' : Nat} {n : Fin 4} {x : Int64} (hd : De bytes pc (.lload_n n) 1 pc') (hl : Ls[n.val]? = some (.val (.long x))) (K : Go k h os cells slots pc' Ls (.long x :: st)) : Go k h os cells slots pc Ls (st) :=
  Go.pure C (fun hx hc X kt => by obtain ⟨h1, rfl⟩ := hd; exact XS.lloadN X hx rfl (hb hc h1) hl kt) K
theorem Go.aload {k : KT} (C : Ctx k l y bytes maxL ret R Z a0 EL wd wr h0 Q) {pc pc' : Nat} {n : Nat} {v : Value} (hd : De bytes pc (.aload n) 2 pc') (hl : Ls[n]? = some (.val v)) (hv : v.isRef = true) (K : Go k h os cells slots pc' Ls (v :: st)) : Go k h os cells slots pc Ls (st) :=
  Go.pure C (fun hx hc X kt => by obtain ⟨h1, rfl⟩ := hd; exact XS.aload X hx rfl (hb hc h1) hl hv kt) K
theorem Go.aloadN {k : KT} (C : Ctx k l y bytes maxL ret R Z a0 EL wd wr h0 Q) {pc pc' : Nat} {n : Fin 4} {v : Value} (hd : De bytes pc (.aload_n n) 1 pc') (hl : Ls[n.val]? = some (.val v)) (hv : v.isRef = true) (K : Go k h os cells slots pc' Ls (v :: st)) : Go k h os cells slots pc Ls (st) :=
  Go.pure C (fun hx hc X kt => by obtain ⟨h1, rfl⟩ := hd; exact XS.aloadN X hx rfl (hb hc h1) hl hv kt) K
theorem Go.istore {k : KT} (C : Ctx k l y bytes maxL ret R Z a0 EL wd wr h0 Q) {pc pc' : Nat} {n : Nat} {x : Int32} {Ls' : Array Slot} (hd : De bytes pc (.istore n) 2 pc') (hl : storeLocals Ls n (.int x) = some Ls') (K : Go k h os cells slots pc' Ls' (st)) : Go k h os cells slots pc Ls (.int x :: st) :=
  Go.pure C (fun hx hc X kt => by obtain ⟨h1, rfl⟩ := hd; exact XS.istore X hx rfl (hb hc h1) rfl hl kt) K
theorem Go.istoreN {k : KT} (C : Ctx k l y bytes maxL ret R Z a0 EL wd wr h0 Q) {pc pc' : Nat} {n : Fin 4} {x : Int32} {Ls' : Array Slot} (hd : De bytes pc (.istore_n n) 1 pc') (hl : storeLocals Ls n.val (.int x) = some Ls') (K : Go k h os cells slots pc' Ls' (st)) : Go k h os cells slots pc Ls (.int x :: st) :=
  Go.pure C (fun hx hc X kt => by obtain ⟨h1, rfl⟩ := hd; exact XS.istoreN X hx rfl (hb hc h1) rfl hl kt) K
theorem Go.lstore {k : KT} (C : Ctx k l y bytes maxL ret R Z a0 EL wd wr h0 Q) {pc pc' : Nat} {n : Nat} {x : Int64} {Ls' : Array Slot} (hd : De bytes pc (.lstore n) 2 pc') (hl : storeLocals Ls n (.long x) = some Ls') (K : Go k h os cells slots pc' Ls' (st)) : Go k h os cells slots pc Ls (.long x :: st) :=
  Go.pure C (fun hx hc X kt => by obtain ⟨h1, rfl⟩ := hd; exact XS.lstore X hx rfl (hb hc h1) rfl hl kt) K
theorem Go.lstoreN {k : KT} (C : Ctx k l y bytes maxL ret R Z a0 EL wd wr h0 Q) {pc pc' : Nat} {n : Fin 4} {x : Int64} {Ls' : Array Slot} (hd : De bytes pc (.lstore_n n) 1 pc') (hl : storeLocals Ls n.val (.long x) = some Ls') (K : Go k h os cells slots pc' Ls' (st)) : Go k h os cells slots pc Ls (.long x :: st) :=
  Go.pure C (fun hx hc X kt => by obtain ⟨h1, rfl⟩ := hd; exact XS.lstoreN X hx rfl (hb hc h1) rfl hl kt) K
theorem Go.astore {k : KT} (C : Ctx k l y bytes maxL ret R Z a0 EL wd wr h0 Q) {pc pc' : Nat} {n : Nat} {v : Value} {Ls' : Array Slot} (hd : De bytes pc (.astore n) 2 pc') (hv : v.isRef = true) (hl : storeLocals Ls n v = some Ls') (K : Go k h os cells slots pc' Ls' (st)) : Go k h os cells slots pc Ls (v :: st) :=
  Go.pure C (fun hx hc X kt => by obtain ⟨h1, rfl⟩ := hd; exact XS.astore X hx rfl (hb hc h1) rfl hv hl kt) K
theorem Go.astoreN {k : KT} (C : Ctx k l y bytes maxL ret R Z a0 EL wd wr h0 Q) {pc pc' : Nat} {n : Fin 4} {v : Value} {Ls' : Array Slot} (hd : De bytes pc (.astore_n n) 1 pc') (hv : v.isRef = true) (hl : storeLocals Ls n.val v = some Ls') (K : Go k h os cells slots pc' Ls' (st)) : Go k h os cells slots pc Ls (v :: st) :=
  Go.pure C (fun hx hc X kt => by obtain ⟨h1, rfl⟩ := hd; exact XS.astoreN X hx rfl (hb hc h1) rfl hv hl kt) K
theorem Go.iinc {k : KT} (C : Ctx k l y bytes maxL ret R Z a0 EL wd wr h0 Q) {pc pc' : Nat} {n : Nat} {cst : Int} {x : Int32} (x' : Int32) {Ls' : Array Slot} (hd : De bytes pc (.iinc n cst) 3 pc') (hl : Ls[n]? = some (.val (.int x))) (hx' : x + Int32.ofInt cst = x') (hl' : storeLocals Ls n (.int x') = some Ls') (K : Go k h os cells slots pc' Ls' (st)) : Go k h os cells slots pc Ls (st) :=
  Go.pure C (fun hx hc X kt => by obtain ⟨h1, rfl⟩ := hd; exact XS.iinc X hx rfl (hb hc h1) hl (by rw [hx']; exact hl') kt) K
theorem Go.iconst {k : KT} (C : Ctx k l y bytes maxL ret R Z a0 EL wd wr h0 Q) {pc pc' : Nat} {i : Int} (v : Int32) (hd : De bytes pc (.iconst i) 1 pc') (hv : Int32.ofInt i = v) (K : Go k h os cells slots pc' Ls (.int v :: st)) : Go k h os cells slots pc Ls (st) :=
  Go.pure C (fun hx hc X kt => by obtain ⟨h1, rfl⟩ := hd; exact XS.iconst X hx rfl (hb hc h1) (by rw [hv]; exact kt)) K
theorem Go.bipush {k : KT} (C : Ctx k l y bytes maxL ret R Z a0 EL wd wr h0 Q) {pc pc' : Nat} {i : Int} (v : Int32) (hd : De bytes pc (.bipush i) 2 pc') (hv : (Int8.ofInt i).toInt32 = v) (K : Go k h os cells slots pc' Ls (.int v :: st)) : Go k h os cells slots pc Ls (st) :=
  Go.pure C (fun hx hc X kt => by obtain ⟨h1, rfl⟩ := hd; exact XS.bipush X hx rfl (hb hc h1) (by rw [hv]; exact kt)) K
theorem Go.sipush {k : KT} (C : Ctx k l y bytes maxL ret R Z a0 EL wd wr h0 Q) {pc pc' : Nat} {i : Int} (v : Int32) (hd : De bytes pc (.sipush i) 3 pc') (hv : (Int16.ofInt i).toInt32 = v) (K : Go k h os cells slots pc' Ls (.int v :: st)) : Go k h os cells slots pc Ls (st) :=
  Go.pure C (fun hx hc X kt => by obtain ⟨h1, rfl⟩ := hd; exact XS.sipush X hx rfl (hb hc h1) (by rw [hv]; exact kt)) K
theorem Go.lconst {k : KT} (C : Ctx k l y bytes maxL ret R Z a0 EL wd wr h0 Q) {pc pc' : Nat} {i : Fin 2} (v : Int64) (hd : De bytes pc (.lconst i) 1 pc') (hv : Int64.ofNat i = v) (K : Go k h os cells slots pc' Ls (.long v :: st)) : Go k h os cells slots pc Ls (st) :=
  Go.pure C (fun hx hc X kt => by obtain ⟨h1, rfl⟩ := hd; exact XS.lconst X hx rfl (hb hc h1) (by rw [hv]; exact kt)) K
theorem Go.aconstNull {k : KT} (C : Ctx k l y bytes maxL ret R Z a0 EL wd wr h0 Q) {pc pc' : Nat}  (hd : De bytes pc (.aconst_null) 1 pc') (K : Go k h os cells slots pc' Ls (.null :: st)) : Go k h os cells slots pc Ls (st) :=
  Go.pure C (fun hx hc X kt => by obtain ⟨h1, rfl⟩ := hd; exact XS.aconstNull X hx rfl (hb hc h1) kt) K
theorem Go.iadd {k : KT} (C : Ctx k l y bytes maxL ret R Z a0 EL wd wr h0 Q) {pc pc' : Nat} {x y' : Int32} (hd : De bytes pc (.iadd) 1 pc') (K : Go k h os cells slots pc' Ls (.int (x + y') :: st)) : Go k h os cells slots pc Ls (.int y' :: .int x :: st) :=
  Go.pure C (fun hx hc X kt => by obtain ⟨h1, rfl⟩ := hd; exact XS.iadd X hx rfl (hb hc h1) rfl kt) K
theorem Go.isub {k : KT} (C : Ctx k l y bytes maxL ret R Z a0 EL wd wr h0 Q) {pc pc' : Nat} {x y' : Int32} (hd : De bytes pc (.isub) 1 pc') (K : Go k h os cells slots pc' Ls (.int (x - y') :: st)) : Go k h os cells slots pc Ls (.int y' :: .int x :: st) :=
  Go.pure C (fun hx hc X kt => by obtain ⟨h1, rfl⟩ := hd; exact XS.isub X hx rfl (hb hc h1) rfl kt) K
theorem Go.imul {k : KT} (C : Ctx k l y bytes maxL ret R Z a0 EL wd wr h0 Q) {pc pc' : Nat} {x y' : Int32} (hd : De bytes pc (.imul) 1 pc') (K : Go k h os cells slots pc' Ls (.int (x * y') :: st)) : Go k h os cells slots pc Ls (.int y' :: .int x :: st) :=
  Go.pure C (fun hx hc X kt => by obtain ⟨h1, rfl⟩ := hd; exact XS.imul X hx rfl (hb hc h1) rfl kt) K
theorem Go.iand {k : KT} (C : Ctx k l y bytes maxL ret R Z a0 EL wd wr h0 Q) {pc pc' : Nat} {x y' : Int32} (hd : De bytes pc (.iand) 1 pc') (K : Go k h os cells slots pc' Ls (.int (x &&& y') :: st)) : Go k h os cells slots pc Ls (.int y' :: .int x :: st) :=
  Go.pure C (fun hx hc X kt => by obtain ⟨h1, rfl⟩ := hd; exact XS.iand X hx rfl (hb hc h1) rfl kt) K
theorem Go.ior {k : KT} (C : Ctx k l y bytes maxL ret R Z a0 EL wd wr h0 Q) {pc pc' : Nat} {x y' : Int32} (hd : De bytes pc (.ior) 1 pc') (K : Go k h os cells slots pc' Ls (.int (x ||| y') :: st)) : Go k h os cells slots pc Ls (.int y' :: .int x :: st) :=
  Go.pure C (fun hx hc X kt => by obtain ⟨h1, rfl⟩ := hd; exact XS.ior X hx rfl (hb hc h1) rfl kt) K
theorem Go.ixor {k : KT} (C : Ctx k l y bytes maxL ret R Z a0 EL wd wr h0 Q) {pc pc' : Nat} {x y' : Int32} (hd : De bytes pc (.ixor) 1 pc') (K : Go k h os cells slots pc' Ls (.int (x ^^^ y') :: st)) : Go k h os cells slots pc Ls (.int y' :: .int x :: st) :=
  Go.pure C (fun hx hc X kt => by obtain ⟨h1, rfl⟩ := hd; exact XS.ixor X hx rfl (hb hc h1) rfl kt) K
theorem Go.ishl {k : KT} (C : Ctx k l y bytes maxL ret R Z a0 EL wd wr h0 Q) {pc pc' : Nat} {x y' : Int32} (hd : De bytes pc (.ishl) 1 pc') (K : Go k h os cells slots pc' Ls (.int (x <<< (y' &&& 31)) :: st)) : Go k h os cells slots pc Ls (.int y' :: .int x :: st) :=
  Go.pure C (fun hx hc X kt => by obtain ⟨h1, rfl⟩ := hd; exact XS.ishl X hx rfl (hb hc h1) rfl kt) K
theorem Go.ishr {k : KT} (C : Ctx k l y bytes maxL ret R Z a0 EL wd wr h0 Q) {pc pc' : Nat} {x y' : Int32} (hd : De bytes pc (.ishr) 1 pc') (K : Go k h os cells slots pc' Ls (.int (x >>> (y' &&& 31)) :: st)) : Go k h os cells slots pc Ls (.int y' :: .int x :: st) :=
  Go.pure C (fun hx hc X kt => by obtain ⟨h1, rfl⟩ := hd; exact XS.ishr X hx rfl (hb hc h1) rfl kt) K
theorem Go.iushr {k : KT} (C : Ctx k l y bytes maxL ret R Z a0 EL wd wr h0 Q) {pc pc' : Nat} {x y' : Int32} (hd : De bytes pc (.iushr) 1 pc') (K : Go k h os cells slots pc' Ls (.int ((x.toUInt32 >>> (y' &&& 31).toUInt32).toInt32) :: st)) : Go k h os cells slots pc Ls (.int y' :: .int x :: st) :=
  Go.pure C (fun hx hc X kt => by obtain ⟨h1, rfl⟩ := hd; exact XS.iushr X hx rfl (hb hc h1) rfl kt) K
theorem Go.ladd {k : KT} (C : Ctx k l y bytes maxL ret R Z a0 EL wd wr h0 Q) {pc pc' : Nat} {x y' : Int64} (hd : De bytes pc (.ladd) 1 pc') (K : Go k h os cells slots pc' Ls (.long (x + y') :: st)) : Go k h os cells slots pc Ls (.long y' :: .long x :: st) :=
  Go.pure C (fun hx hc X kt => by obtain ⟨h1, rfl⟩ := hd; exact XS.ladd X hx rfl (hb hc h1) rfl kt) K
theorem Go.lsub {k : KT} (C : Ctx k l y bytes maxL ret R Z a0 EL wd wr h0 Q) {pc pc' : Nat} {x y' : Int64} (hd : De bytes pc (.lsub) 1 pc') (K : Go k h os cells slots pc' Ls (.long (x - y') :: st)) : Go k h os cells slots pc Ls (.long y' :: .long x :: st) :=
  Go.pure C (fun hx hc X kt => by obtain ⟨h1, rfl⟩ := hd; exact XS.lsub X hx rfl (hb hc h1) rfl kt) K
theorem Go.lmul {k : KT} (C : Ctx k l y bytes maxL ret R Z a0 EL wd wr h0 Q) {pc pc' : Nat} {x y' : Int64} (hd : De bytes pc (.lmul) 1 pc') (K : Go k h os cells slots pc' Ls (.long (x * y') :: st)) : Go k h os cells slots pc Ls (.long y' :: .long x :: st) :=
  Go.pure C (fun hx hc X kt => by obtain ⟨h1, rfl⟩ := hd; exact XS.lmul X hx rfl (hb hc h1) rfl kt) K
theorem Go.land {k : KT} (C : Ctx k l y bytes maxL ret R Z a0 EL wd wr h0 Q) {pc pc' : Nat} {x y' : Int64} (hd : De bytes pc (.land) 1 pc') (K : Go k h os cells slots pc' Ls (.long (x &&& y') :: st)) : Go k h os cells slots pc Ls (.long y' :: .long x :: st) :=
  Go.pure C (fun hx hc X kt => by obtain ⟨h1, rfl⟩ := hd; exact XS.land X hx rfl (hb hc h1) rfl kt) K
theorem Go.lor {k : KT} (C : Ctx k l y bytes maxL ret R Z a0 EL wd wr h0 Q) {pc pc' : Nat} {x y' : Int64} (hd : De bytes pc (.lor) 1 pc') (K : Go k h os cells slots pc' Ls (.long (x ||| y') :: st)) : Go k h os cells slots pc Ls (.long y' :: .long x :: st) :=
  Go.pure C (fun hx hc X kt => by obtain ⟨h1, rfl⟩ := hd; exact XS.lor X hx rfl (hb hc h1) rfl kt) K
theorem Go.lxor {k : KT} (C : Ctx k l y bytes maxL ret R Z a0 EL wd wr h0 Q) {pc pc' : Nat} {x y' : Int64} (hd : De bytes pc (.lxor) 1 pc') (K : Go k h os cells slots pc' Ls (.long (x ^^^ y') :: st)) : Go k h os cells slots pc Ls (.long y' :: .long x :: st) :=
  Go.pure C (fun hx hc X kt => by obtain ⟨h1, rfl⟩ := hd; exact XS.lxor X hx rfl (hb hc h1) rfl kt) K
theorem Go.lshl {k : KT} (C : Ctx k l y bytes maxL ret R Z a0 EL wd wr h0 Q) {pc pc' : Nat} {x : Int64} {y' : Int32} (hd : De bytes pc (.lshl) 1 pc') (K : Go k h os cells slots pc' Ls (.long (x <<< (y' &&& 0x3f).toInt64) :: st)) : Go k h os cells slots pc Ls (.int y' :: .long x :: st) :=
  Go.pure C (fun hx hc X kt => by obtain ⟨h1, rfl⟩ := hd; exact XS.lshl X hx rfl (hb hc h1) rfl kt) K
theorem Go.lshr {k : KT} (C : Ctx k l y bytes maxL ret R Z a0 EL wd wr h0 Q) {pc pc' : Nat} {x : Int64} {y' : Int32} (hd : De bytes pc (.lshr) 1 pc') (K : Go k h os cells slots pc' Ls (.long (x >>> (y' &&& 0x3f).toInt64) :: st)) : Go k h os cells slots pc Ls (.int y' :: .long x :: st) :=
  Go.pure C (fun hx hc X kt => by obtain ⟨h1, rfl⟩ := hd; exact XS.lshr X hx rfl (hb hc h1) rfl kt) K
theorem Go.lushr {k : KT} (C : Ctx k l y bytes maxL ret R Z a0 EL wd wr h0 Q) {pc pc' : Nat} {x : Int64} {y' : Int32} (hd : De bytes pc (.lushr) 1 pc') (K : Go k h os cells slots pc' Ls (.long ((x.toUInt64 >>> (y' &&& 0x3f).toInt64.toUInt64).toInt64) :: st)) : Go k h os cells slots pc Ls (.int y' :: .long x :: st) :=
  Go.pure C (fun hx hc X kt => by obtain ⟨h1, rfl⟩ := hd; exact XS.lushr X hx rfl (hb hc h1) rfl kt) K
theorem Go.idiv {k : KT} (C : Ctx k l y bytes maxL ret R Z a0 EL wd wr h0 Q) {pc pc' : Nat} {x y' : Int32} (hd : De bytes pc (.idiv) 1 pc') (hy : y' ≠ 0) (K : Go k h os cells slots pc' Ls (.int (x / y') :: st)) : Go k h os cells slots pc Ls (.int y' :: .int x :: st) :=
  Go.pure C (fun hx hc X kt => by obtain ⟨h1, rfl⟩ := hd; exact XS.idiv X hx rfl (hb hc h1) rfl hy kt) K
theorem Go.irem {k : KT} (C : Ctx k l y bytes maxL ret R Z a0 EL wd wr h0 Q) {pc pc' : Nat} {x y' : Int32} (hd : De bytes pc (.irem) 1 pc') (hy : y' ≠ 0) (K : Go k h os cells slots pc' Ls (.int (x % y') :: st)) : Go k h os cells slots pc Ls (.int y' :: .int x :: st) :=
  Go.pure C (fun hx hc X kt => by obtain ⟨h1, rfl⟩ := hd; exact XS.irem X hx rfl (hb hc h1) rfl hy (by rw [irem_eq_mod x y']; exact kt)) K
theorem Go.ldiv {k : KT} (C : Ctx k l y bytes maxL ret R Z a0 EL wd wr h0 Q) {pc pc' : Nat} {x y' : Int64} (hd : De bytes pc (.ldiv) 1 pc') (hy : y' ≠ 0) (K : Go k h os cells slots pc' Ls (.long (x / y') :: st)) : Go k h os cells slots pc Ls (.long y' :: .long x :: st) :=
  Go.pure C (fun hx hc X kt => by obtain ⟨h1, rfl⟩ := hd; exact XS.ldiv X hx rfl (hb hc h1) rfl hy kt) K
theorem Go.lcmp {k : KT} (C : Ctx k l y bytes maxL ret R Z a0 EL wd wr h0 Q) {pc pc' : Nat} {x y' : Int64} (hd : De bytes pc (.lcmp) 1 pc') (K : Go k h os cells slots pc' Ls (.int (lcmpW x y') :: st)) : Go k h os cells slots pc Ls (.long y' :: .long x :: st) :=
  Go.pure C (fun hx hc X kt => by obtain ⟨h1, rfl⟩ := hd; exact XS.lcmp X hx rfl (hb hc h1) rfl kt) K
theorem Go.ineg {k : KT} (C : Ctx k l y bytes maxL ret R Z a0 EL wd wr h0 Q) {pc pc' : Nat} {x : Int32} (hd : De bytes pc (.ineg) 1 pc') (K : Go k h os cells slots pc' Ls (.int (-x) :: st)) : Go k h os cells slots pc Ls (.int x :: st) :=
  Go.pure C (fun hx hc X kt => by obtain ⟨h1, rfl⟩ := hd; exact XS.ineg X hx rfl (hb hc h1) rfl kt) K
theorem Go.lneg {k : KT} (C : Ctx k l y bytes maxL ret R Z a0 EL wd wr h0 Q) {pc pc' : Nat} {x : Int64} (hd : De bytes pc (.lneg) 1 pc') (K : Go k h os cells slots pc' Ls (.long (-x) :: st)) : Go k h os cells slots pc Ls (.long x :: st) :=
  Go.pure C (fun hx hc X kt => by obtain ⟨h1, rfl⟩ := hd; exact XS.lneg X hx rfl (hb hc h1) rfl kt) K
theorem Go.i2l {k : KT} (C : Ctx k l y bytes maxL ret R Z a0 EL wd wr h0 Q) {pc pc' : Nat} {x : Int32} (hd : De bytes pc (.i2l) 1 pc') (K : Go k h os cells slots pc' Ls (.long (x.toInt64) :: st)) : Go k h os cells slots pc Ls (.int x :: st) :=
  Go.pure C (fun hx hc X kt => by obtain ⟨h1, rfl⟩ := hd; exact XS.i2l X hx rfl (hb hc h1) rfl kt) K
theorem Go.l2i {k : KT} (C : Ctx k l y bytes maxL ret R Z a0 EL wd wr h0 Q) {pc pc' : Nat} {x : Int64} (hd : De bytes pc (.l2i) 1 pc') (K : Go k h os cells slots pc' Ls (.int (x.toInt32) :: st)) : Go k h os cells slots pc Ls (.long x :: st) :=
  Go.pure C (fun hx hc X kt => by obtain ⟨h1, rfl⟩ := hd; exact XS.l2i X hx rfl (hb hc h1) rfl kt) K
theorem Go.i2b {k : KT} (C : Ctx k l y bytes maxL ret R Z a0 EL wd wr h0 Q) {pc pc' : Nat} {x : Int32} (hd : De bytes pc (.i2b) 1 pc') (K : Go k h os cells slots pc' Ls (.int (x.toInt8.toInt32) :: st)) : Go k h os cells slots pc Ls (.int x :: st) :=
  Go.pure C (fun hx hc X kt => by obtain ⟨h1, rfl⟩ := hd; exact XS.i2b X hx rfl (hb hc h1) rfl kt) K
theorem Go.i2s {k : KT} (C : Ctx k l y bytes maxL ret R Z a0 EL wd wr h0 Q) {pc pc' : Nat} {x : Int32} (hd : De bytes pc (.i2s) 1 pc') (K : Go k h os cells slots pc' Ls (.int (x.toInt16.toInt32) :: st)) : Go k h os cells slots pc Ls (.int x :: st) :=
  Go.pure C (fun hx hc X kt => by obtain ⟨h1, rfl⟩ := hd; exact XS.i2s X hx rfl (hb hc h1) rfl kt) K
theorem Go.i2c {k : KT} (C : Ctx k l y bytes maxL ret R Z a0 EL wd wr h0 Q) {pc pc' : Nat} {x : Int32} (hd : De bytes pc (.i2c) 1 pc') (K : Go k h os cells slots pc' Ls (.int (x.toUInt32.toUInt16.toUInt32.toInt32) :: st)) : Go k h os cells slots pc Ls (.int x :: st) :=
  Go.pure C (fun hx hc X kt => by obtain ⟨h1, rfl⟩ := hd; exact XS.i2c X hx rfl (hb hc h1) rfl kt) K
theorem Go.dup {k : KT} (C : Ctx k l y bytes maxL ret R Z a0 EL wd wr h0 Q) {pc pc' : Nat} {v : Value} (hd : De bytes pc (.dup) 1 pc') (hv : v.category = 1) (K : Go k h os cells slots pc' Ls (v :: v :: st)) : Go k h os cells slots pc Ls (v :: st) :=
  Go.pure C (fun hx hc X kt => by obtain ⟨h1, rfl⟩ := hd; exact XS.dup X hx rfl (hb hc h1) rfl hv kt) K
theorem Go.pop {k : KT} (C : Ctx k l y bytes maxL ret R Z a0 EL wd wr h0 Q) {pc pc' : Nat} {v : Value} (hd : De bytes pc (.pop) 1 pc') (hv : v.category = 1) (K : Go k h os cells slots pc' Ls (st)) : Go k h os cells slots pc Ls (v :: st) :=
  Go.pure C (fun hx hc X kt => by obtain ⟨h1, rfl⟩ := hd; exact XS.pop X hx rfl (hb hc h1) rfl hv kt) K
theorem Go.dupX1 {k : KT} (C : Ctx k l y bytes maxL ret R Z a0 EL wd wr h0 Q) {pc pc' : Nat} {v w : Value} (hd : De bytes pc (.dup_x1) 1 pc') (hv : v.category = 1) (hw : w.category = 1) (K : Go k h os cells slots pc' Ls (v :: w :: v :: st)) : Go k h os cells slots pc Ls (v :: w :: st) :=
  Go.pure C (fun hx hc X kt => by obtain ⟨h1, rfl⟩ := hd; exact XS.dupX1 X hx rfl (hb hc h1) rfl hv hw kt) K
theorem Go.swap {k : KT} (C : Ctx k l y bytes maxL ret R Z a0 EL wd wr h0 Q) {pc pc' : Nat} {v w : Value} (hd : De bytes pc (.swap) 1 pc') (hv : v.category = 1) (hw : w.category = 1) (K : Go k h os cells slots pc' Ls (w :: v :: st)) : Go k h os cells slots pc Ls (v :: w :: st) :=
  Go.pure C (fun hx hc X kt => by obtain ⟨h1, rfl⟩ := hd; exact XS.swap X hx rfl (hb hc h1) rfl hv hw kt) K
theorem Go.dup2 {k : KT} (C : Ctx k l y bytes maxL ret R Z a0 EL wd wr h0 Q) {pc pc' : Nat} {v w : Value} (hd : De bytes pc (.dup2) 1 pc') (hv : v.category = 1) (hw : w.category = 1) (K : Go k h os cells slots pc' Ls (v :: w :: v :: w :: st)) : Go k h os cells slots pc Ls (v :: w :: st) :=
  Go.pure C (fun hx hc X kt => by obtain ⟨h1, rfl⟩ := hd; exact XT.dup2 X hx rfl (hb hc h1) rfl hv hw kt) K
theorem Go.goto {k : KT} (C : Ctx k l y bytes maxL ret R Z a0 EL wd wr h0 Q) {pc pc' pcT : Nat} (hd : DeJ bytes pc .goto pc' pcT) (K : Go k h os cells slots pcT Ls st) : Go k h os cells slots pc Ls st :=
  Go.pure C (fun hx hc X kt => by obtain ⟨o, h1, -, h2, h3⟩ := hd; exact XS.goto X hx rfl rfl (hb hc h1) h2 h3 kt) K
theorem Go.ifeq {k : KT} (C : Ctx k l y bytes maxL ret R Z a0 EL wd wr h0 Q) {pc pc' pcT : Nat} {x : Int32} (hd : DeJ bytes pc (.ifCond .eq) pc' pcT) (KT : (x = 0) → Go k h os cells slots pcT Ls st) (KF : ¬ (x = 0) → Go k h os cells slots pc' Ls st) : Go k h os cells slots pc Ls (.int x :: st) := by
  obtain ⟨o, h1, rfl, h2, h3⟩ := hd
  by_cases q : (x = 0)
  · exact Go.pure C (fun hx hc X kt => XS.ifYes X hx rfl rfl (hb hc h1) rfl ((if0 _ _).trans (teq q).1) h2 h3 kt) (KT q)
  · exact Go.pure C (fun hx hc X kt => XS.ifNo X hx rfl (hb hc h1) rfl ((if0 _ _).trans (feq q).1) kt) (KF q)
theorem Go.icmpeq {k : KT} (C : Ctx k l y bytes maxL ret R Z a0 EL wd wr h0 Q) {pc pc' pcT : Nat} {x z : Int32} (hd : DeJ bytes pc (.if_icmp .eq) pc' pcT) (KT : (x = z) → Go k h os cells slots pcT Ls st) (KF : ¬ (x = z) → Go k h os cells slots pc' Ls st) : Go k h os cells slots pc Ls (.int z :: .int x :: st) := by
  obtain ⟨o, h1, rfl, h2, h3⟩ := hd
  by_cases q : (x = z)
  · exact Go.pure C (fun hx hc X kt => XS.icmpYes X hx rfl rfl (hb hc h1) rfl (teq q).1 h2 h3 kt) (KT q)
  · exact Go.pure C (fun hx hc X kt => XS.icmpNo X hx rfl (hb hc h1) rfl (feq q).1 kt) (KF q)
theorem Go.ifne {k : KT} (C : Ctx k l y bytes maxL ret R Z a0 EL wd wr h0 Q) {pc pc' pcT : Nat} {x : Int32} (hd : DeJ bytes pc (.ifCond .ne) pc' pcT) (KT : ¬ (x = 0) → Go k h os cells slots pcT Ls st) (KF : (x = 0) → Go k h os cells slots pc' Ls st) : Go k h os cells slots pc Ls (.int x :: st) := by
  obtain ⟨o, h1, rfl, h2, h3⟩ := hd
  by_cases q : ¬ (x = 0)
  · exact Go.pure C (fun hx hc X kt => XS.ifYes X hx rfl rfl (hb hc h1) rfl ((if0 _ _).trans (feq q).2) h2 h3 kt) (KT q)
  · have q := Decidable.not_not.mp q
    exact Go.pure C (fun hx hc X kt => XS.ifNo X hx rfl (hb hc h1) rfl ((if0 _ _).trans (teq q).2) kt) (KF q)
theorem Go.icmpne {k : KT} (C : Ctx k l y bytes maxL ret R Z a0 EL wd wr h0 Q) {pc pc' pcT : Nat} {x z : Int32} (hd : DeJ bytes pc (.if_icmp .ne) pc' pcT) (KT : ¬ (x = z) → Go k h os cells slots pcT Ls st) (KF : (x = z) → Go k h os cells slots pc' Ls st) : Go k h os cells slots pc Ls (.int z :: .int x :: st) := by
  obtain ⟨o, h1, rfl, h2, h3⟩ := hd
  by_cases q : ¬ (x = z)
  · exact Go.pure C (fun hx hc X kt => XS.icmpYes X hx rfl rfl (hb hc h1) rfl (feq q).2 h2 h3 kt) (KT q)
  · have q := Decidable.not_not.mp q
    exact Go.pure C (fun hx hc X kt => XS.icmpNo X hx rfl (hb hc h1) rfl (teq q).2 kt) (KF q)
theorem Go.iflt {k : KT} (C : Ctx k l y bytes maxL ret R Z a0 EL wd wr h0 Q) {pc pc' pcT : Nat} {x : Int32} (hd : DeJ bytes pc (.ifCond .lt) pc' pcT) (KT : (x < 0) → Go k h os cells slots pcT Ls st) (KF : ¬ (x < 0) → Go k h os cells slots pc' Ls st) : Go k h os cells slots pc Ls (.int x :: st) := by
  obtain ⟨o, h1, rfl, h2, h3⟩ := hd
  by_cases q : (x < 0)
  · exact Go.pure C (fun hx hc X kt => XS.ifYes X hx rfl rfl (hb hc h1) rfl ((if0 _ _).trans (tlt q).1) h2 h3 kt) (KT q)
  · exact Go.pure C (fun hx hc X kt => XS.ifNo X hx rfl (hb hc h1) rfl ((if0 _ _).trans (flt q).1) kt) (KF q)
theorem Go.icmplt {k : KT} (C : Ctx k l y bytes maxL ret R Z a0 EL wd wr h0 Q) {pc pc' pcT : Nat} {x z : Int32} (hd : DeJ bytes pc (.if_icmp .lt) pc' pcT) (KT : (x < z) → Go k h os cells slots pcT Ls st) (KF : ¬ (x < z) → Go k h os cells slots pc' Ls st) : Go k h os cells slots pc Ls (.int z :: .int x :: st) := by
  obtain ⟨o, h1, rfl, h2, h3⟩ := hd
  by_cases q : (x < z)
  · exact Go.pure C (fun hx hc X kt => XS.icmpYes X hx rfl rfl (hb hc h1) rfl (tlt q).1 h2 h3 kt) (KT q)
  · exact Go.pure C (fun hx hc X kt => XS.icmpNo X hx rfl (hb hc h1) rfl (flt q).1 kt) (KF q)
theorem Go.ifge {k : KT} (C : Ctx k l y bytes maxL ret R Z a0 EL wd wr h0 Q) {pc pc' pcT : Nat} {x : Int32} (hd : DeJ bytes pc (.ifCond .ge) pc' pcT) (KT : ¬ (x < 0) → Go k h os cells slots pcT Ls st) (KF : (x < 0) → Go k h os cells slots pc' Ls st) : Go k h os cells slots pc Ls (.int x :: st) := by
  obtain ⟨o, h1, rfl, h2, h3⟩ := hd
  by_cases q : ¬ (x < 0)
  · exact Go.pure C (fun hx hc X kt => XS.ifYes X hx rfl rfl (hb hc h1) rfl ((if0 _ _).trans (flt q).2.1) h2 h3 kt) (KT q)
  · have q := Decidable.not_not.mp q
    exact Go.pure C (fun hx hc X kt => XS.ifNo X hx rfl (hb hc h1) rfl ((if0 _ _).trans (tlt q).2.1) kt) (KF q)
theorem Go.icmpge {k : KT} (C : Ctx k l y bytes maxL ret R Z a0 EL wd wr h0 Q) {pc pc' pcT : Nat} {x z : Int32} (hd : DeJ bytes pc (.if_icmp .ge) pc' pcT) (KT : ¬ (x < z) → Go k h os cells slots pcT Ls st) (KF : (x < z) → Go k h os cells slots pc' Ls st) : Go k h os cells slots pc Ls (.int z :: .int x :: st) := by
  obtain ⟨o, h1, rfl, h2, h3⟩ := hd
  by_cases q : ¬ (x < z)
  · exact Go.pure C (fun hx hc X kt => XS.icmpYes X hx rfl rfl (hb hc h1) rfl (flt q).2.1 h2 h3 kt) (KT q)
  · have q := Decidable.not_not.mp q
    exact Go.pure C (fun hx hc X kt => XS.icmpNo X hx rfl (hb hc h1) rfl (tlt q).2.1 kt) (KF q)
theorem Go.ifgt {k : KT} (C : Ctx k l y bytes maxL ret R Z a0 EL wd wr h0 Q) {pc pc' pcT : Nat} {x : Int32} (hd : DeJ bytes pc (.ifCond .gt) pc' pcT) (KT : (0 < x) → Go k h os cells slots pcT Ls st) (KF : ¬ (0 < x) → Go k h os cells slots pc' Ls st) : Go k h os cells slots pc Ls (.int x :: st) := by
  obtain ⟨o, h1, rfl, h2, h3⟩ := hd
  by_cases q : (0 < x)
  · exact Go.pure C (fun hx hc X kt => XS.ifYes X hx rfl rfl (hb hc h1) rfl ((if0 _ _).trans (tlt q).2.2.1) h2 h3 kt) (KT q)
  · exact Go.pure C (fun hx hc X kt => XS.ifNo X hx rfl (hb hc h1) rfl ((if0 _ _).trans (flt q).2.2.1) kt) (KF q)
theorem Go.icmpgt {k : KT} (C : Ctx k l y bytes maxL ret R Z a0 EL wd wr h0 Q) {pc pc' pcT : Nat} {x z : Int32} (hd : DeJ bytes pc (.if_icmp .gt) pc' pcT) (KT : (z < x) → Go k h os cells slots pcT Ls st) (KF : ¬ (z < x) → Go k h os cells slots pc' Ls st) : Go k h os cells slots pc Ls (.int z :: .int x :: st) := by
  obtain ⟨o, h1, rfl, h2, h3⟩ := hd
  by_cases q : (z < x)
  · exact Go.pure C (fun hx hc X kt => XS.icmpYes X hx rfl rfl (hb hc h1) rfl (tlt q).2.2.1 h2 h3 kt) (KT q)
  · exact Go.pure C (fun hx hc X kt => XS.icmpNo X hx rfl (hb hc h1) rfl (flt q).2.2.1 kt) (KF q)
theorem Go.ifle {k : KT} (C : Ctx k l y bytes maxL ret R Z a0 EL wd wr h0 Q) {pc pc' pcT : Nat} {x : Int32} (hd : DeJ bytes pc (.ifCond .le) pc' pcT) (KT : ¬ (0 < x) → Go k h os cells slots pcT Ls st) (KF : (0 < x) → Go k h os cells slots pc' Ls st) : Go k h os cells slots pc Ls (.int x :: st) := by
  obtain ⟨o, h1, rfl, h2, h3⟩ := hd
  by_cases q : ¬ (0 < x)
  · exact Go.pure C (fun hx hc X kt => XS.ifYes X hx rfl rfl (hb hc h1) rfl ((if0 _ _).trans (flt q).2.2.2) h2 h3 kt) (KT q)
  · have q := Decidable.not_not.mp q
    exact Go.pure C (fun hx hc X kt => XS.ifNo X hx rfl (hb hc h1) rfl ((if0 _ _).trans (tlt q).2.2.2) kt) (KF q)
theorem Go.icmple {k : KT} (C : Ctx k l y bytes maxL ret R Z a0 EL wd wr h0 Q) {pc pc' pcT : Nat} {x z : Int32} (hd : DeJ bytes pc (.if_icmp .le) pc' pcT) (KT : ¬ (z < x) → Go k h os cells slots pcT Ls st) (KF : (z < x) → Go k h os cells slots pc' Ls st) : Go k h os cells slots pc Ls (.int z :: .int x :: st) := by
  obtain ⟨o, h1, rfl, h2, h3⟩ := hd
  by_cases q : ¬ (z < x)
  · exact Go.pure C (fun hx hc X kt => XS.icmpYes X hx rfl rfl (hb hc h1) rfl (flt q).2.2.2 h2 h3 kt) (KT q)
  · have q := Decidable.not_not.mp q
    exact Go.pure C (fun hx hc X kt => XS.icmpNo X hx rfl (hb hc h1) rfl (tlt q).2.2.2 kt) (KF q)
theorem Go.ifnullY {k : KT} (C : Ctx k l y bytes maxL ret R Z a0 EL wd wr h0 Q) {pc pc' pcT : Nat} (hd : DeJ bytes pc .ifnull pc' pcT) (K : Go k h os cells slots pcT Ls st) : Go k h os cells slots pc Ls (.null :: st) :=
  Go.pure C (fun hx hc X kt => by obtain ⟨o, h1, -, h2, h3⟩ := hd; exact XS.ifnullYes X hx rfl rfl (hb hc h1) rfl h2 h3 kt) K
theorem Go.ifnullN {k : KT} (C : Ctx k l y bytes maxL ret R Z a0 EL wd wr h0 Q) {pc pc' pcT : Nat} {b : Addr} (hd : DeJ bytes pc .ifnull pc' pcT) (K : Go k h os cells slots pc' Ls st) : Go k h os cells slots pc Ls (.ref b :: st) :=
  Go.pure C (fun hx hc X kt => by obtain ⟨o, h1, rfl, h2, h3⟩ := hd; exact XS.ifnullNo X hx rfl (hb hc h1) rfl kt) K
theorem Go.ifnonnullY {k : KT} (C : Ctx k l y bytes maxL ret R Z a0 EL wd wr h0 Q) {pc pc' pcT : Nat} {b : Addr} (hd : DeJ bytes pc .ifnonnull pc' pcT) (K : Go k h os cells slots pcT Ls st) : Go k h os cells slots pc Ls (.ref b :: st) :=
  Go.pure C (fun hx hc X kt => by obtain ⟨o, h1, -, h2, h3⟩ := hd; exact XS.ifnonnullYes X hx rfl rfl (hb hc h1) rfl h2 h3 kt) K
theorem Go.ifnonnullN {k : KT} (C : Ctx k l y bytes maxL ret R Z a0 EL wd wr h0 Q) {pc pc' pcT : Nat} (hd : DeJ bytes pc .ifnonnull pc' pcT) (K : Go k h os cells slots pc' Ls st) : Go k h os cells slots pc Ls (.null :: st) :=
  Go.pure C (fun hx hc X kt => by obtain ⟨o, h1, rfl, h2, h3⟩ := hd; exact XS.ifnonnullNo X hx rfl (hb hc h1) rfl kt) K
end Steps
section Heapy
variable {l : Launch} {y : MethodName} {bytes : ByteArray} {maxL : Nat} {ret : Option FieldType} {R : Room} {Z : State} {a0 : Array Value} {EL : List (String × Nat)} {wd : Bool} {wr : List Addr} {h0 : Heap} {Q : QT} {h : Heap} {os : List Addr} {cells slots : Nat} {Ls : Array Slot} {st : List Value}
/-- the run moves on: heap, tables and frame at hand -/
theorem mov {p : Program} {e : Env} {s : State} {m : MethodId} {args : Array Value} {below : List Frame} {meth : Method} {c : Code} {T T' : State} {locs' : List Loc} {vm' : Vm} {h' : Heap} {os' : List Addr} {cells' slots' pc pc' : Nat} {Ls' : Array Slot} {st' : List Value}
    (G : Go ⟨p, l, e, R, s, m, args, below, meth, c, Z, EL, wd, wr, Q⟩ h' os' cells' slots' pc' Ls' st') (X' : Stand p l e R (s.setVm vm') m args below meth c T' locs' cells' slots') (e' : T'.heap = h') (N' : Fr Z.heap.size locs') (S' : s.Since vm' h'.size) (w' : wd = false → s.WarmedH vm')
    (A' : CHr Z EL s.vm s.heap vm' h') (K' : Keep s.heap h' wr) (ow' : ∀ x ∈ os', Own Z s.heap EL wr vm' h' x)
    (stp : ∀ target, Steps p.tables e below (T'.setTop (mkF m pc' Ls' st')) target → Steps p.tables e below (T.setTop (mkF m pc Ls st)) target) : Fen p e below (Done Z EL wd R wr Q s) (T.setTop (mkF m pc Ls st)) :=
  Fen.of stp (G T' locs' vm' X' e' N' S' w' A' K' ow')
theorem ext0 {s : State} {h' : Heap} (E : Ext Z.heap s.heap) (K : Keep s.heap h' wr) (q : ∀ x ∈ wr, Z.heap.size ≤ x) : Ext Z.heap h' :=
  ⟨Nat.le_trans E.1 K.1, fun a c r => K.2.1 a c (E.2 a c r) fun hm => absurd (Array.getElem?_eq_some_iff.mp r).1 (Nat.not_lt.mpr (q a hm))⟩
theorem Go.old {k : KT} (C : Ctx k l y bytes maxL ret R Z a0 EL wd wr h0 Q) {pc : Nat} (K : Ext Z.heap h → Go k h os cells slots pc Ls st) : Go k h os cells slots pc Ls st := by
  obtain ⟨p, l', e, R', s, m, args, below, meth, c, Z', EL', wd', wr', Q'⟩ := k
  have C' := C
  obtain ⟨⟨rfl, rfl, rfl, rfl, rfl, rfl, rfl, rfl⟩, hx, hc, hml, hret, hlk, hnm, hZ, hown, hEL, hE, hwr⟩ := C
  intro T locs vm X e0 N S w A Kp ow
  exact K (ext0 hE Kp hwr) T locs vm X e0 N S w A Kp ow
theorem Go.kept {k : KT} (C : Ctx k l y bytes maxL ret R Z a0 EL wd wr h0 Q) {pc : Nat} (K : Keep h0 h wr → Go k h os cells slots pc Ls st) : Go k h os cells slots pc Ls st := by
  obtain ⟨p, l', e, R', s, m, args, below, meth, c, Z', EL', wd', wr', Q'⟩ := k
  obtain ⟨⟨rfl, rfl, rfl, rfl, rfl, rfl, rfl, rfl⟩, -⟩ := C
  intro T locs vm X e0 N S w A Kp ow
  exact K Kp T locs vm X e0 N S w A Kp ow
/-- fewer owned, more cells -/
theorem Go.less {k : KT} {pc : Nat} {os' : List Addr} (q : ∀ x ∈ os', x ∈ os) (G : Go k h os' cells slots pc Ls st) : Go k h os cells slots pc Ls st := by
  obtain ⟨p, l', e, R', s, m, args, below, meth, c, Z', EL', wd', wr', Q'⟩ := k
  intro T locs vm X e0 N S w A Kp ow
  exact G T locs vm X e0 N S w A Kp fun x hx => ow x (q x hx)
theorem Go.more {k : KT} {pc cells' slots' : Nat} (q1 : cells ≤ cells') (q2 : slots ≤ slots') (G : Go k h os cells' slots' pc Ls st) : Go k h os cells slots pc Ls st := by
  obtain ⟨p, l', e, R', s, m, args, below, meth, c, Z', EL', wd', wr', Q'⟩ := k
  intro T locs vm X e0 N S w A Kp ow
  exact G T locs vm (X.more q1 q2) e0 N S w A Kp ow
theorem ownPush {s : State} {vm : Vm} {h' : Heap} (E0 : Ext Z.heap s.heap) (A : CHr Z EL s.vm s.heap vm h) (Kp : Keep s.heap h wr) (E : Ext h h') (hlt : h.size < h'.size) (ow : ∀ x ∈ os, Own Z s.heap EL wr vm h x) : ∀ x ∈ h.size :: os, Own Z s.heap EL wr vm h' x := fun x hx => by
  rcases List.mem_cons.mp hx with rfl | hx
  · exact ⟨Safe.ext E A.1 (Safe.new (Nat.le_refl _)), Nat.le_trans E0.1 Kp.1, hlt, Or.inr Kp.1⟩
  · exact (ow x hx).chr (CHr.ext E A.1)
theorem Go.new {k : KT} (C : Ctx k l y bytes maxL ret R Z a0 EL wd wr h0 Q) {pc pc' i n : Nat} {Cn : String} {F : FL} {vs : List Value} (w1 : (Cond.classLink y.cls i Cn).before a0 Z = true) (w2 : (Cond.instantiable Cn n).before a0 Z = true) (w3 : (Cond.initialized Cn).before a0 Z = true)
    (LF : LaidL Z a0 Cn F) (dv : F.map (fun q => (parseFieldDescriptor q.2.2).map defaultValue) = vs.map some) (hd : De bytes pc (.new i) 3 pc') (hc : cells + 1 ≤ R.cells) (hl : slots + n ≤ R.slots)
    (K : ∀ (b : Addr) (h' : Heap), b = h.size → Keep h h' [] → Obj Z h' b Cn F vs → Go k h' (b :: os) (cells + 1) (slots + n) pc' Ls (.ref b :: st)) : Go k h os cells slots pc Ls st := by
  obtain ⟨p, l', e, R', s, m, args, below, meth, c, Z', EL', wd', wr', Q'⟩ := k
  obtain ⟨⟨rfl, rfl, rfl, rfl, rfl, rfl, rfl, rfl⟩, hx, hc', hml, hret, hlk, hnm, hZ, hown, hEL, hE, hwr⟩ := C
  obtain ⟨h1, rfl⟩ := hd
  intro T locs vm X e0 N S w A Kp ow
  have hZ' : Z'.Warmed39 (s.setVm vm).vm := State.Warmed39.trans (t := s) hZ S.1
  have hown' : (s.setVm vm).vm.findClass y.cls = some m.cls := (S.1.alike.findClass _ _).trans hown
  obtain ⟨T', h', X', e', E, Ex, D, -, stp⟩ := newO X hx hZ' hown' w1 w2 w3 e0 (g := mkF m pc Ls st) rfl (hb hc' h1) hc hl
  exact mov (K h.size h' rfl (Keep.ofExt E) (Obj.new (A := Ex) D LF dv)) X' e' N (Since.up S E.1) w (A.trans (CHr.ext E A.1)) (Kp.ext E) (ownPush hE A Kp E Ex.lt ow) stp
theorem Go.newarray {k : KT} (C : Ctx k l y bytes maxL ret R Z a0 EL wd wr h0 Q) {pc pc' : Nat} {aty : ArrayType} {z : Int32} (w1 : (Cond.arrayClass (newarray.typeOf aty)).before a0 Z = true) (hd : De bytes pc (.newarray aty) 2 pc') (hz : ¬ z < 0) (n : Nat) (hn : z.toNatClampNeg = n) {cap : Nat} (hcap : n ≤ cap) (hb8 : cap * 8 ≤ 536870912)
    (hc : cells + 1 ≤ R.cells) (hl : slots + cap ≤ R.slots)
    (K : ∀ (b : Addr) (h' : Heap), b = h.size → Keep h h' [] → Av Z h' b (newarray.typeOf aty) (List.replicate n (defaultValue (newarray.typeOf aty))) → Go k h' (b :: os) (cells + 1) (slots + cap) pc' Ls (.ref b :: st)) : Go k h os cells slots pc Ls (.int z :: st) := by
  obtain ⟨p, l', e, R', s, m, args, below, meth, c, Z', EL', wd', wr', Q'⟩ := k
  obtain ⟨⟨rfl, rfl, rfl, rfl, rfl, rfl, rfl, rfl⟩, hx, hc', hml, hret, hlk, hnm, hZ, hown, hEL, hE, hwr⟩ := C
  obtain ⟨h1, rfl⟩ := hd
  intro T locs vm X e0 N S w A Kp ow
  have hZ' : Z'.Warmed39 (s.setVm vm).vm := State.Warmed39.trans (t := s) hZ S.1
  obtain ⟨T', h', cA, X', e', E, Ar, stp⟩ := newP X hx hZ' w1 e0 (g := mkF m pc Ls (.int z :: st)) rfl (hb hc' h1) rfl hz (cap := cap) (by rw [hn]; exact hcap) hb8 hc hl
  exact mov (K h.size h' rfl (Keep.ofExt E) (Av.new Ar hz hn)) X' e' N (Since.up S E.1) w (A.trans (CHr.ext E A.1)) (Kp.ext E) (ownPush hE A Kp E Ar.lt ow) stp
theorem Go.getF {k : KT} (C : Ctx k l y bytes maxL ret R Z a0 EL wd wr h0 Q) {pc pc' i : Nat} {a : Addr} {Cn R0 host : String} {F : FL} {vs : List Value} {v : Value} {q : String × String × String} (O : Obj Z h a Cn F vs) (j : Nat) (hq : F[j]? = some q) (hv : vs[j]? = some v)
    (w : (Cond.fieldLink y.cls i R0 q.2.1 q.2.2).before a0 Z = true ∨ (Cond.fieldLinkNest y.cls i R0 q.2.1 q.2.2 host).before a0 Z = true) (via : Via Z R0 q.1 q.2.1 q.2.2) (hd : De bytes pc (.getfield i) 3 pc') (K : Go k h os cells slots pc' Ls (v :: st)) : Go k h os cells slots pc Ls (.ref a :: st) := by
  obtain ⟨p, l', e, R', s, m, args, below, meth, c, Z', EL', wd', wr', Q'⟩ := k
  obtain ⟨⟨rfl, rfl, rfl, rfl, rfl, rfl, rfl, rfl⟩, hx, hc', hml, hret, hlk, hnm, hZ, hown, hEL, hE, hwr⟩ := C
  obtain ⟨h1, rfl⟩ := hd
  intro T locs vm X e0 N S w' A Kp ow
  have hZ' : Z'.Warmed39 (s.setVm vm).vm := State.Warmed39.trans (t := s) hZ S.1
  have hown' : (s.setVm vm).vm.findClass y.cls = some m.cls := (S.1.alike.findClass _ _).trans hown
  obtain ⟨T', X', e', stp⟩ := RoadKit.getF X hx hZ' hown' w via e0 (O.2.2 j q v hq hv) (g := mkF m pc Ls (.ref a :: st)) rfl rfl (hb hc' h1)
  exact mov K X' e' N S w' A Kp ow stp
theorem Go.getS {k : KT} (C : Ctx k l y bytes maxL ret R Z a0 EL wd wr h0 Q) {pc pc' i : Nat} {R0 O n d host : String} {v : Value} (F : Sta Z Z.heap O n d v)
    (w : (Cond.fieldLink y.cls i R0 n d).before a0 Z = true ∨ (Cond.fieldLinkNest y.cls i R0 n d host).before a0 Z = true) (via : Via Z R0 O n d) (hd : De bytes pc (.getstatic i) 3 pc') (K : Go k h os cells slots pc' Ls (v :: st)) : Go k h os cells slots pc Ls st := by
  obtain ⟨p, l', e, R', s, m, args, below, meth, c, Z', EL', wd', wr', Q'⟩ := k
  obtain ⟨⟨rfl, rfl, rfl, rfl, rfl, rfl, rfl, rfl⟩, hx, hc', hml, hret, hlk, hnm, hZ, hown, hEL, hE, hwr⟩ := C
  obtain ⟨h1, rfl⟩ := hd
  intro T locs vm X e0 N S w' A Kp ow
  have hZ' : Z'.Warmed39 (s.setVm vm).vm := State.Warmed39.trans (t := s) hZ S.1
  have hown' : (s.setVm vm).vm.findClass y.cls = some m.cls := (S.1.alike.findClass _ _).trans hown
  obtain ⟨T', X', e', stp⟩ := getS2 X hx hZ' hown' w via e0 (F.ext (ext0 hE Kp hwr)) (g := mkF m pc Ls st) rfl (hb hc' h1)
  exact mov K X' e' N S w' A Kp ow stp
theorem Go.putF {k : KT} (C : Ctx k l y bytes maxL ret R Z a0 EL wd wr h0 Q) {pc pc' i kk : Nat} {a : Addr} {Cn R0 : String} {F : FL} {vs vs' : List Value} {v v' : Value} {ty : FieldType} {q : String × String × String} (O : Obj Z h a Cn F vs) (ho : a ∈ os) (j : Nat) (hq : F[j]? = some q)
    (w : (Cond.fieldLink y.cls i R0 q.2.1 q.2.2).before a0 Z = true) (via : Via Z R0 q.1 q.2.1 q.2.2) (Lw : (Cond.lays Cn q.1 q.2.1 q.2.2).before a0 Z = true ∨ ((Cond.laysFinal Cn q.1 q.2.1 q.2.2).before a0 Z = true ∧ y.cls = q.1 ∧ y.name = "<init>")) (wi : (Cond.instantiable Cn kk).before a0 Z = true)
    (LF : LaidL Z a0 Cn F) (nd : (F.map (fun q => q.2.1)).Nodup) (hty : parseFieldDescriptor q.2.2 = some ty) (hn : narrow ty v = v') (hf : fits ty v' = true) (hvs : vs.set j v' = vs') (hd : De bytes pc (.putfield i) 3 pc')
    (K : ∀ h' : Heap, Keep h h' [a] → Obj Z h' a Cn F vs' → Go k h' os cells slots pc' Ls st) : Go k h os cells slots pc Ls (v :: .ref a :: st) := by
  obtain ⟨p, l', e, R', s, m, args, below, meth, c, Z', EL', wd', wr', Q'⟩ := k
  obtain ⟨⟨rfl, rfl, rfl, rfl, rfl, rfl, rfl, rfl⟩, hx, hc', hml, hret, hlk, hnm, hZ, hown, hEL, hE, hwr⟩ := C
  obtain ⟨h1, rfl⟩ := hd
  intro T locs vm X e0 N S w' A Kp ow
  have hZ' : Z'.Warmed39 (s.setVm vm).vm := State.Warmed39.trans (t := s) hZ S.1
  have hown' : (s.setVm vm).vm.findClass y.cls = some m.cls := (S.1.alike.findClass _ _).trans hown
  have hj : j < vs.length := by rw [← O.2.1]; exact (List.getElem?_eq_some_iff.mp hq).1
  obtain ⟨T', h', X', e', W, stp⟩ := putFN X hx hZ' hown' w via e0 (O.2.2 j q _ hq (List.getElem?_eq_getElem hj)) O.1 (Lw.imp id fun z => ⟨z.1, z.2.1, hnm.trans z.2.2⟩) wi hty hn hf (g := mkF m pc Ls (v :: .ref a :: st)) rfl rfl (hb hc' h1)
  have KW := Keep.of_wr W
  have os1 : ∀ x ∈ [a], x ∈ os := fun x hx => by cases List.mem_singleton.mp hx; exact ho
  have Ch := CHr.keep KW (safeOs ow os1) A.1
  subst hvs
  exact mov (K h' KW (O.put W hq LF nd)) X' e' (Fr.snoc X' N (ow a ho).2.1) (Since.up S KW.1) w' (A.trans Ch) (keepOs Kp KW ow os1) (fun x hx => (ow x hx).chr Ch) stp
theorem av_in {a : Addr} {ty : FieldType} {vs : List Value} {c : Cell} {z j : Int32} {i : Nat} (r2 : c.slots.size = z.toNatClampNeg) (e : z.toNatClampNeg = vs.length) (hj : ¬ j < 0) (hi : j.toNatClampNeg = i) (hlt : i < vs.length) : ¬ (j < 0 ∨ c.slots.size ≤ j.toNatClampNeg) := by
  rintro (q | q)
  · exact hj q
  · rw [r2, e, hi] at q; omega
theorem has_at {c : Cell} {vs : List Value} {d : Value} (H : Has c vs d) {i : Nat} {v : Value} (hi : i < c.slots.size) (hv : vs[i]? = some v) : c.slots[i]? = some v := by
  rw [H i hi, List.getD_eq_getElem?_getD, hv]; rfl
theorem Go.arraylength {k : KT} (C : Ctx k l y bytes maxL ret R Z a0 EL wd wr h0 Q) {pc pc' : Nat} {a : Addr} {ty : FieldType} {vs : List Value} (V : Av Z h a ty vs) (v : Int32) (hv : vs.length.toInt32 = v) (hd : De bytes pc .arraylength 1 pc') (K : Go k h os cells slots pc' Ls (.int v :: st)) : Go k h os cells slots pc Ls (.ref a :: st) := by
  obtain ⟨p, l', e, R', s, m, args, below, meth, c, Z', EL', wd', wr', Q'⟩ := k
  obtain ⟨⟨rfl, rfl, rfl, rfl, rfl, rfl, rfl, rfl⟩, hx, hc', hml, hret, hlk, hnm, hZ, hown, hEL, hE, hwr⟩ := C
  obtain ⟨h1, rfl⟩ := hd
  intro T locs vm X e0 N S w' A Kp ow
  have hZ' : Z'.Warmed39 (s.setVm vm).vm := State.Warmed39.trans (t := s) hZ S.1
  obtain ⟨kc, z, ⟨cl, Ar, r1, r2, r3, H, G⟩, ez⟩ := V
  refine Fen.of (fun t kt => X.arraylength hx (by rw [e0]; exact Ar.1) (State.isArrayOf_alike hZ'.alike Ar.2.1) (g := mkF m pc Ls (.ref a :: st)) rfl rfl (hb hc' h1) t ?_) (K T locs vm X e0 N S w' A Kp ow)
  rw [r2, ez, hv]; exact kt
theorem Go.iaload {k : KT} (C : Ctx k l y bytes maxL ret R Z a0 EL wd wr h0 Q) {pc pc' : Nat} {a : Addr} {vs : List Value} {j : Int32} {v : Value} (V : Av Z h a .int vs) (i : Nat) (hj : ¬ j < 0) (hi : j.toNatClampNeg = i) (hv : vs[i]? = some v) (hd : De bytes pc .iaload 1 pc') (K : Go k h os cells slots pc' Ls (v :: st)) : Go k h os cells slots pc Ls (.int j :: .ref a :: st) := by
  obtain ⟨p, l', e, R', s, m, args, below, meth, c, Z', EL', wd', wr', Q'⟩ := k
  obtain ⟨⟨rfl, rfl, rfl, rfl, rfl, rfl, rfl, rfl⟩, hx, hc', hml, hret, hlk, hnm, hZ, hown, hEL, hE, hwr⟩ := C
  obtain ⟨h1, rfl⟩ := hd
  intro T locs vm X e0 N S w' A Kp ow
  have hZ' : Z'.Warmed39 (s.setVm vm).vm := State.Warmed39.trans (t := s) hZ S.1
  obtain ⟨kc, z, ⟨cl, Ar, r1, r2, r3, H, G⟩, ez⟩ := V
  have hlt := (List.getElem?_eq_some_iff.mp hv).1
  refine Fen.of (fun t kt => X.iaload hx (j := j) (v := v) (by rw [e0]; exact Ar.1) (State.isArrayOf_alike hZ'.alike Ar.2.1) Ar.2.2 (av_in (a := a) (ty := .int) (vs := vs) r2 ez hj hi hlt) (by rw [hi]; exact has_at H (by rw [r2, ez]; exact hlt) hv) (g := mkF m pc Ls (.int j :: .ref a :: st)) rfl rfl (hb hc' h1) t kt) (K T locs vm X e0 N S w' A Kp ow)
theorem Go.laload {k : KT} (C : Ctx k l y bytes maxL ret R Z a0 EL wd wr h0 Q) {pc pc' : Nat} {a : Addr} {vs : List Value} {j : Int32} {v : Value} (V : Av Z h a .long vs) (i : Nat) (hj : ¬ j < 0) (hi : j.toNatClampNeg = i) (hv : vs[i]? = some v) (hd : De bytes pc .laload 1 pc') (K : Go k h os cells slots pc' Ls (v :: st)) : Go k h os cells slots pc Ls (.int j :: .ref a :: st) := by
  obtain ⟨p, l', e, R', s, m, args, below, meth, c, Z', EL', wd', wr', Q'⟩ := k
  obtain ⟨⟨rfl, rfl, rfl, rfl, rfl, rfl, rfl, rfl⟩, hx, hc', hml, hret, hlk, hnm, hZ, hown, hEL, hE, hwr⟩ := C
  obtain ⟨h1, rfl⟩ := hd
  intro T locs vm X e0 N S w' A Kp ow
  have hZ' : Z'.Warmed39 (s.setVm vm).vm := State.Warmed39.trans (t := s) hZ S.1
  obtain ⟨kc, z, ⟨cl, Ar, r1, r2, r3, H, G⟩, ez⟩ := V
  have hlt := (List.getElem?_eq_some_iff.mp hv).1
  refine Fen.of (fun t kt => X.laload hx (j := j) (v := v) (by rw [e0]; exact Ar.1) (State.isArrayOf_alike hZ'.alike Ar.2.1) Ar.2.2 (av_in (a := a) (ty := .long) (vs := vs) r2 ez hj hi hlt) (by rw [hi]; exact has_at H (by rw [r2, ez]; exact hlt) hv) (g := mkF m pc Ls (.int j :: .ref a :: st)) rfl rfl (hb hc' h1) t kt) (K T locs vm X e0 N S w' A Kp ow)
theorem Go.caload {k : KT} (C : Ctx k l y bytes maxL ret R Z a0 EL wd wr h0 Q) {pc pc' : Nat} {a : Addr} {vs : List Value} {j : Int32} {v : Value} (V : Av Z h a .char vs) (i : Nat) (hj : ¬ j < 0) (hi : j.toNatClampNeg = i) (hv : vs[i]? = some v) (hd : De bytes pc .caload 1 pc') (K : Go k h os cells slots pc' Ls (v :: st)) : Go k h os cells slots pc Ls (.int j :: .ref a :: st) := by
  obtain ⟨p, l', e, R', s, m, args, below, meth, c, Z', EL', wd', wr', Q'⟩ := k
  obtain ⟨⟨rfl, rfl, rfl, rfl, rfl, rfl, rfl, rfl⟩, hx, hc', hml, hret, hlk, hnm, hZ, hown, hEL, hE, hwr⟩ := C
  obtain ⟨h1, rfl⟩ := hd
  intro T locs vm X e0 N S w' A Kp ow
  have hZ' : Z'.Warmed39 (s.setVm vm).vm := State.Warmed39.trans (t := s) hZ S.1
  obtain ⟨kc, z, ⟨cl, Ar, r1, r2, r3, H, G⟩, ez⟩ := V
  have hlt := (List.getElem?_eq_some_iff.mp hv).1
  refine Fen.of (fun t kt => X.caload hx (j := j) (v := v) (by rw [e0]; exact Ar.1) (State.isArrayOf_alike hZ'.alike Ar.2.1) Ar.2.2 (av_in (a := a) (ty := .char) (vs := vs) r2 ez hj hi hlt) (by rw [hi]; exact has_at H (by rw [r2, ez]; exact hlt) hv) (g := mkF m pc Ls (.int j :: .ref a :: st)) rfl rfl (hb hc' h1) t kt) (K T locs vm X e0 N S w' A Kp ow)
theorem Go.saload {k : KT} (C : Ctx k l y bytes maxL ret R Z a0 EL wd wr h0 Q) {pc pc' : Nat} {a : Addr} {vs : List Value} {j : Int32} {v : Value} (V : Av Z h a .short vs) (i : Nat) (hj : ¬ j < 0) (hi : j.toNatClampNeg = i) (hv : vs[i]? = some v) (hd : De bytes pc .saload 1 pc') (K : Go k h os cells slots pc' Ls (v :: st)) : Go k h os cells slots pc Ls (.int j :: .ref a :: st) := by
  obtain ⟨p, l', e, R', s, m, args, below, meth, c, Z', EL', wd', wr', Q'⟩ := k
  obtain ⟨⟨rfl, rfl, rfl, rfl, rfl, rfl, rfl, rfl⟩, hx, hc', hml, hret, hlk, hnm, hZ, hown, hEL, hE, hwr⟩ := C
  obtain ⟨h1, rfl⟩ := hd
  intro T locs vm X e0 N S w' A Kp ow
  have hZ' : Z'.Warmed39 (s.setVm vm).vm := State.Warmed39.trans (t := s) hZ S.1
  obtain ⟨kc, z, ⟨cl, Ar, r1, r2, r3, H, G⟩, ez⟩ := V
  have hlt := (List.getElem?_eq_some_iff.mp hv).1
  refine Fen.of (fun t kt => X.saload hx (j := j) (v := v) (by rw [e0]; exact Ar.1) (State.isArrayOf_alike hZ'.alike Ar.2.1) Ar.2.2 (av_in (a := a) (ty := .short) (vs := vs) r2 ez hj hi hlt) (by rw [hi]; exact has_at H (by rw [r2, ez]; exact hlt) hv) (g := mkF m pc Ls (.int j :: .ref a :: st)) rfl rfl (hb hc' h1) t kt) (K T locs vm X e0 N S w' A Kp ow)
theorem Go.baload {k : KT} (C : Ctx k l y bytes maxL ret R Z a0 EL wd wr h0 Q) {pc pc' : Nat} {a : Addr} {vs : List Value} {j : Int32} {v : Value} (V : Av Z h a .byte vs) (i : Nat) (hj : ¬ j < 0) (hi : j.toNatClampNeg = i) (hv : vs[i]? = some v) (hd : De bytes pc .baload 1 pc') (K : Go k h os cells slots pc' Ls (v :: st)) : Go k h os cells slots pc Ls (.int j :: .ref a :: st) := by
  obtain ⟨p, l', e, R', s, m, args, below, meth, c, Z', EL', wd', wr', Q'⟩ := k
  obtain ⟨⟨rfl, rfl, rfl, rfl, rfl, rfl, rfl, rfl⟩, hx, hc', hml, hret, hlk, hnm, hZ, hown, hEL, hE, hwr⟩ := C
  obtain ⟨h1, rfl⟩ := hd
  intro T locs vm X e0 N S w' A Kp ow
  have hZ' : Z'.Warmed39 (s.setVm vm).vm := State.Warmed39.trans (t := s) hZ S.1
  obtain ⟨kc, z, ⟨cl, Ar, r1, r2, r3, H, G⟩, ez⟩ := V
  have hlt := (List.getElem?_eq_some_iff.mp hv).1
  refine Fen.of (fun t kt => X.baloadBytes hx (j := j) (v := v) (by rw [e0]; exact Ar.1) (State.isArrayOf_alike hZ'.alike Ar.2.1) Ar.2.2 (av_in (a := a) (ty := .byte) (vs := vs) r2 ez hj hi hlt) (by rw [hi]; exact has_at H (by rw [r2, ez]; exact hlt) hv) (g := mkF m pc Ls (.int j :: .ref a :: st)) rfl rfl (hb hc' h1) t kt) (K T locs vm X e0 N S w' A Kp ow)
theorem Go.aaload {k : KT} (C : Ctx k l y bytes maxL ret R Z a0 EL wd wr h0 Q) {pc pc' : Nat} {a : Addr} {vs : List Value} {j : Int32} {v : Value} {ty : FieldType} (hty : ty.isReference = true) (V : Av Z h a ty vs) (i : Nat) (hj : ¬ j < 0) (hi : j.toNatClampNeg = i) (hv : vs[i]? = some v) (hd : De bytes pc .aaload 1 pc') (K : Go k h os cells slots pc' Ls (v :: st)) : Go k h os cells slots pc Ls (.int j :: .ref a :: st) := by
  obtain ⟨p, l', e, R', s, m, args, below, meth, c, Z', EL', wd', wr', Q'⟩ := k
  obtain ⟨⟨rfl, rfl, rfl, rfl, rfl, rfl, rfl, rfl⟩, hx, hc', hml, hret, hlk, hnm, hZ, hown, hEL, hE, hwr⟩ := C
  obtain ⟨h1, rfl⟩ := hd
  intro T locs vm X e0 N S w' A Kp ow
  have hZ' : Z'.Warmed39 (s.setVm vm).vm := State.Warmed39.trans (t := s) hZ S.1
  obtain ⟨kc, z, ⟨cl, Ar, r1, r2, r3, H, G⟩, ez⟩ := V
  have hlt := (List.getElem?_eq_some_iff.mp hv).1
  refine Fen.of (fun t kt => X.aaload hx (j := j) (v := v) (by rw [e0]; exact Ar.1) (State.isArrayOf_alike hZ'.alike Ar.2.1) hty Ar.2.2 (av_in (a := a) (ty := ty) (vs := vs) r2 ez hj hi hlt) (by rw [hi]; exact has_at H (by rw [r2, ez]; exact hlt) hv) (g := mkF m pc Ls (.int j :: .ref a :: st)) rfl rfl (hb hc' h1) t kt) (K T locs vm X e0 N S w' A Kp ow)
theorem Go.iastore {k : KT} (C : Ctx k l y bytes maxL ret R Z a0 EL wd wr h0 Q) {pc pc' : Nat} {a : Addr} {vs vs' : List Value} {j : Int32} {x : Int32} (V : Av Z h a .int vs) (ho : a ∈ os) (i : Nat) (hj : ¬ j < 0) (hi : j.toNatClampNeg = i) (hlt : i < vs.length) (hvs : vs.set i (.int x) = vs') (hd : De bytes pc .iastore 1 pc')
    (K : ∀ h' : Heap, Keep h h' [a] → Av Z h' a .int vs' → Go k h' os cells slots pc' Ls st) : Go k h os cells slots pc Ls (.int x :: .int j :: .ref a :: st) := by
  obtain ⟨p, l', e, R', s, m, args, below, meth, c, Z', EL', wd', wr', Q'⟩ := k
  obtain ⟨⟨rfl, rfl, rfl, rfl, rfl, rfl, rfl, rfl⟩, hx, hc', hml, hret, hlk, hnm, hZ, hown, hEL, hE, hwr⟩ := C
  obtain ⟨h1, rfl⟩ := hd
  intro T locs vm X e0 N S w' A Kp ow
  have hZ' : Z'.Warmed39 (s.setVm vm).vm := State.Warmed39.trans (t := s) hZ S.1
  obtain ⟨kc, z, ⟨cl, Ar, r1, r2, r3, H, G⟩, ez⟩ := V
  obtain ⟨T', h', X', e', W, stp⟩ := stI X hx hZ' e0 Ar (j := j) (av_in (a := a) (ty := .int) (vs := vs) r2 ez hj hi hlt) (g := mkF m pc Ls (.int x :: .int j :: .ref a :: st)) rfl rfl (hb hc' h1)
  have KW := Keep.of_wr W
  have os1 : ∀ x ∈ [a], x ∈ os := fun x hx => by cases List.mem_singleton.mp hx; exact ho
  have Ch := CHr.keep KW (safeOs ow os1) A.1
  subst hvs
  exact mov (K h' KW ⟨kc, z, Arv.set Ar r1 r2 r3 H G rfl W i hi hlt, by simpa using ez⟩) X' e' (Fr.snoc X' N (ow a ho).2.1) (Since.up S KW.1) w' (A.trans Ch) (keepOs Kp KW ow os1) (fun x hx => (ow x hx).chr Ch) stp
theorem Go.lastore {k : KT} (C : Ctx k l y bytes maxL ret R Z a0 EL wd wr h0 Q) {pc pc' : Nat} {a : Addr} {vs vs' : List Value} {j : Int32} {x : Int64} (V : Av Z h a .long vs) (ho : a ∈ os) (i : Nat) (hj : ¬ j < 0) (hi : j.toNatClampNeg = i) (hlt : i < vs.length) (hvs : vs.set i (.long x) = vs') (hd : De bytes pc .lastore 1 pc')
    (K : ∀ h' : Heap, Keep h h' [a] → Av Z h' a .long vs' → Go k h' os cells slots pc' Ls st) : Go k h os cells slots pc Ls (.long x :: .int j :: .ref a :: st) := by
  obtain ⟨p, l', e, R', s, m, args, below, meth, c, Z', EL', wd', wr', Q'⟩ := k
  obtain ⟨⟨rfl, rfl, rfl, rfl, rfl, rfl, rfl, rfl⟩, hx, hc', hml, hret, hlk, hnm, hZ, hown, hEL, hE, hwr⟩ := C
  obtain ⟨h1, rfl⟩ := hd
  intro T locs vm X e0 N S w' A Kp ow
  have hZ' : Z'.Warmed39 (s.setVm vm).vm := State.Warmed39.trans (t := s) hZ S.1
  obtain ⟨kc, z, ⟨cl, Ar, r1, r2, r3, H, G⟩, ez⟩ := V
  obtain ⟨T', h', X', e', W, stp⟩ := stJ X hx hZ' e0 Ar (j := j) (av_in (a := a) (ty := .long) (vs := vs) r2 ez hj hi hlt) (g := mkF m pc Ls (.long x :: .int j :: .ref a :: st)) rfl rfl (hb hc' h1)
  have KW := Keep.of_wr W
  have os1 : ∀ x ∈ [a], x ∈ os := fun x hx => by cases List.mem_singleton.mp hx; exact ho
  have Ch := CHr.keep KW (safeOs ow os1) A.1
  subst hvs
  exact mov (K h' KW ⟨kc, z, Arv.set Ar r1 r2 r3 H G rfl W i hi hlt, by simpa using ez⟩) X' e' (Fr.snoc X' N (ow a ho).2.1) (Since.up S KW.1) w' (A.trans Ch) (keepOs Kp KW ow os1) (fun x hx => (ow x hx).chr Ch) stp
theorem Go.castore {k : KT} (C : Ctx k l y bytes maxL ret R Z a0 EL wd wr h0 Q) {pc pc' : Nat} {a : Addr} {vs vs' : List Value} {j : Int32} {x x' : Int32} (V : Av Z h a .char vs) (ho : a ∈ os) (i : Nat) (hj : ¬ j < 0) (hi : j.toNatClampNeg = i) (hlt : i < vs.length) (hn : nar .char x = x') (hvs : vs.set i (.int x') = vs') (hd : De bytes pc .castore 1 pc')
    (K : ∀ h' : Heap, Keep h h' [a] → Av Z h' a .char vs' → Go k h' os cells slots pc' Ls st) : Go k h os cells slots pc Ls (.int x :: .int j :: .ref a :: st) := by
  obtain ⟨p, l', e, R', s, m, args, below, meth, c, Z', EL', wd', wr', Q'⟩ := k
  obtain ⟨⟨rfl, rfl, rfl, rfl, rfl, rfl, rfl, rfl⟩, hx, hc', hml, hret, hlk, hnm, hZ, hown, hEL, hE, hwr⟩ := C
  obtain ⟨h1, rfl⟩ := hd
  intro T locs vm X e0 N S w' A Kp ow
  have hZ' : Z'.Warmed39 (s.setVm vm).vm := State.Warmed39.trans (t := s) hZ S.1
  obtain ⟨kc, z, ⟨cl, Ar, r1, r2, r3, H, G⟩, ez⟩ := V
  obtain ⟨T', h', X', e', W, stp⟩ := stC X hx hZ' e0 Ar (j := j) (av_in (a := a) (ty := .char) (vs := vs) r2 ez hj hi hlt) (g := mkF m pc Ls (.int x :: .int j :: .ref a :: st)) rfl rfl (hb hc' h1)
  have KW := Keep.of_wr W
  have os1 : ∀ x ∈ [a], x ∈ os := fun x hx => by cases List.mem_singleton.mp hx; exact ho
  have Ch := CHr.keep KW (safeOs ow os1) A.1
  subst hn
  subst hvs
  exact mov (K h' KW ⟨kc, z, Arv.set Ar r1 r2 r3 H G (fits_nar_char x) W i hi hlt, by simpa using ez⟩) X' e' (Fr.snoc X' N (ow a ho).2.1) (Since.up S KW.1) w' (A.trans Ch) (keepOs Kp KW ow os1) (fun x hx => (ow x hx).chr Ch) stp
theorem Go.sastore {k : KT} (C : Ctx k l y bytes maxL ret R Z a0 EL wd wr h0 Q) {pc pc' : Nat} {a : Addr} {vs vs' : List Value} {j : Int32} {x x' : Int32} (V : Av Z h a .short vs) (ho : a ∈ os) (i : Nat) (hj : ¬ j < 0) (hi : j.toNatClampNeg = i) (hlt : i < vs.length) (hn : nar .short x = x') (hvs : vs.set i (.int x') = vs') (hd : De bytes pc .sastore 1 pc')
    (K : ∀ h' : Heap, Keep h h' [a] → Av Z h' a .short vs' → Go k h' os cells slots pc' Ls st) : Go k h os cells slots pc Ls (.int x :: .int j :: .ref a :: st) := by
  obtain ⟨p, l', e, R', s, m, args, below, meth, c, Z', EL', wd', wr', Q'⟩ := k
  obtain ⟨⟨rfl, rfl, rfl, rfl, rfl, rfl, rfl, rfl⟩, hx, hc', hml, hret, hlk, hnm, hZ, hown, hEL, hE, hwr⟩ := C
  obtain ⟨h1, rfl⟩ := hd
  intro T locs vm X e0 N S w' A Kp ow
  have hZ' : Z'.Warmed39 (s.setVm vm).vm := State.Warmed39.trans (t := s) hZ S.1
  obtain ⟨kc, z, ⟨cl, Ar, r1, r2, r3, H, G⟩, ez⟩ := V
  obtain ⟨T', h', X', e', W, stp⟩ := stS X hx hZ' e0 Ar (j := j) (av_in (a := a) (ty := .short) (vs := vs) r2 ez hj hi hlt) (g := mkF m pc Ls (.int x :: .int j :: .ref a :: st)) rfl rfl (hb hc' h1)
  have KW := Keep.of_wr W
  have os1 : ∀ x ∈ [a], x ∈ os := fun x hx => by cases List.mem_singleton.mp hx; exact ho
  have Ch := CHr.keep KW (safeOs ow os1) A.1
  subst hn
  subst hvs
  exact mov (K h' KW ⟨kc, z, Arv.set Ar r1 r2 r3 H G (fits_nar_short x) W i hi hlt, by simpa using ez⟩) X' e' (Fr.snoc X' N (ow a ho).2.1) (Since.up S KW.1) w' (A.trans Ch) (keepOs Kp KW ow os1) (fun x hx => (ow x hx).chr Ch) stp
theorem Go.bastore {k : KT} (C : Ctx k l y bytes maxL ret R Z a0 EL wd wr h0 Q) {pc pc' : Nat} {a : Addr} {vs vs' : List Value} {j : Int32} {x x' : Int32} (V : Av Z h a .byte vs) (ho : a ∈ os) (i : Nat) (hj : ¬ j < 0) (hi : j.toNatClampNeg = i) (hlt : i < vs.length) (hn : nar .byte x = x') (hvs : vs.set i (.int x') = vs') (hd : De bytes pc .bastore 1 pc')
    (K : ∀ h' : Heap, Keep h h' [a] → Av Z h' a .byte vs' → Go k h' os cells slots pc' Ls st) : Go k h os cells slots pc Ls (.int x :: .int j :: .ref a :: st) := by
  obtain ⟨p, l', e, R', s, m, args, below, meth, c, Z', EL', wd', wr', Q'⟩ := k
  obtain ⟨⟨rfl, rfl, rfl, rfl, rfl, rfl, rfl, rfl⟩, hx, hc', hml, hret, hlk, hnm, hZ, hown, hEL, hE, hwr⟩ := C
  obtain ⟨h1, rfl⟩ := hd
  intro T locs vm X e0 N S w' A Kp ow
  have hZ' : Z'.Warmed39 (s.setVm vm).vm := State.Warmed39.trans (t := s) hZ S.1
  obtain ⟨kc, z, ⟨cl, Ar, r1, r2, r3, H, G⟩, ez⟩ := V
  obtain ⟨T', h', X', e', W, stp⟩ := stB X hx hZ' e0 Ar (j := j) (av_in (a := a) (ty := .byte) (vs := vs) r2 ez hj hi hlt) (g := mkF m pc Ls (.int x :: .int j :: .ref a :: st)) rfl rfl (hb hc' h1)
  have KW := Keep.of_wr W
  have os1 : ∀ x ∈ [a], x ∈ os := fun x hx => by cases List.mem_singleton.mp hx; exact ho
  have Ch := CHr.keep KW (safeOs ow os1) A.1
  subst hn
  subst hvs
  exact mov (K h' KW ⟨kc, z, Arv.set Ar r1 r2 r3 H G (fits_nar_byte x) W i hi hlt, by simpa using ez⟩) X' e' (Fr.snoc X' N (ow a ho).2.1) (Since.up S KW.1) w' (A.trans Ch) (keepOs Kp KW ow os1) (fun x hx => (ow x hx).chr Ch) stp
theorem Go.zastore {k : KT} (C : Ctx k l y bytes maxL ret R Z a0 EL wd wr h0 Q) {pc pc' : Nat} {a : Addr} {vs vs' : List Value} {j : Int32} {x x' : Int32} (V : Av Z h a .boolean vs) (ho : a ∈ os) (i : Nat) (hj : ¬ j < 0) (hi : j.toNatClampNeg = i) (hlt : i < vs.length) (hn : nar .boolean x = x') (hvs : vs.set i (.int x') = vs') (hd : De bytes pc .bastore 1 pc')
    (K : ∀ h' : Heap, Keep h h' [a] → Av Z h' a .boolean vs' → Go k h' os cells slots pc' Ls st) : Go k h os cells slots pc Ls (.int x :: .int j :: .ref a :: st) := by
  obtain ⟨p, l', e, R', s, m, args, below, meth, c, Z', EL', wd', wr', Q'⟩ := k
  obtain ⟨⟨rfl, rfl, rfl, rfl, rfl, rfl, rfl, rfl⟩, hx, hc', hml, hret, hlk, hnm, hZ, hown, hEL, hE, hwr⟩ := C
  obtain ⟨h1, rfl⟩ := hd
  intro T locs vm X e0 N S w' A Kp ow
  have hZ' : Z'.Warmed39 (s.setVm vm).vm := State.Warmed39.trans (t := s) hZ S.1
  obtain ⟨kc, z, ⟨cl, Ar, r1, r2, r3, H, G⟩, ez⟩ := V
  obtain ⟨T', h', X', e', W, stp⟩ := stZ X hx hZ' e0 Ar (j := j) (av_in (a := a) (ty := .boolean) (vs := vs) r2 ez hj hi hlt) (g := mkF m pc Ls (.int x :: .int j :: .ref a :: st)) rfl rfl (hb hc' h1)
  have KW := Keep.of_wr W
  have os1 : ∀ x ∈ [a], x ∈ os := fun x hx => by cases List.mem_singleton.mp hx; exact ho
  have Ch := CHr.keep KW (safeOs ow os1) A.1
  subst hn
  subst hvs
  exact mov (K h' KW ⟨kc, z, Arv.set Ar r1 r2 r3 H G (fits_nar_bool x) W i hi hlt, by simpa using ez⟩) X' e' (Fr.snoc X' N (ow a ho).2.1) (Since.up S KW.1) w' (A.trans Ch) (keepOs Kp KW ow os1) (fun x hx => (ow x hx).chr Ch) stp
theorem Go.anewarray {k : KT} (C : Ctx k l y bytes maxL ret R Z a0 EL wd wr h0 Q) {pc pc' i : Nat} {Cn : String} {z : Int32} (w1 : (Cond.classLink y.cls i Cn).before a0 Z = true) (w2 : (Cond.arrayOver (.object Cn)).before a0 Z = true) (hd : De bytes pc (.anewarray i) 3 pc') (hz : ¬ z < 0) (n : Nat) (hn : z.toNatClampNeg = n) {cap : Nat} (hcap : n ≤ cap) (hb8 : cap * 8 ≤ 536870912)
    (hc : cells + 1 ≤ R.cells) (hl : slots + cap ≤ R.slots)
    (K : ∀ (b : Addr) (h' : Heap), b = h.size → Keep h h' [] → Avr Z h' b Cn (List.replicate n .null) → Go k h' (b :: os) (cells + 1) (slots + cap) pc' Ls (.ref b :: st)) : Go k h os cells slots pc Ls (.int z :: st) := by
  obtain ⟨p, l', e, R', s, m, args, below, meth, c, Z', EL', wd', wr', Q'⟩ := k
  obtain ⟨⟨rfl, rfl, rfl, rfl, rfl, rfl, rfl, rfl⟩, hx, hc', hml, hret, hlk, hnm, hZ, hown, hEL, hE, hwr⟩ := C
  obtain ⟨h1, rfl⟩ := hd
  intro T locs vm X e0 N S w A Kp ow
  have hZ' : Z'.Warmed39 (s.setVm vm).vm := State.Warmed39.trans (t := s) hZ S.1
  have hown' : (s.setVm vm).vm.findClass y.cls = some m.cls := (S.1.alike.findClass _ _).trans hown
  obtain ⟨T', h', cA, X', e', E, Ar, O, stp⟩ := newR X hx hZ' hown' w1 w2 e0 (g := mkF m pc Ls (.int z :: st)) rfl (hb hc' h1) rfl hz (cap := cap) (by rw [hn]; exact hcap) hb8 hc hl
  have V : Avr Z' h' h.size Cn (List.replicate n .null) := ⟨cA, z, by have := (Arv.new Ar hz).pad (pad_rep [] (.null) n); simpa [defaultValue] using this, by simpa using hn, O⟩
  exact mov (K h.size h' rfl (Keep.ofExt E) V) X' e' N (Since.up S E.1) w (A.trans (CHr.ext E A.1)) (Kp.ext E) (ownPush hE A Kp E Ar.lt ow) stp
theorem Go.aastore {k : KT} (C : Ctx k l y bytes maxL ret R Z a0 EL wd wr h0 Q) {pc pc' : Nat} {a b : Addr} {Cn : String} {vs vs' : List Value} {j : Int32} (V : Avr Z h a Cn vs) (ho : a ∈ os) (I : Ins Z h b Cn true) (i : Nat) (hj : ¬ j < 0) (hi : j.toNatClampNeg = i) (hlt : i < vs.length) (hvs : vs.set i (.ref b) = vs') (hd : De bytes pc .aastore 1 pc')
    (K : ∀ h' : Heap, Keep h h' [a] → Avr Z h' a Cn vs' → Go k h' os cells slots pc' Ls st) : Go k h os cells slots pc Ls (.ref b :: .int j :: .ref a :: st) := by
  obtain ⟨p, l', e, R', s, m, args, below, meth, c, Z', EL', wd', wr', Q'⟩ := k
  obtain ⟨⟨rfl, rfl, rfl, rfl, rfl, rfl, rfl, rfl⟩, hx, hc', hml, hret, hlk, hnm, hZ, hown, hEL, hE, hwr⟩ := C
  obtain ⟨h1, rfl⟩ := hd
  intro T locs vm X e0 N S w' A Kp ow
  have hZ' : Z'.Warmed39 (s.setVm vm).vm := State.Warmed39.trans (t := s) hZ S.1
  obtain ⟨kc, z, ⟨cl, Ar, r1, r2, r3, H, G⟩, ez, Ov⟩ := V
  obtain ⟨T', h', X', e', W, stp⟩ := stR X hx hZ' e0 Ar (j := j) (av_in (a := a) (ty := .int) (vs := vs) r2 ez hj hi hlt) rfl (Sto.ofV Ar r1 Ov I) (g := mkF m pc Ls (.ref b :: .int j :: .ref a :: st)) rfl rfl (hb hc' h1)
  have KW := Keep.of_wr W
  have os1 : ∀ x ∈ [a], x ∈ os := fun x hx => by cases List.mem_singleton.mp hx; exact ho
  have Ch := CHr.keep KW (safeOs ow os1) A.1
  subst hvs
  exact mov (K h' KW ⟨kc, z, Arv.set Ar r1 r2 r3 H G rfl W i hi hlt, by simpa using ez, Ov⟩) X' e' (Fr.snoc X' N (ow a ho).2.1) (Since.up S KW.1) w' (A.trans Ch) (keepOs Kp KW ow os1) (fun x hx => (ow x hx).chr Ch) stp
theorem copy_us {vs : List Value} {d : Value} {m n : Nat} (q : m + n ≤ vs.length) : ((List.range n).map fun i => vs.getD (m + i) d) = (vs.drop m).take n := by
  refine List.ext_getElem? fun i => ?_
  by_cases hi : i < n
  · simp [List.getElem?_take, hi, List.getD_eq_getElem?_getD, show m + i < vs.length by omega]
  · simp [List.getElem?_take, hi]
theorem Go.arraycopy {k : KT} (C : Ctx k l y bytes maxL ret R Z a0 EL wd wr h0 Q) {pc pc' i : Nat} {a b : Addr} {ty : FieldType} {vs vd vd' : List Value} {sp dp nn : Int32} (V : Av Z h a ty vs) (U : Av Z h b ty vd) (ho : b ∈ os) (hty : refKind ty = false) (w1 : (Cond.methodLink y.cls i Jvm.Stand.acN).before a0 Z = true) (w2 : (Cond.native Jvm.Stand.acN).before a0 Z = true) (w3 : (Cond.static Jvm.Stand.acN).before a0 Z = true) (w4 : (Cond.initialized "java/lang/System").before a0 Z = true)
    (h1 : ¬ sp < 0) (h2 : ¬ dp < 0) (h3 : ¬ nn < 0) (ms md n : Nat) (e1 : sp.toNatClampNeg = ms) (e2 : dp.toNatClampNeg = md) (e3 : nn.toNatClampNeg = n) (h4 : ms + n ≤ vs.length) (h5 : md + n ≤ vd.length) (hvd : vd.take md ++ (vs.drop ms).take n ++ vd.drop (md + n) = vd') (hd : De bytes pc (.invokestatic i) 3 pc') (hsz : Ls.size = maxL) (hf : 1 ≤ R.frames) (hlo : (st.map fun v => v.category).sum + 18 ≤ R.locals)
    (K : ∀ h' : Heap, Keep h h' [b] → Av Z h' b ty vd' → Go k h' os cells slots pc' Ls st) : Go k h os cells slots pc Ls (.int nn :: .int dp :: .ref b :: .int sp :: .ref a :: st) := by
  obtain ⟨p, l', e, R', s, m, args, below, meth, c, Z', EL', wd', wr', Q'⟩ := k
  obtain ⟨⟨rfl, rfl, rfl, rfl, rfl, rfl, rfl, rfl⟩, hx, hc', hml, hret, hlk, hnm, hZ, hown, hEL, hE, hwr⟩ := C
  obtain ⟨g1, rfl⟩ := hd
  intro T locs vm X e0 N S w' A Kp ow
  have hZ' : Z'.Warmed39 (s.setVm vm).vm := State.Warmed39.trans (t := s) hZ S.1
  have hown' : (s.setVm vm).vm.findClass y.cls = some m.cls := (S.1.alike.findClass _ _).trans hown
  obtain ⟨k1, z1, A1, ez1⟩ := V
  obtain ⟨k2, z2, A2, ez2⟩ := U
  obtain ⟨T', h', L, X', e', N', KW, Aw, stp⟩ := cpA X hx hZ' hown' w1 w2 w3 w4 e0 A1 A2 (Or.inl ⟨rfl, hty⟩) h1 h2 h3 (by rw [e1, e3, ez1]; exact h4) (by rw [e2, e3, ez2]; exact h5) (us := (vs.drop ms).take n) (by rw [e1, e3]; exact (copy_us h4).symm) (by rw [e2, e3]; exact h5) N (ow b ho).2.1 (g := mkF m pc Ls (.int nn :: .int dp :: .ref b :: .int sp :: .ref a :: st)) rfl (hsz.trans hml.symm) rfl (hb hc' g1) hf (W := (st.map fun v => v.category).sum) (by show 2 * 0 + _ ≤ _; omega) hlo
  rw [e2, e3, hvd] at Aw
  have os1 : ∀ x ∈ [b], x ∈ os := fun x hx => by cases List.mem_singleton.mp hx; exact ho
  have Ch := CHr.keep KW (safeOs ow os1) A.1
  refine mov (K h' KW ⟨k2, z2, Aw, ?_⟩) X' e' N' (Since.up S KW.1) w' (A.trans Ch) (keepOs Kp KW ow os1) (fun x hx => (ow x hx).chr Ch) stp
  rw [ez2, ← hvd]; simp; omega
theorem Go.ldcO {k : KT} (C : Ctx k l y bytes maxL ret R Z a0 EL true wr h0 Q) {pc pc' i : Nat} {text : String} (w : (Cond.stringLink y.cls i text).before a0 Z = true) (wS : ∀ a ∈ Bundle.stringAtoms, a.before a0 Z = true) (hd : De bytes pc (.ldc i) 2 pc') {n : Nat} (hn : 4 * text.toList.length ≤ n) (hbig : n ≤ 536870912) (hc : cells + 2 ≤ R.cells) (hl : slots + (n + 4) ≤ R.slots)
    (K : ∀ (a : Addr) (h' : Heap), Keep h h' [] → Go k h' os (cells + 2) (slots + (n + 4)) pc' Ls (.ref a :: st)) : Go k h os cells slots pc Ls st := by
  obtain ⟨p, l', e, R', s, m, args, below, meth, c, Z', EL', wd', wr', Q'⟩ := k
  obtain ⟨⟨rfl, rfl, rfl, rfl, rfl, rfl, rfl, rfl⟩, hx, hc', hml, hret, hlk, hnm, hZ, hown, hEL, hE, hwr⟩ := C
  obtain ⟨h1, rfl⟩ := hd
  intro T locs vm X e0 N S w' A Kp ow
  have hZ' : Z'.Warmed39 vm := State.Warmed39.trans (t := s) hZ S.1
  have hown' : vm.findClass y.cls = some m.cls := (S.1.alike.findClass _ _).trans hown
  obtain ⟨a, T', h', k1, X', e', E, S', hk1, -, -, Ch, -, stp⟩ := ldcOH X hx hZ' hown' w wS e0 S (Nat.le_refl _) hEL A.1 (g := mkF m pc Ls st) rfl (hb hc' h1) hn hbig hc hl
  refine mov (K a h' (Keep.ofExt E)) X' e' N (Since.up S' hk1) (fun q => Bool.noConfusion q) (A.trans Ch) (Kp.ext E) (fun x hx => (ow x hx).chr Ch) stp
theorem Go.checkcast {k : KT} (C : Ctx k l y bytes maxL ret R Z a0 EL wd wr h0 Q) {pc pc' i : Nat} {a : Addr} {Kn : String} (I : Ins Z h a Kn true) (w : (Cond.classLink y.cls i Kn).before a0 Z = true) (hd : De bytes pc (.checkcast i) 3 pc') (K : Go k h os cells slots pc' Ls (.ref a :: st)) : Go k h os cells slots pc Ls (.ref a :: st) := by
  obtain ⟨p, l', e, R', s, m, args, below, meth, c, Z', EL', wd', wr', Q'⟩ := k
  obtain ⟨⟨rfl, rfl, rfl, rfl, rfl, rfl, rfl, rfl⟩, hx, hc', hml, hret, hlk, hnm, hZ, hown, hEL, hE, hwr⟩ := C
  obtain ⟨h1, rfl⟩ := hd
  intro T locs vm X e0 N S w' A Kp ow
  have hZ' : Z'.Warmed39 (s.setVm vm).vm := State.Warmed39.trans (t := s) hZ S.1
  have hown' : (s.setVm vm).vm.findClass y.cls = some m.cls := (S.1.alike.findClass _ _).trans hown
  obtain ⟨T', X', e', stp⟩ := castY X hx hZ' hown' w e0 I (g := mkF m pc Ls (.ref a :: st)) rfl rfl (hb hc' h1)
  exact mov K X' e' N S w' A Kp ow stp
theorem Go.checkcastNull {k : KT} (C : Ctx k l y bytes maxL ret R Z a0 EL wd wr h0 Q) {pc pc' i : Nat} (hd : De bytes pc (.checkcast i) 3 pc') (K : Go k h os cells slots pc' Ls (.null :: st)) : Go k h os cells slots pc Ls (.null :: st) := by
  obtain ⟨p, l', e, R', s, m, args, below, meth, c, Z', EL', wd', wr', Q'⟩ := k
  obtain ⟨⟨rfl, rfl, rfl, rfl, rfl, rfl, rfl, rfl⟩, hx, hc', hml, hret, hlk, hnm, hZ, hown, hEL, hE, hwr⟩ := C
  obtain ⟨h1, rfl⟩ := hd
  intro T locs vm X e0 N S w' A Kp ow
  exact mov K X e0 N S w' A Kp ow (X.checkcastNull hx (g := mkF m pc Ls (.null :: st)) rfl rfl (hb hc' h1))
theorem Go.instanceofYes {k : KT} (C : Ctx k l y bytes maxL ret R Z a0 EL wd wr h0 Q) {pc pc' i : Nat} {a : Addr} {Kn : String} (I : Ins Z h a Kn true) (w : (Cond.classLink y.cls i Kn).before a0 Z = true) (hd : De bytes pc (.instanceof i) 3 pc') (K : Go k h os cells slots pc' Ls (.int 1 :: st)) : Go k h os cells slots pc Ls (.ref a :: st) := by
  obtain ⟨p, l', e, R', s, m, args, below, meth, c, Z', EL', wd', wr', Q'⟩ := k
  obtain ⟨⟨rfl, rfl, rfl, rfl, rfl, rfl, rfl, rfl⟩, hx, hc', hml, hret, hlk, hnm, hZ, hown, hEL, hE, hwr⟩ := C
  obtain ⟨h1, rfl⟩ := hd
  intro T locs vm X e0 N S w' A Kp ow
  have hZ' : Z'.Warmed39 (s.setVm vm).vm := State.Warmed39.trans (t := s) hZ S.1
  have hown' : (s.setVm vm).vm.findClass y.cls = some m.cls := (S.1.alike.findClass _ _).trans hown
  obtain ⟨T', X', e', stp⟩ := instY X hx hZ' hown' w e0 I (g := mkF m pc Ls (.ref a :: st)) rfl rfl (hb hc' h1)
  exact mov K X' e' N S w' A Kp ow stp
theorem noSub {C O K : String} {n : Nat} (w1 : (Cond.superclass C O).before a0 Z = true) (w0 : (Cond.noSuperclass O).before a0 Z = true) (wk : (Cond.instantiable K n).before a0 Z = true) (q1 : C ≠ K) (q2 : O ≠ K) : ∃ c t, Z.vm.findClass C = some c ∧ Z.vm.findClass K = some t ∧ Z.vm.assignable c t = false := by
  obtain ⟨c, hc⟩ := found_sup w1
  obtain ⟨o, k, kp, a1, a2, a3, a4, a5, a6, a7⟩ := Cond.superclass_spec hc w1
  obtain ⟨o', ko, b1, b2, b3, -, -⟩ := Cond.noSuperclass_spec w0
  obtain ⟨t, kt, t1, t2, t3, t4, -⟩ := Cond.instantiable_spec wk
  cases a1.symm.trans b1
  have n1 := ids_ne hc t1 q1
  have n2 := ids_ne b1 t1 q2
  have hi : kt.isInterface = false := (Bool.or_eq_false_iff.mp t4).1
  refine ⟨c, t, hc, t1, ?_⟩
  have sub : ∀ fuel, Z.vm.isSubclassAux fuel c t = false := fun fuel => by
    rcases fuel with _ | _ | f
    · rfl
    · simp [Vm.isSubclassAux, n1, a2, a4]
    · simp [Vm.isSubclassAux, n1, n2, a2, a4, b2, b3]
  show Z.vm.assignableAux (255 + 1) c t = false
  simp [Vm.assignableAux, n1, a2, t2, a5, t3, hi, Vm.isSubclass, sub]
theorem Go.instanceofNo {k : KT} (C : Ctx k l y bytes maxL ret R Z a0 EL wd wr h0 Q) {pc pc' i : Nat} {a : Addr} {Cn Kn : String} (E : Exa Z h a Cn) (F : ∃ c t, Z.vm.findClass Cn = some c ∧ Z.vm.findClass Kn = some t ∧ Z.vm.assignable c t = false) (w : (Cond.classLink y.cls i Kn).before a0 Z = true) (hd : De bytes pc (.instanceof i) 3 pc') (K : Go k h os cells slots pc' Ls (.int 0 :: st)) : Go k h os cells slots pc Ls (.ref a :: st) := by
  obtain ⟨p, l', e, R', s, m, args, below, meth, c, Z', EL', wd', wr', Q'⟩ := k
  obtain ⟨⟨rfl, rfl, rfl, rfl, rfl, rfl, rfl, rfl⟩, hx, hc', hml, hret, hlk, hnm, hZ, hown, hEL, hE, hwr⟩ := C
  obtain ⟨h1, rfl⟩ := hd
  intro T locs vm X e0 N S w' A Kp ow
  have hZ' : Z'.Warmed39 (s.setVm vm).vm := State.Warmed39.trans (t := s) hZ S.1
  have hown' : (s.setVm vm).vm.findClass y.cls = some m.cls := (S.1.alike.findClass _ _).trans hown
  obtain ⟨T', X', e', stp⟩ := instNo X hx hZ' hown' w e0 E F (g := mkF m pc Ls (.ref a :: st)) rfl rfl (hb hc' h1)
  exact mov K X' e' N S w' A Kp ow stp
theorem Go.instanceofNull {k : KT} (C : Ctx k l y bytes maxL ret R Z a0 EL wd wr h0 Q) {pc pc' i : Nat} (hd : De bytes pc (.instanceof i) 3 pc') (K : Go k h os cells slots pc' Ls (.int 0 :: st)) : Go k h os cells slots pc Ls (.null :: st) := by
  obtain ⟨p, l', e, R', s, m, args, below, meth, c, Z', EL', wd', wr', Q'⟩ := k
  obtain ⟨⟨rfl, rfl, rfl, rfl, rfl, rfl, rfl, rfl⟩, hx, hc', hml, hret, hlk, hnm, hZ, hown, hEL, hE, hwr⟩ := C
  obtain ⟨h1, rfl⟩ := hd
  intro T locs vm X e0 N S w' A Kp ow
  exact mov K X e0 N S w' A Kp ow (X.instanceofNull hx (g := mkF m pc Ls (.null :: st)) rfl rfl (hb hc' h1))
theorem Go.initO {k : KT} (C : Ctx k l y bytes maxL ret R Z a0 EL wd wr h0 Q) {pc pc' i : Nat} {a : Addr} (w1 : (Cond.methodLink y.cls i Lib.objectInit).before a0 Z = true) (w2 : (Cond.instanceMethod Lib.objectInit).before a0 Z = true) (w3 : (Cond.code Lib.objectInit ⟨#[0xb1]⟩ 1 none).before a0 Z = true)
    (hd : De bytes pc (.invokespecial i) 3 pc') (hs : Ls.size = maxL) (hf : 1 ≤ R.frames) (hl : (st.map fun v => v.category).sum + 12 ≤ R.locals) (K : Go k h os cells slots pc' Ls st) : Go k h os cells slots pc Ls (.ref a :: st) := by
  obtain ⟨p, l', e, R', s, m, args, below, meth, c, Z', EL', wd', wr', Q'⟩ := k
  obtain ⟨⟨rfl, rfl, rfl, rfl, rfl, rfl, rfl, rfl⟩, hx, hc', hml, hret, hlk, hnm, hZ, hown, hEL, hE, hwr⟩ := C
  obtain ⟨h1, rfl⟩ := hd
  intro T locs vm X e0 N S w' A Kp ow
  have hZ' : Z'.Warmed39 (s.setVm vm).vm := State.Warmed39.trans (t := s) hZ S.1
  have hown' : (s.setVm vm).vm.findClass y.cls = some m.cls := (S.1.alike.findClass _ _).trans hown
  obtain ⟨T', X', e', stp⟩ := RoadKit.initO X hx hZ' hown' w1 w2 w3 e0 (g := mkF m pc Ls (.ref a :: st)) rfl (hs.trans hml.symm) rfl (hb hc' h1) hf (W := (st.map fun v => v.category).sum) (by show 2 * 0 + _ ≤ _; omega) hl
  exact mov K X' e' N S w' A Kp ow stp
theorem Go.acmp {k : KT} (C : Ctx k l y bytes maxL ret R Z a0 EL wd wr h0 Q) {pc pc' pcT : Nat} {cd : ACond} {u v : Value} (same : Bool) (hd : DeJ bytes pc (.if_acmp cd) pc' pcT) (h1 : u.isRef = true) (h2 : v.isRef = true) (hq : decide (u = v) = same) {pcN : Nat} (hp : pcN = if acV cd same = true then pcT else pc') (K : Go k h os cells slots pcN Ls st) : Go k h os cells slots pc Ls (v :: u :: st) := by
  obtain ⟨p, l', e, R', s, m, args, below, meth, c, Z', EL', wd', wr', Q'⟩ := k
  obtain ⟨⟨rfl, rfl, rfl, rfl, rfl, rfl, rfl, rfl⟩, hx, hc', hml, hret, hlk, hnm, hZ, hown, hEL, hE, hwr⟩ := C
  obtain ⟨o, g1, rfl, g2, g3⟩ := hd
  intro T locs vm X e0 N S w' A Kp ow
  refine Fen.of (fun t kt => RoadKit.acmp X hx (g := mkF m pc Ls (v :: u :: st)) rfl h1 h2 (pc0 := pc) (pc' := pcN) (same := same) rfl (hb hc' g1) rfl hq g2 (by rw [hp, g3]) kt) (K T locs vm X e0 N S w' A Kp ow)
theorem Go.eqI {k : KT} {pc : Nat} {x x' : Int32} (e : x = x') (K : Go k h os cells slots pc Ls (.int x' :: st)) : Go k h os cells slots pc Ls (.int x :: st) := e ▸ K
theorem Go.eqJ {k : KT} {pc : Nat} {x x' : Int64} (e : x = x') (K : Go k h os cells slots pc Ls (.long x' :: st)) : Go k h os cells slots pc Ls (.long x :: st) := e ▸ K
theorem ne_lt {a b n : Nat} (q : a < n) (e : n ≤ b) : a ≠ b := Nat.ne_of_lt (Nat.lt_of_lt_of_le q e)
theorem ge_of {b n : Nat} (e : b = n) : n ≤ b := Nat.le_of_eq e.symm
theorem Go.ldcI {k : KT} (C : Ctx k l y bytes maxL ret R Z a0 EL wd wr h0 Q) {pc pc' i : Nat} {v : Int32} (w : (Cond.constant y.cls i v).before a0 Z = true) (hd : De bytes pc (.ldc i) 2 pc') (K : Go k h os cells slots pc' Ls (.int v :: st)) : Go k h os cells slots pc Ls st := by
  obtain ⟨p, l', e, R', s, m, args, below, meth, c, Z', EL', wd', wr', Q'⟩ := k
  obtain ⟨⟨rfl, rfl, rfl, rfl, rfl, rfl, rfl, rfl⟩, hx, hc', hml, hret, hlk, hnm, hZ, hown, hEL, hE, hwr⟩ := C
  obtain ⟨h1, rfl⟩ := hd
  intro T locs vm X e0 N S w' A Kp ow
  have hZ' : Z'.Warmed39 (s.setVm vm).vm := State.Warmed39.trans (t := s) hZ S.1
  have hown' : (s.setVm vm).vm.findClass y.cls = some m.cls := (S.1.alike.findClass _ _).trans hown
  exact mov K X e0 N S w' A Kp ow (X.ldcInt hx hown' (mvT hZ' w) (g := mkF m pc Ls st) rfl (hb hc' h1))
theorem Go.ldcWI {k : KT} (C : Ctx k l y bytes maxL ret R Z a0 EL wd wr h0 Q) {pc pc' i : Nat} {v : Int32} (w : (Cond.constant y.cls i v).before a0 Z = true) (hd : De bytes pc (.ldc_w i) 3 pc') (K : Go k h os cells slots pc' Ls (.int v :: st)) : Go k h os cells slots pc Ls st := by
  obtain ⟨p, l', e, R', s, m, args, below, meth, c, Z', EL', wd', wr', Q'⟩ := k
  obtain ⟨⟨rfl, rfl, rfl, rfl, rfl, rfl, rfl, rfl⟩, hx, hc', hml, hret, hlk, hnm, hZ, hown, hEL, hE, hwr⟩ := C
  obtain ⟨h1, rfl⟩ := hd
  intro T locs vm X e0 N S w' A Kp ow
  have hZ' : Z'.Warmed39 (s.setVm vm).vm := State.Warmed39.trans (t := s) hZ S.1
  have hown' : (s.setVm vm).vm.findClass y.cls = some m.cls := (S.1.alike.findClass _ _).trans hown
  exact mov K X e0 N S w' A Kp ow (X.ldcwInt hx hown' (mvT hZ' w) (g := mkF m pc Ls st) rfl (hb hc' h1))
theorem Go.ldcJ {k : KT} (C : Ctx k l y bytes maxL ret R Z a0 EL wd wr h0 Q) {pc pc' i : Nat} {v : Int64} (w : (Cond.constantLong y.cls i v).before a0 Z = true) (hd : De bytes pc (.ldc2_w i) 3 pc') (K : Go k h os cells slots pc' Ls (.long v :: st)) : Go k h os cells slots pc Ls st := by
  obtain ⟨p, l', e, R', s, m, args, below, meth, c, Z', EL', wd', wr', Q'⟩ := k
  obtain ⟨⟨rfl, rfl, rfl, rfl, rfl, rfl, rfl, rfl⟩, hx, hc', hml, hret, hlk, hnm, hZ, hown, hEL, hE, hwr⟩ := C
  obtain ⟨h1, rfl⟩ := hd
  intro T locs vm X e0 N S w' A Kp ow
  have hZ' : Z'.Warmed39 (s.setVm vm).vm := State.Warmed39.trans (t := s) hZ S.1
  have hown' : (s.setVm vm).vm.findClass y.cls = some m.cls := (S.1.alike.findClass _ _).trans hown
  exact mov K X e0 N S w' A Kp ow (X.ldc2Long hx hown' (mvT hZ' w) (g := mkF m pc Ls st) rfl (hb hc' h1))
theorem sizeExt {h' : Heap} {a : Addr} {C : String} (E : Exa Z h' a C) : a < h'.size := E.lt
theorem Go.ldcStr {k : KT} (C : Ctx k l y bytes maxL ret R Z a0 EL true wr h0 Q) {pc pc' i : Nat} {text : String} (w : (Cond.stringLink y.cls i text).before a0 Z = true) (wS : ∀ a ∈ Bundle.stringAtoms, a.before a0 Z = true) (hmem : (y.cls, i) ∈ EL) {bs : List Int32}
    (ht : (∀ c ∈ text.toList, c.toNat < 256) ∧ text.toList.map (fun c => Value.int (Jvm.Lit.byteI c.toNat.toUInt16)) = bs.map .int) (hln : (Int32.ofNat bs.length).toNatClampNeg = bs.length ∧ ¬ (Int32.ofNat bs.length) < 0) (hd : De bytes pc (.ldc i) 2 pc') {n : Nat} (hn : 4 * text.toList.length ≤ n) (hbig : n ≤ 536870912) (hc : cells + 2 ≤ R.cells) (hl : slots + (n + 4) ≤ R.slots)
    (K : ∀ (a t : Addr) (h' : Heap), Keep h h' [] → Str Z h' a t bs → (∀ x ∈ os, a ≠ x ∧ t ≠ x) → Go k h' os (cells + 2) (slots + (n + 4)) pc' Ls (.ref a :: st)) : Go k h os cells slots pc Ls st := by
  obtain ⟨p, l', e, R', s, m, args, below, meth, c, Z', EL', wd', wr', Q'⟩ := k
  obtain ⟨⟨rfl, rfl, rfl, rfl, rfl, rfl, rfl, rfl⟩, hx, hc', hml, hret, hlk, hnm, hZ, hown, hEL, hE, hwr⟩ := C
  obtain ⟨h1, rfl⟩ := hd
  intro T locs vm X e0 N S w' A Kp ow
  have hZ' : Z'.Warmed39 vm := State.Warmed39.trans (t := s) hZ S.1
  have hown' : vm.findClass y.cls = some m.cls := (S.1.alike.findClass _ _).trans hown
  obtain ⟨a, T', h', k1, b, kc, X', e', E, S', hk1, -, -, Ex, Fc, Fv, Av1, -, -, Ch, -, hsf, stp⟩ := ldcCH X hx hZ' hown' w wS e0 S (Nat.le_refl _) hEL hmem A.1 (vs := bs.map .int) (z := Int32.ofNat bs.length) ht hln.2 (by rw [hln.1]; simp) (g := mkF m pc Ls st) rfl (hb hc' h1) hn hbig hc hl
  have Sx : Str Z' h' a b bs := ⟨⟨Ex, rfl, fun i q v g1 g2 => by
    match i, g1, g2 with
    | 0, g1, g2 => cases g1; cases g2; exact Fv
    | 1, g1, g2 => cases g1; cases g2; exact Fc
    | i + 2, g1, g2 => simp [fStr] at g1⟩, ⟨kc, Int32.ofNat bs.length, Av1, by rw [hln.1]; simp⟩⟩
  have Kx : Keep h h' [] := Keep.ofExt E
  refine mov (K a b h' Kx Sx fun x hx => ⟨fun q => (hsf x ((ow x hx).chr Ch).1).1 q.symm, fun q => (hsf x ((ow x hx).chr Ch).1).2 q.symm⟩) X' e' N (Since.up S' hk1) (fun q => Bool.noConfusion q) (A.trans Ch) (Kp.ext E) (fun x hx => (ow x hx).chr Ch) stp
theorem Go.acmpne {k : KT} (C : Ctx k l y bytes maxL ret R Z a0 EL wd wr h0 Q) {pc pc' pcT : Nat} {a b : Addr} (hd : DeJ bytes pc (.if_acmp .ne) pc' pcT) (KD : ¬ (a = b) → Go k h os cells slots pcT Ls st) (KS : a = b → Go k h os cells slots pc' Ls st) : Go k h os cells slots pc Ls (.ref b :: .ref a :: st) := by
  by_cases q : a = b
  · exact Go.acmp C true hd rfl rfl (decide_eq_true (congrArg _ q)) rfl (KS q)
  · exact Go.acmp C false hd rfl rfl (decide_eq_false fun z => q (Value.ref.inj z)) rfl (KD q)
theorem Go.acmpeq {k : KT} (C : Ctx k l y bytes maxL ret R Z a0 EL wd wr h0 Q) {pc pc' pcT : Nat} {a b : Addr} (hd : DeJ bytes pc (.if_acmp .eq) pc' pcT) (KS : a = b → Go k h os cells slots pcT Ls st) (KD : ¬ (a = b) → Go k h os cells slots pc' Ls st) : Go k h os cells slots pc Ls (.ref b :: .ref a :: st) := by
  by_cases q : a = b
  · exact Go.acmp C true hd rfl rfl (decide_eq_true (congrArg _ q)) rfl (KS q)
  · exact Go.acmp C false hd rfl rfl (decide_eq_false fun z => q (Value.ref.inj z)) rfl (KD q)
/-- a callee's contract, as its caller takes it -/
theorem conBack {p : Program} {e : Env} {s : State} {args : Array Value} {below : List Frame} {z : MethodName} {bz : ByteArray} {mz : Nat} {rz : Option FieldType} {rm : Room} {as' : Array Value} {wr' : List Addr} {Q' : QT} {vm : Vm} {len W : Nat}
    (M : Con l Z EL wd z bz mz rz rm [] as' h wr' Q') (hZ : Z.Warmed39 vm) (wc : (Cond.code z bz mz rz).before a0 Z = true) (wz : (Cond.initialized z.cls).before a0 Z = true) (hf : rm.frames + 1 ≤ R.frames) (hl : W + (mz + 11) + rm.locals ≤ R.locals) (hEL : EW Z a0 EL) (H : CHv Z EL vm h) (hE : Ext Z.heap h) (hs : ∀ x ∈ wr', Safe Z EL vm h x ∧ Z.heap.size ≤ x ∧ x < h.size) :
    BackS l R p e below (s.setVm vm) args z len W (fun A a => a = as' ∧ A.U.heap = h ∧ A.cells + rm.cells ≤ R.cells ∧ A.slots + rm.slots ≤ R.slots)
      (fun A _ v B => ∃ L os, Q' v B.U.heap os ∧ (∀ x ∈ os, Safe Z EL B.U.vm B.U.heap x ∧ h.size ≤ x ∧ x < B.U.heap.size) ∧ Keep h B.U.heap wr' ∧ Fr Z.heap.size L ∧ CHr Z EL vm h B.U.vm B.U.heap ∧ (wd = false → (s.setVm vm).WarmedH B.U.vm) ∧ B.locs = A.locs ++ L ∧ B.cells = A.cells + rm.cells ∧ B.slots = A.slots + rm.slots) :=
  BackS.of_freeW (bytes := bz) (maxL := mz) (ret := rz) (E := fun _ first o t L k n => k = rm.cells ∧ n = rm.slots ∧ (∃ v os, o = .returned v ∧ Q' v t.heap os ∧ (∀ x ∈ os, Safe Z EL t.vm t.heap x ∧ first.heap.size ≤ x ∧ x < t.heap.size) ∧ Keep first.heap t.heap wr' ∧ Fr Z.heap.size L) ∧ CHr Z EL first.vm first.heap t.vm t.heap ∧ (wd = false → first.WarmedH t.vm)) M hf hl
    (fun m meth c A a Y hp => have hU : Z.Warmed39 A.U.vm := wtrans (s := s.setVm vm) hZ Y.warmed
      ⟨by show (Cond.and _ .tt).before a A.U = true; rw [Cond.before_and, mv hU wc]; rfl, mv hU wc, mv hU wz, hp.2.2.1, hp.2.2.2⟩)
    (fun m meth c A a g mk Y hp => ⟨hp.1, wtrans (s := s.setVm vm) hZ Y.warmed, hp.2.1, (CHv.at Y hZ hEL H).1, hE, fun x hx => ⟨(CHv.at Y hZ hEL H).safe (hs x hx).2.2 (hs x hx).1, (hs x hx).2⟩⟩) (fun _ _ _ _ _ _ _ _ _ => trivial)
    (fun _ _ _ _ ⟨v, L, os, h1, h2, h3, h4, h5, h6, h7, h8⟩ => ⟨L, _, _, h7, rfl, rfl, ⟨v, os, h1, h2, h3, h4, h5⟩, h6, fun q => (h8 q).2.1⟩)
    (fun m meth c A a g mk v t L k n Y hp _ _ ⟨e1, e2, ⟨v', os, e3, e4, e5, e6, e7⟩, e8, e9⟩ => by
      cases e3; subst e1 e2
      have eh : (A.U.calling g mk a).heap = h := hp.2.1
      rw [eh] at e6 e8
      refine ⟨L, os, e4, fun x hx => ?_, e6, e7, (CHv.at Y hZ hEL H).trans e8, fun q => State.WarmedH.trans Y.warmed (e9 q), rfl, rfl, rfl⟩
      have := e5 x hx
      rw [eh] at this; exact this)
theorem afterCall {p : Program} {e : Env} {s : State} {m : MethodId} {args : Array Value} {below : List Frame} {meth : Method} {c : Code} {T : State} {locs : List Loc} {vm : Vm} {rm : Room} {wr' : List Addr} {Q' : QT} {pc pc' : Nat} {st0 : List Value} {v : Option Value} {B : Pt} {L : List Loc} {os' : List Addr}
    (N : Fr Z.heap.size locs) (S : s.Since vm h.size) (w : wd = false → s.WarmedH vm) (A : CHr Z EL s.vm s.heap vm h) (Kp : Keep s.heap h wr) (hE : Ext Z.heap s.heap) (ow : ∀ x ∈ os, Own Z s.heap EL wr vm h x) (how : ∀ x ∈ wr', x ∈ os)
    (K : Go ⟨p, l, e, R, s, m, args, below, meth, c, Z, EL, wd, wr, Q⟩ B.U.heap (os' ++ os) (cells + rm.cells) (slots + rm.slots) pc' Ls (v.toList ++ st))
    (X' : Stand p l e R ((s.setVm vm).setVm B.U.vm) m args below meth c B.U B.locs B.cells B.slots) (hS : (s.setVm vm).Since B.U.vm B.U.heap.size) (hgr : h.size ≤ B.U.heap.size)
    (q2 : ∀ x ∈ os', Safe Z EL B.U.vm B.U.heap x ∧ h.size ≤ x ∧ x < B.U.heap.size) (q3 : Keep h B.U.heap wr') (q4 : Fr Z.heap.size L) (q5 : CHr Z EL vm h B.U.vm B.U.heap) (q6 : wd = false → (s.setVm vm).WarmedH B.U.vm) (q7 : B.locs = locs ++ L) (q8 : B.cells = cells + rm.cells) (q9 : B.slots = slots + rm.slots)
    (stp : Steps p.tables e below (T.setTop (mkF m pc Ls st0)) (B.U.setTop (mkF m pc' Ls (v.toList ++ st)))) : Fen p e below (Done Z EL wd R wr Q s) (T.setTop (mkF m pc Ls st0)) := by
  rw [q7, q8, q9] at X'
  refine mov (vm' := B.U.vm) K X' rfl (N.app q4) (S.trans hS hgr) (fun q => State.WarmedH.trans (w q) (q6 q)) (A.trans q5) (keepOs Kp q3 ow how) (fun x hx => ?_) (fun t kt => stp.trans kt)
  rcases List.mem_append.mp hx with hx | hx
  · obtain ⟨z1, z2, z3⟩ := q2 x hx
    exact ⟨z1, Nat.le_trans hE.1 (Nat.le_trans Kp.1 z2), z3, Or.inr (Nat.le_trans Kp.1 z2)⟩
  · exact (ow x hx).chr q5
theorem Go.callS {k : KT} (C : Ctx k l y bytes maxL ret R Z a0 EL wd wr h0 Q) {pc pc' : Nat} {i : Nat} {z : MethodName} {bz : ByteArray} {mz : Nat} {rz : Option FieldType} {rm : Room} {wr' : List Addr} {Q' : QT} {argsL : List Value} {ps : List FieldType} {rr : Option FieldType}
    (M : Con l Z EL wd z bz mz rz rm [] argsL.toArray h wr' Q') (w1 : (Cond.methodLink y.cls i z).before a0 Z = true) (w2 : (Cond.static z).before a0 Z = true) (w3 : (Cond.initialized z.cls).before a0 Z = true) (w4 : (Cond.code z bz mz rz).before a0 Z = true) (hd : De bytes pc (.invokestatic i) 3 pc') (hpd : parseMethodDescriptor z.desc = some ⟨ps, rr⟩) (hln : argsL.length = ps.length) (hmh : z.cls ≠ "java/lang/invoke/MethodHandle" ∧ z.cls ≠ "java/lang/invoke/VarHandle") (hsz : Ls.size = maxL) {st0 : List Value} (hst : st0 = argsL.reverse ++ st) (hfr : rm.frames + 1 ≤ R.frames) (hlo : (st.map fun v => v.category).sum + (mz + 11) + rm.locals ≤ R.locals) (hce : cells + rm.cells ≤ R.cells) (hsl : slots + rm.slots ≤ R.slots) (how : ∀ x ∈ wr', x ∈ os)
    (K : ∀ (v : Option Value) (h' : Heap) (os' : List Addr), Q' v h' os' → Keep h h' wr' → (∀ x ∈ os', h.size ≤ x ∧ x < h'.size) → Go k h' (os' ++ os) (cells + rm.cells) (slots + rm.slots) pc' Ls (v.toList ++ st)) : Go k h os cells slots pc Ls st0 := by
  obtain ⟨p, l', e, R', s, m, args, below, meth, c, Z', EL', wd', wr', Q'⟩ := k
  obtain ⟨⟨rfl, rfl, rfl, rfl, rfl, rfl, rfl, rfl⟩, hx, hc', hml, hret, hlk, hnm, hZ, hown, hEL, hE, hwr⟩ := C
  obtain ⟨h1, rfl⟩ := hd
  intro T locs vm X e0 N S w' A Kp ow
  have hZ' : Z'.Warmed39 (s.setVm vm).vm := State.Warmed39.trans (t := s) hZ S.1
  have hown' : (s.setVm vm).vm.findClass y.cls = some m.cls := (S.1.alike.findClass _ _).trans hown
  subst hst
  obtain ⟨v, vm₁, B, -, X', hS, hgr, hpost, stp⟩ := callSS X hx hown' (mvT hZ' w1) (mvT hZ' w2) (mvT hZ' w3) (mvT hZ' w4) hmh (conBack (p := p) (e := e) (below := below) (s := s) (args := args) M hZ' w4 w3 hfr hlo hEL A.1 (ext0 hE Kp hwr) (fun x hx => ⟨(ow x (how x hx)).1, (ow x (how x hx)).2.1, (ow x (how x hx)).2.2.1⟩)) (g := mkF m pc Ls (argsL.reverse ++ st)) rfl (hsz.trans hml.symm) (argsL := argsL) (rest := st) (lenOf hpd hln) rfl (by show 2 * 0 + _ ≤ _; exact Nat.le_of_eq (Nat.zero_add _)) (hb hc' h1) (fun _ _ => ⟨rfl, e0, hce, hsl⟩)
  obtain ⟨L, os', q1, q2, q3, q4, q5, q6, q7, q8, q9⟩ := hpost
  exact afterCall (Q' := Q') (rm := rm) N S w' A Kp hE ow how (K v B.U.heap os' q1 q3 fun x hx => (q2 x hx).2) X' hS (e0 ▸ hgr) q2 q3 q4 q5 q6 q7 q8 q9 stp
theorem Go.callI {k : KT} (C : Ctx k l y bytes maxL ret R Z a0 EL wd wr h0 Q) {pc pc' : Nat} {i : Nat} {a : Addr} {z : MethodName} {bz : ByteArray} {mz : Nat} {rm : Room} {wr' : List Addr} {Q' : QT} {argsL : List Value} {ps : List FieldType} {rr : Option FieldType}
    (M : Con l Z EL wd z bz mz none rm [] (.ref a :: argsL).toArray h wr' Q') (hin : z.name = "<init>") (w1 : (Cond.methodLink y.cls i z).before a0 Z = true) (w2 : (Cond.instanceMethod z).before a0 Z = true) (w3 : (Cond.initialized z.cls).before a0 Z = true) (w4 : (Cond.code z bz mz none).before a0 Z = true) (hd : De bytes pc (.invokespecial i) 3 pc') (hpd : parseMethodDescriptor z.desc = some ⟨ps, rr⟩) (hln : argsL.length = ps.length) (hmh : z.cls ≠ "java/lang/invoke/MethodHandle" ∧ z.cls ≠ "java/lang/invoke/VarHandle") (hsz : Ls.size = maxL) {st0 : List Value} (hst : st0 = argsL.reverse ++ .ref a :: st) (hfr : rm.frames + 1 ≤ R.frames) (hlo : (st.map fun v => v.category).sum + (mz + 11) + rm.locals ≤ R.locals) (hce : cells + rm.cells ≤ R.cells) (hsl : slots + rm.slots ≤ R.slots) (how : ∀ x ∈ wr', x ∈ os)
    (K : ∀ (v : Option Value) (h' : Heap) (os' : List Addr), Q' v h' os' → Keep h h' wr' → (∀ x ∈ os', h.size ≤ x ∧ x < h'.size) → Go k h' (os' ++ os) (cells + rm.cells) (slots + rm.slots) pc' Ls (v.toList ++ st)) : Go k h os cells slots pc Ls st0 := by
  obtain ⟨p, l', e, R', s, m, args, below, meth, c, Z', EL', wd', wr', Q'⟩ := k
  obtain ⟨⟨rfl, rfl, rfl, rfl, rfl, rfl, rfl, rfl⟩, hx, hc', hml, hret, hlk, hnm, hZ, hown, hEL, hE, hwr⟩ := C
  obtain ⟨h1, rfl⟩ := hd
  intro T locs vm X e0 N S w' A Kp ow
  have hZ' : Z'.Warmed39 (s.setVm vm).vm := State.Warmed39.trans (t := s) hZ S.1
  have hown' : (s.setVm vm).vm.findClass y.cls = some m.cls := (S.1.alike.findClass _ _).trans hown
  subst hst
  obtain ⟨v, vm₁, B, -, X', hS, hgr, hpost, stp⟩ := X.specialBackS hx hin hown' (mvT hZ' w1) (mvT hZ' w2) (mvT hZ' w4) hmh (conBack (p := p) (e := e) (below := below) (s := s) (args := args) M hZ' w4 w3 hfr hlo hEL A.1 (ext0 hE Kp hwr) (fun x hx => ⟨(ow x (how x hx)).1, (ow x (how x hx)).2.1, (ow x (how x hx)).2.2.1⟩)) (g := mkF m pc Ls (argsL.reverse ++ .ref a :: st)) rfl (hsz.trans hml.symm) (Steps.refl _) (a := a) (argsL := argsL) (rest := st) (lenOf hpd hln) rfl (by show 2 * 0 + _ ≤ _; exact Nat.le_of_eq (Nat.zero_add _)) (hb hc' h1) (fun _ _ => ⟨rfl, e0, hce, hsl⟩)
  obtain ⟨L, os', q1, q2, q3, q4, q5, q6, q7, q8, q9⟩ := hpost
  exact afterCall (Q' := Q') (rm := rm) N S w' A Kp hE ow how (K v B.U.heap os' q1 q3 fun x hx => (q2 x hx).2) X' hS (e0 ▸ hgr) q2 q3 q4 q5 q6 q7 q8 q9 stp
theorem Go.callV {k : KT} (C : Ctx k l y bytes maxL ret R Z a0 EL wd wr h0 Q) {pc pc' : Nat} {i : Nat} {a : Addr} {Cn : String} {zr : MethodName} {z : MethodName} {bz : ByteArray} {mz : Nat} {rz : Option FieldType} {rm : Room} {wr' : List Addr} {Q' : QT} {argsL : List Value} {ps : List FieldType} {rr : Option FieldType}
    (M : Con l Z EL wd z bz mz rz rm [] (.ref a :: argsL).toArray h wr' Q') (Ex : Exa Z h a Cn) (w1 : (Cond.methodLink y.cls i zr).before a0 Z = true) (wd1 : (Cond.declares zr).before a0 Z = true) (nf : ∀ {s : State}, Z.Warmed39 s.vm → NotFace s zr) (ws : (Cond.selects Cn zr z).before a0 Z = true) (w2 : (Cond.instanceMethod z).before a0 Z = true) (w3 : (Cond.initialized z.cls).before a0 Z = true) (w4 : (Cond.code z bz mz rz).before a0 Z = true) (hd : De bytes pc (.invokevirtual i) 3 pc') (hpd : parseMethodDescriptor zr.desc = some ⟨ps, rr⟩) (hln : argsL.length = ps.length) (hmh : zr.cls ≠ "java/lang/invoke/MethodHandle" ∧ zr.cls ≠ "java/lang/invoke/VarHandle") (hsz : Ls.size = maxL) {st0 : List Value} (hst : st0 = argsL.reverse ++ .ref a :: st) (hfr : rm.frames + 1 ≤ R.frames) (hlo : (st.map fun v => v.category).sum + (mz + 11) + rm.locals ≤ R.locals) (hce : cells + rm.cells ≤ R.cells) (hsl : slots + rm.slots ≤ R.slots) (how : ∀ x ∈ wr', x ∈ os)
    (K : ∀ (v : Option Value) (h' : Heap) (os' : List Addr), Q' v h' os' → Keep h h' wr' → (∀ x ∈ os', h.size ≤ x ∧ x < h'.size) → Go k h' (os' ++ os) (cells + rm.cells) (slots + rm.slots) pc' Ls (v.toList ++ st)) : Go k h os cells slots pc Ls st0 := by
  obtain ⟨p, l', e, R', s, m, args, below, meth, c, Z', EL', wd', wr', Q'⟩ := k
  obtain ⟨⟨rfl, rfl, rfl, rfl, rfl, rfl, rfl, rfl⟩, hx, hc', hml, hret, hlk, hnm, hZ, hown, hEL, hE, hwr⟩ := C
  obtain ⟨h1, rfl⟩ := hd
  intro T locs vm X e0 N S w' A Kp ow
  have hZ' : Z'.Warmed39 (s.setVm vm).vm := State.Warmed39.trans (t := s) hZ S.1
  have hown' : (s.setVm vm).vm.findClass y.cls = some m.cls := (S.1.alike.findClass _ _).trans hown
  subst hst
  obtain ⟨cq, kq, q1a, q1b, q1c⟩ := isOf hZ' e0 Ex
  obtain ⟨v, vm₁, B, -, X', hS, hgr, hpost, stp⟩ := X.virtualBackS hx hown' (mvT hZ' w1) (mvT hZ' wd1) (nf hZ') (mvT hZ' ws) (mvT hZ' w2) hmh (conBack (p := p) (e := e) (below := below) (s := s) (args := args) M hZ' w4 w3 hfr hlo hEL A.1 (ext0 hE Kp hwr) (fun x hx => ⟨(ow x (how x hx)).1, (ow x (how x hx)).2.1, (ow x (how x hx)).2.2.1⟩)) q1a q1c (g := mkF m pc Ls (argsL.reverse ++ .ref a :: st)) rfl (hsz.trans hml.symm) (Steps.refl _) (argsL := argsL) (rest := st) (lenOf hpd hln) rfl (by show 2 * 0 + _ ≤ _; exact Nat.le_of_eq (Nat.zero_add _)) (hb hc' h1) (fun _ _ => ⟨rfl, e0, hce, hsl⟩)
  obtain ⟨L, os', q1, q2, q3, q4, q5, q6, q7, q8, q9⟩ := hpost
  exact afterCall (Q' := Q') (rm := rm) N S w' A Kp hE ow how (K v B.U.heap os' q1 q3 fun x hx => (q2 x hx).2) X' hS (e0 ▸ hgr) q2 q3 q4 q5 q6 q7 q8 q9 stp
theorem Go.callF {k : KT} (C : Ctx k l y bytes maxL ret R Z a0 EL wd wr h0 Q) {pc pc' : Nat} {i n : Nat} {a : Addr} {Cn : String} {zr : MethodName} {z : MethodName} {bz : ByteArray} {mz : Nat} {rz : Option FieldType} {rm : Room} {wr' : List Addr} {Q' : QT} {argsL : List Value} {ps : List FieldType} {rr : Option FieldType}
    (M : Con l Z EL wd z bz mz rz rm [] (.ref a :: argsL).toArray h wr' Q') (Ex : Exa Z h a Cn) (w1 : (Cond.methodLink y.cls i zr).before a0 Z = true) (wd1 : (Cond.declares zr).before a0 Z = true) (wf : ∀ (s : State) (as : Array Value), Z.Warmed39 s.vm → (Cond.interfaceMethod zr.cls zr.cls zr.name zr.desc).before as s = true) (ws : (Cond.selects Cn zr z).before a0 Z = true) (w2 : (Cond.instanceMethod z).before a0 Z = true) (wp : (Cond.publicMethod z).before a0 Z = true) (wu : (Cond.unhidden Cn zr.name zr.desc).before a0 Z = true) (wc : (Cond.castable Cn zr.cls).before a0 Z = true) (w3 : (Cond.initialized z.cls).before a0 Z = true) (w4 : (Cond.code z bz mz rz).before a0 Z = true) (hd : De bytes pc (.invokeinterface i n) 5 pc') (hpd : parseMethodDescriptor zr.desc = some ⟨ps, rr⟩) (hln : argsL.length = ps.length) (hmh : zr.cls ≠ "java/lang/invoke/MethodHandle" ∧ zr.cls ≠ "java/lang/invoke/VarHandle") (hsz : Ls.size = maxL) {st0 : List Value} (hst : st0 = argsL.reverse ++ .ref a :: st) (hfr : rm.frames + 1 ≤ R.frames) (hlo : (st.map fun v => v.category).sum + (mz + 11) + rm.locals ≤ R.locals) (hce : cells + rm.cells ≤ R.cells) (hsl : slots + rm.slots ≤ R.slots) (how : ∀ x ∈ wr', x ∈ os)
    (K : ∀ (v : Option Value) (h' : Heap) (os' : List Addr), Q' v h' os' → Keep h h' wr' → (∀ x ∈ os', h.size ≤ x ∧ x < h'.size) → Go k h' (os' ++ os) (cells + rm.cells) (slots + rm.slots) pc' Ls (v.toList ++ st)) : Go k h os cells slots pc Ls st0 := by
  obtain ⟨p, l', e, R', s, m, args, below, meth, c, Z', EL', wd', wr', Q'⟩ := k
  obtain ⟨⟨rfl, rfl, rfl, rfl, rfl, rfl, rfl, rfl⟩, hx, hc', hml, hret, hlk, hnm, hZ, hown, hEL, hE, hwr⟩ := C
  obtain ⟨h1, rfl⟩ := hd
  intro T locs vm X e0 N S w' A Kp ow
  have hZ' : Z'.Warmed39 (s.setVm vm).vm := State.Warmed39.trans (t := s) hZ S.1
  have hown' : (s.setVm vm).vm.findClass y.cls = some m.cls := (S.1.alike.findClass _ _).trans hown
  subst hst
  obtain ⟨cq, kq, q1a, q1b, q1c⟩ := isOf hZ' e0 Ex
  obtain ⟨v, vm₁, B, -, X', hS, hgr, hpost, stp⟩ := X.interfaceBackS hx hown' (mvT hZ' w1) (mvT hZ' wd1) (wf _ _ hZ') (mvT hZ' ws) (mvT hZ' w2) (mvT hZ' wp) (mvT hZ' wu) (mvT hZ' wc) hmh (conBack (p := p) (e := e) (below := below) (s := s) (args := args) M hZ' w4 w3 hfr hlo hEL A.1 (ext0 hE Kp hwr) (fun x hx => ⟨(ow x (how x hx)).1, (ow x (how x hx)).2.1, (ow x (how x hx)).2.2.1⟩)) q1a q1b q1c (g := mkF m pc Ls (argsL.reverse ++ .ref a :: st)) rfl (hsz.trans hml.symm) (Steps.refl _) (argsL := argsL) (rest := st) (lenOf hpd hln) rfl (by show 2 * 0 + _ ≤ _; exact Nat.le_of_eq (Nat.zero_add _)) (hb hc' h1) (fun _ _ => ⟨rfl, e0, hce, hsl⟩)
  obtain ⟨L, os', q1, q2, q3, q4, q5, q6, q7, q8, q9⟩ := hpost
  exact afterCall (Q' := Q') (rm := rm) N S w' A Kp hE ow how (K v B.U.heap os' q1 q3 fun x hx => (q2 x hx).2) X' hS (e0 ▸ hgr) q2 q3 q4 q5 q6 q7 q8 q9 stp
theorem Go.callP {k : KT} (C : Ctx k l y bytes maxL ret R Z a0 EL wd wr h0 Q) {pc pc' : Nat} {i : Nat} {a : Addr} {Cn : String} {z : MethodName} {bz : ByteArray} {mz : Nat} {rz : Option FieldType} {rm : Room} {wr' : List Addr} {Q' : QT} {argsL : List Value} {ps : List FieldType} {rr : Option FieldType}
    (M : Con l Z EL wd z bz mz rz rm [] (.ref a :: argsL).toArray h wr' Q') (Ex : Exa Z h a Cn) (w1 : (Cond.methodLink y.cls i z).before a0 Z = true) (w2 : (Cond.instanceMethod z).before a0 Z = true) (ws : (Cond.selects z.cls z z).before a0 Z = true) (wp : (Cond.privateMethod z).before a0 Z = true) (w3 : (Cond.initialized z.cls).before a0 Z = true) (w4 : (Cond.code z bz mz rz).before a0 Z = true) (hd : De bytes pc (.invokevirtual i) 3 pc') (hpd : parseMethodDescriptor z.desc = some ⟨ps, rr⟩) (hln : argsL.length = ps.length) (hmh : z.cls ≠ "java/lang/invoke/MethodHandle" ∧ z.cls ≠ "java/lang/invoke/VarHandle") (hsz : Ls.size = maxL) {st0 : List Value} (hst : st0 = argsL.reverse ++ .ref a :: st) (hfr : rm.frames + 1 ≤ R.frames) (hlo : (st.map fun v => v.category).sum + (mz + 11) + rm.locals ≤ R.locals) (hce : cells + rm.cells ≤ R.cells) (hsl : slots + rm.slots ≤ R.slots) (how : ∀ x ∈ wr', x ∈ os)
    (K : ∀ (v : Option Value) (h' : Heap) (os' : List Addr), Q' v h' os' → Keep h h' wr' → (∀ x ∈ os', h.size ≤ x ∧ x < h'.size) → Go k h' (os' ++ os) (cells + rm.cells) (slots + rm.slots) pc' Ls (v.toList ++ st)) : Go k h os cells slots pc Ls st0 := by
  obtain ⟨p, l', e, R', s, m, args, below, meth, c, Z', EL', wd', wr', Q'⟩ := k
  obtain ⟨⟨rfl, rfl, rfl, rfl, rfl, rfl, rfl, rfl⟩, hx, hc', hml, hret, hlk, hnm, hZ, hown, hEL, hE, hwr⟩ := C
  obtain ⟨h1, rfl⟩ := hd
  intro T locs vm X e0 N S w' A Kp ow
  have hZ' : Z'.Warmed39 (s.setVm vm).vm := State.Warmed39.trans (t := s) hZ S.1
  have hown' : (s.setVm vm).vm.findClass y.cls = some m.cls := (S.1.alike.findClass _ _).trans hown
  subst hst
  obtain ⟨cq, q1a, q1b⟩ := Ex.cell
  obtain ⟨v, vm₁, B, -, X', hS, hgr, hpost, stp⟩ := X.privateBackS hx hown' (mvT hZ' w1) (mvT hZ' w2) (mvT hZ' ws) (Cond.privateMethod_at (mvP hZ' wp (args := #[]))) (mvT hZ' w4) hmh (conBack (p := p) (e := e) (below := below) (s := s) (args := args) M hZ' w4 w3 hfr hlo hEL A.1 (ext0 hE Kp hwr) (fun x hx => ⟨(ow x (how x hx)).1, (ow x (how x hx)).2.1, (ow x (how x hx)).2.2.1⟩)) (g := mkF m pc Ls (argsL.reverse ++ .ref a :: st)) rfl (hsz.trans hml.symm) (Steps.refl _) (a := a) (by rw [e0]; exact q1a) q1b (argsL := argsL) (rest := st) (lenOf hpd hln) rfl (by show 2 * 0 + _ ≤ _; exact Nat.le_of_eq (Nat.zero_add _)) (hb hc' h1) (fun _ _ => ⟨rfl, e0, hce, hsl⟩)
  obtain ⟨L, os', q1, q2, q3, q4, q5, q6, q7, q8, q9⟩ := hpost
  exact afterCall (Q' := Q') (rm := rm) N S w' A Kp hE ow how (K v B.U.heap os' q1 q3 fun x hx => (q2 x hx).2) X' hS (e0 ▸ hgr) q2 q3 q4 q5 q6 q7 q8 q9 stp
theorem Go.ireturn {k : KT} {x x' : Int32} {t : FieldType} (C : Ctx k l y bytes maxL (some t) R Z a0 EL wd wr h0 Q) {pc pc' : Nat} (hd : De bytes pc .ireturn 1 pc') (hce : cells ≤ R.cells) (hsl : slots ≤ R.slots) (ht : t = .int ∨ t = .boolean ∨ t = .byte ∨ t = .char ∨ t = .short) (hn : nar t x = x') (os' : List Addr) (ho : ∀ x ∈ os', x ∈ os ∧ h0.size ≤ x) (q : Q (some (.int x')) h os') : Go k h os cells slots pc Ls (.int x :: st) := by
  obtain ⟨p, l', e, R', s, m, args, below, meth, c, Z', EL', wd', wr', Q'⟩ := k
  obtain ⟨⟨rfl, rfl, rfl, rfl, rfl, rfl, rfl, rfl⟩, hx, hc', hml, hret, hlk, hnm, hZ, hown, hEL, hE, hwr⟩ := C
  obtain ⟨h1, rfl⟩ := hd
  intro T locs vm X e0 N S w' A Kp ow
  have hZ' : Z'.Warmed39 (s.setVm vm).vm := State.Warmed39.trans (t := s) hZ S.1
  obtain ⟨fs, hr, g1, g2, hW, hs0⟩ := X.leave (v := (some (.int x'))) (fun h => by rw [hret] at h; cases h) hlk
  obtain ⟨r1, r2, r3⟩ := S.ended (U := T.setFrames fs) hW (Nat.le_of_eq (by rw [← e0]; rfl)) hs0
  have Ch := A.trans (CHv.at X hZ' hEL A.1)
  refine ⟨T.setFrames fs, _, ?_, g1, g2, (some (.int x')), locs, os', rfl, ?_, ?_, ?_, N, ?_, ⟨⟨_, rfl⟩, r1, r2, r3.mono hce hsl⟩, fun q => ⟨⟨_, rfl⟩, State.WarmedH.trans (w' q) hW, r3.mono hce hsl⟩⟩
  · subst hn
    rcases ht with rfl | ht
    · exact retOut X hx hret rfl (Or.inl ⟨rfl, Or.inl rfl, _, rfl⟩) (hb hc' h1) hr
    · exact retN X hx hret ht (hb hc' h1) hr
  · show Q' _ T.heap os'
    rw [e0]; exact q
  · intro x hx
    obtain ⟨z1, z2⟩ := ho x hx
    obtain ⟨o1, o2, o3, o4⟩ := ow x z1
    show Safe Z' EL' T.vm T.heap x ∧ s.heap.size ≤ x ∧ x < T.heap.size
    rw [e0]
    exact ⟨(CHv.at X hZ' hEL A.1).safe o3 o1, z2, o3⟩
  · show Keep s.heap T.heap wr'
    rw [e0]; exact Kp
  · show CHr Z' EL' s.vm s.heap T.vm T.heap
    rw [e0]; exact Ch
theorem Go.lreturn {k : KT} {x : Int64} (C : Ctx k l y bytes maxL (some .long) R Z a0 EL wd wr h0 Q) {pc pc' : Nat} (hd : De bytes pc .lreturn 1 pc') (hce : cells ≤ R.cells) (hsl : slots ≤ R.slots) (os' : List Addr) (ho : ∀ x ∈ os', x ∈ os ∧ h0.size ≤ x) (q : Q (some (.long x)) h os') : Go k h os cells slots pc Ls (.long x :: st) := by
  obtain ⟨p, l', e, R', s, m, args, below, meth, c, Z', EL', wd', wr', Q'⟩ := k
  obtain ⟨⟨rfl, rfl, rfl, rfl, rfl, rfl, rfl, rfl⟩, hx, hc', hml, hret, hlk, hnm, hZ, hown, hEL, hE, hwr⟩ := C
  obtain ⟨h1, rfl⟩ := hd
  intro T locs vm X e0 N S w' A Kp ow
  have hZ' : Z'.Warmed39 (s.setVm vm).vm := State.Warmed39.trans (t := s) hZ S.1
  obtain ⟨fs, hr, g1, g2, hW, hs0⟩ := X.leave (v := (some (.long x))) (fun h => by rw [hret] at h; cases h) hlk
  obtain ⟨r1, r2, r3⟩ := S.ended (U := T.setFrames fs) hW (Nat.le_of_eq (by rw [← e0]; rfl)) hs0
  have Ch := A.trans (CHv.at X hZ' hEL A.1)
  refine ⟨T.setFrames fs, _, ?_, g1, g2, (some (.long x)), locs, os', rfl, ?_, ?_, ?_, N, ?_, ⟨⟨_, rfl⟩, r1, r2, r3.mono hce hsl⟩, fun q => ⟨⟨_, rfl⟩, State.WarmedH.trans (w' q) hW, r3.mono hce hsl⟩⟩
  · exact retOut X hx hret rfl (Or.inr (Or.inl ⟨rfl, rfl, _, rfl⟩)) (hb hc' h1) hr
  · show Q' _ T.heap os'
    rw [e0]; exact q
  · intro x hx
    obtain ⟨z1, z2⟩ := ho x hx
    obtain ⟨o1, o2, o3, o4⟩ := ow x z1
    show Safe Z' EL' T.vm T.heap x ∧ s.heap.size ≤ x ∧ x < T.heap.size
    rw [e0]
    exact ⟨(CHv.at X hZ' hEL A.1).safe o3 o1, z2, o3⟩
  · show Keep s.heap T.heap wr'
    rw [e0]; exact Kp
  · show CHr Z' EL' s.vm s.heap T.vm T.heap
    rw [e0]; exact Ch
theorem Go.dreturn {k : KT} {x : UInt64} (C : Ctx k l y bytes maxL (some .double) R Z a0 EL wd wr h0 Q) {pc pc' : Nat} (hd : De bytes pc .dreturn 1 pc') (hce : cells ≤ R.cells) (hsl : slots ≤ R.slots) (os' : List Addr) (ho : ∀ x ∈ os', x ∈ os ∧ h0.size ≤ x) (q : Q (some (.double x)) h os') : Go k h os cells slots pc Ls (.double x :: st) := by
  obtain ⟨p, l', e, R', s, m, args, below, meth, c, Z', EL', wd', wr', Q'⟩ := k
  obtain ⟨⟨rfl, rfl, rfl, rfl, rfl, rfl, rfl, rfl⟩, hx, hc', hml, hret, hlk, hnm, hZ, hown, hEL, hE, hwr⟩ := C
  obtain ⟨h1, rfl⟩ := hd
  intro T locs vm X e0 N S w' A Kp ow
  have hZ' : Z'.Warmed39 (s.setVm vm).vm := State.Warmed39.trans (t := s) hZ S.1
  obtain ⟨fs, hr, g1, g2, hW, hs0⟩ := X.leave (v := (some (.double x))) (fun h => by rw [hret] at h; cases h) hlk
  obtain ⟨r1, r2, r3⟩ := S.ended (U := T.setFrames fs) hW (Nat.le_of_eq (by rw [← e0]; rfl)) hs0
  have Ch := A.trans (CHv.at X hZ' hEL A.1)
  refine ⟨T.setFrames fs, _, ?_, g1, g2, (some (.double x)), locs, os', rfl, ?_, ?_, ?_, N, ?_, ⟨⟨_, rfl⟩, r1, r2, r3.mono hce hsl⟩, fun q => ⟨⟨_, rfl⟩, State.WarmedH.trans (w' q) hW, r3.mono hce hsl⟩⟩
  · exact retOut X hx hret rfl (Or.inr (Or.inr (Or.inl ⟨rfl, rfl, _, rfl⟩))) (hb hc' h1) hr
  · show Q' _ T.heap os'
    rw [e0]; exact q
  · intro x hx
    obtain ⟨z1, z2⟩ := ho x hx
    obtain ⟨o1, o2, o3, o4⟩ := ow x z1
    show Safe Z' EL' T.vm T.heap x ∧ s.heap.size ≤ x ∧ x < T.heap.size
    rw [e0]
    exact ⟨(CHv.at X hZ' hEL A.1).safe o3 o1, z2, o3⟩
  · show Keep s.heap T.heap wr'
    rw [e0]; exact Kp
  · show CHr Z' EL' s.vm s.heap T.vm T.heap
    rw [e0]; exact Ch
theorem Go.areturn {k : KT} {v : Value} {t : FieldType} (C : Ctx k l y bytes maxL (some t) R Z a0 EL wd wr h0 Q) {pc pc' : Nat} (hd : De bytes pc .areturn 1 pc') (hce : cells ≤ R.cells) (hsl : slots ≤ R.slots) (ht : t.isReference = true) (hvr : v.isRef = true) (os' : List Addr) (ho : ∀ x ∈ os', x ∈ os ∧ h0.size ≤ x) (q : Q (some v) h os') : Go k h os cells slots pc Ls (v :: st) := by
  obtain ⟨p, l', e, R', s, m, args, below, meth, c, Z', EL', wd', wr', Q'⟩ := k
  obtain ⟨⟨rfl, rfl, rfl, rfl, rfl, rfl, rfl, rfl⟩, hx, hc', hml, hret, hlk, hnm, hZ, hown, hEL, hE, hwr⟩ := C
  obtain ⟨h1, rfl⟩ := hd
  intro T locs vm X e0 N S w' A Kp ow
  have hZ' : Z'.Warmed39 (s.setVm vm).vm := State.Warmed39.trans (t := s) hZ S.1
  obtain ⟨fs, hr, g1, g2, hW, hs0⟩ := X.leave (v := (some v)) (fun h => by rw [hret] at h; cases h) hlk
  obtain ⟨r1, r2, r3⟩ := S.ended (U := T.setFrames fs) hW (Nat.le_of_eq (by rw [← e0]; rfl)) hs0
  have Ch := A.trans (CHv.at X hZ' hEL A.1)
  refine ⟨T.setFrames fs, _, ?_, g1, g2, (some v), locs, os', rfl, ?_, ?_, ?_, N, ?_, ⟨⟨_, rfl⟩, r1, r2, r3.mono hce hsl⟩, fun q => ⟨⟨_, rfl⟩, State.WarmedH.trans (w' q) hW, r3.mono hce hsl⟩⟩
  · exact retOut X hx hret (by cases t <;> first | rfl | cases ht) (Or.inr (Or.inr (Or.inr (Or.inr ⟨rfl, ht, hvr⟩)))) (hb hc' h1) hr
  · show Q' _ T.heap os'
    rw [e0]; exact q
  · intro x hx
    obtain ⟨z1, z2⟩ := ho x hx
    obtain ⟨o1, o2, o3, o4⟩ := ow x z1
    show Safe Z' EL' T.vm T.heap x ∧ s.heap.size ≤ x ∧ x < T.heap.size
    rw [e0]
    exact ⟨(CHv.at X hZ' hEL A.1).safe o3 o1, z2, o3⟩
  · show Keep s.heap T.heap wr'
    rw [e0]; exact Kp
  · show CHr Z' EL' s.vm s.heap T.vm T.heap
    rw [e0]; exact Ch
theorem Go.retV {k : KT}  (C : Ctx k l y bytes maxL none R Z a0 EL wd wr h0 Q) {pc pc' : Nat} (hd : De bytes pc .return_ 1 pc') (hce : cells ≤ R.cells) (hsl : slots ≤ R.slots) (os' : List Addr) (ho : ∀ x ∈ os', x ∈ os ∧ h0.size ≤ x) (q : Q none h os') : Go k h os cells slots pc Ls (([] : List Value)) := by
  obtain ⟨p, l', e, R', s, m, args, below, meth, c, Z', EL', wd', wr', Q'⟩ := k
  obtain ⟨⟨rfl, rfl, rfl, rfl, rfl, rfl, rfl, rfl⟩, hx, hc', hml, hret, hlk, hnm, hZ, hown, hEL, hE, hwr⟩ := C
  obtain ⟨h1, rfl⟩ := hd
  intro T locs vm X e0 N S w' A Kp ow
  have hZ' : Z'.Warmed39 (s.setVm vm).vm := State.Warmed39.trans (t := s) hZ S.1
  obtain ⟨fs, hr, g1, g2, hW, hs0⟩ := X.leave (v := none) (fun _ => rfl) hlk
  obtain ⟨r1, r2, r3⟩ := S.ended (U := T.setFrames fs) hW (Nat.le_of_eq (by rw [← e0]; rfl)) hs0
  have Ch := A.trans (CHv.at X hZ' hEL A.1)
  refine ⟨T.setFrames fs, _, ?_, g1, g2, none, locs, os', rfl, ?_, ?_, ?_, N, ?_, ⟨⟨_, rfl⟩, r1, r2, r3.mono hce hsl⟩, fun q => ⟨⟨_, rfl⟩, State.WarmedH.trans (w' q) hW, r3.mono hce hsl⟩⟩
  · exact X.returnOut hx hret (hb hc' h1) hr
  · show Q' _ T.heap os'
    rw [e0]; exact q
  · intro x hx
    obtain ⟨z1, z2⟩ := ho x hx
    obtain ⟨o1, o2, o3, o4⟩ := ow x z1
    show Safe Z' EL' T.vm T.heap x ∧ s.heap.size ≤ x ∧ x < T.heap.size
    rw [e0]
    exact ⟨(CHv.at X hZ' hEL A.1).safe o3 o1, z2, o3⟩
  · show Keep s.heap T.heap wr'
    rw [e0]; exact Kp
  · show CHr Z' EL' s.vm s.heap T.vm T.heap
    rw [e0]; exact Ch
theorem Con.intro {ws : List Jvm.Cond} {as' : Array Value} {rm : Room} (hpl : plainFor y = true) (hEL : EW Z a0 EL) (hen : ∀ m, entryFrame m as' maxL = mkF m 0 Ls [])
    (G : ∀ k, Ctx k l y bytes maxL ret rm Z a0 EL wd wr h Q → Go k h wr 0 0 0 Ls []) : Con l Z EL wd y bytes maxL ret rm ws as' h wr Q := by
  refine MetFree.of_bodySF hpl hisR ?_
  intro p e s m args below meth c s₁ Bd hml hP hK
  obtain ⟨rfl, hZ, rfl, H, hE, hsf⟩ := hP
  have X0 : Stand p l e rm s m args below meth c s₁ [] 0 0 := Stand.of_body Bd
  have e0 : s₁.heap = s.heap := by rw [Bd.state]; rfl
  have G' := G ⟨p, l, e, rm, s, m, args, below, meth, c, Z, EL, wd, wr, Q⟩ ⟨⟨rfl, rfl, rfl, rfl, rfl, rfl, rfl, rfl⟩, Bd.exec, Bd.bytes, hml, Bd.returns, Bd.notSynchronized, (name_of_methodNamed Bd.named Bd.method).1, hZ, findClass_of_methodNamed Bd.named, hEL, hE, fun x hx => (hsf x hx).2.1⟩
    s₁ [] s.vm X0 e0 (Fr.nil _) ((State.WarmedH.refl s).since _) (fun _ => State.WarmedH.refl s) (CHr.refl H) (Keep.refl _ _) (fun x hx => ⟨(hsf x hx).1, (hsf x hx).2.1, (hsf x hx).2.2, Or.inl hx⟩)
  obtain ⟨s', o, g1, g2, g3, g4⟩ := G'
  exact ⟨s', o, castTop (hen m) g1, g2, g3, g4⟩
end Heapy
end Jvm.OwnGo
namespace Jvm.Pilot.@@N@@
open Jvm Jvm.ClassFile Sem Op Lib Jvm.Free Jvm.Stand Jvm.LawKit Jvm.RoadKit Jvm.OwnGo Bundle Jvm.Pilot.@@N@@.Jvm.D
abbrev own_EL : List (String × Nat) := [("com/example/dossier_relay/dossierrelay/bundle/FilePaths", 35), ("java/lang/String", 7), ("java/lang/StringLatin1", 151)]
theorem own_ite1 {P : Prop} [Decidable P] (q : ¬ ((if P then (1 : Int32) else 0) = 0)) : (if P then (1 : Int32) else 0) = 1 := by
  by_cases h : P
  · exact if_pos h
  · exact absurd (if_neg h) q
theorem own_shr0 (x : Int32) : x >>> ((0 : Int32) &&& 31) = x := by
  rw [show ((0 : Int32) &&& 31) = 0 from by decide]; exact Int32.shiftRight_zero
def own_b (c : Int32) : Int32 := c.toInt8.toInt32
def own_L (c : Int32) : Prop := ¬ c < 0 ∧ ¬ (255 : Int32) < c
def own_lat (cs : List Int32) : Prop := ∀ c ∈ cs, own_L c
theorem own_b_nar (c : Int32) : nar .byte (own_b c) = own_b c := by
  show (c.toInt8.toInt32).toInt8.toInt32 = c.toInt8.toInt32
  rw [Int8.toInt8_toInt32]
theorem own_nil {cs : List Int32} (hl : cs.length < 2147483648) (q : Int32.ofNat cs.length = 0) : cs = [] := by
  have : Int32.ofNat cs.length = Int32.ofNat 0 := q
  exact List.eq_nil_of_length_eq_zero ((nI_eq hl (by omega)).mp this)
theorem own_set {cs : List Int32} {c : Int32} {i n : Nat} (q : i + (n + 1) = cs.length) (hc : cs[i]? = some c) : (List.map Value.int ((cs.take i).map own_b ++ List.replicate (n + 1) 0)).set i (.int (own_b c)) = List.map Value.int ((cs.take (i + 1)).map own_b ++ List.replicate n 0) := by
  have hi : i < cs.length := by omega
  have ht : (cs.take i).length = i := by simp; omega
  rw [← List.map_set, List.set_append_right _ _ (by simp [ht]; omega), List.take_add_one, hc]
  simp [ht, List.replicate_succ, show min i cs.length = i by omega]
theorem own_L_int {x : Int32} (h : own_L x) : 0 ≤ x.toInt ∧ x.toInt ≤ 255 := by
  obtain ⟨h1, h2⟩ := h
  rw [Int32.lt_iff_toInt_lt] at h1 h2
  have e0 : (0 : Int32).toInt = 0 := rfl
  have e1 : (255 : Int32).toInt = 255 := rfl
  omega
theorem own_L_of {x : Int32} (h1 : 0 ≤ x.toInt) (h2 : x.toInt ≤ 255) : own_L x := by
  have e0 : (0 : Int32).toInt = 0 := rfl
  have e1 : (255 : Int32).toInt = 255 := rfl
  constructor <;> rw [Int32.lt_iff_toInt_lt] <;> omega
theorem own_c_nar (x : Int32) : nar .char (x.toUInt32.toUInt16.toUInt32.toInt32) = x.toUInt32.toUInt16.toUInt32.toInt32 := by
  obtain ⟨-, h1, h2⟩ := c_i2c x
  obtain ⟨g0, g1, g2⟩ := c_i2c (x.toUInt32.toUInt16.toUInt32.toInt32)
  exact Int32.toInt_inj.mp (by show (x.toUInt32.toUInt16.toUInt32.toInt32).toUInt32.toUInt16.toUInt32.toInt32.toInt = _; omega)
theorem own_nar_lat {x : Int32} (h : own_L x) : nar .char x = x := by
  obtain ⟨h1, h2⟩ := own_L_int h
  obtain ⟨g0, g1, g2⟩ := c_i2c x
  exact Int32.toInt_inj.mp (by show x.toUInt32.toUInt16.toUInt32.toInt32.toInt = _; omega)
theorem own_c8i {x z : Int32} (e : (x &&& (255 : Int32)).toUInt32.toUInt16.toUInt32.toInt32 = z) : own_L z := by
  subst e
  have a := c_mask x 255 8 (by decide) (by decide)
  have a' : (x &&& 255).toInt = x.toInt % 256 := a
  obtain ⟨g0, g1, g2⟩ := c_i2c (x &&& (255 : Int32))
  exact own_L_of (by omega) (by omega)
theorem own_c8 {x : Int64} {z : Int32} (e : ((x &&& (255 : Int64)).toInt32).toUInt32.toUInt16.toUInt32.toInt32 = z) : own_L z := by
  subst e
  have a := c_maskL x 255 8 (by decide) (by decide)
  have a' : (x &&& 255).toInt = x.toInt % 256 := a
  have b := c_l2i (x &&& 255)
  obtain ⟨g0, g1, g2⟩ := c_i2c ((x &&& (255 : Int64)).toInt32)
  have r := rng32 ((x &&& (255 : Int64)).toInt32)
  exact own_L_of (by omega) (by omega)
theorem own_lat2 {p q : Int32} (h1 : own_L p) (h2 : own_L q) : own_lat [p, q] := fun c hc => by
  simp only [List.mem_cons, List.not_mem_nil, or_false] at hc
  rcases hc with rfl | rfl
  · exact h1
  · exact h2
theorem own_b_inj {x y : Int32} (hx : own_L x) (hy : own_L y) (e : own_b x = own_b y) : x = y := by
  obtain ⟨a1, a2⟩ := own_L_int hx
  obtain ⟨b1, b2⟩ := own_L_int hy
  obtain ⟨c1, -, -⟩ := c_i2b x
  obtain ⟨d1, -, -⟩ := c_i2b y
  have e' : x.toInt8.toInt32.toInt = y.toInt8.toInt32.toInt := congrArg Int32.toInt e
  exact Int32.toInt_inj.mp (by omega)
theorem own_it0 {P : Prop} [Decidable P] (h : (if P then (1 : Int32) else 0) = 0) : ¬ P := fun q => by rw [if_pos q] at h; exact absurd h (by decide)
theorem own_it1 {P : Prop} [Decidable P] (h : ¬ ((if P then (1 : Int32) else 0) = 0)) : P := Decidable.byContradiction fun q => h (if_neg q)
def own_ch (b : Int32) : Int32 := (b &&& (255 : Int32)).toUInt32.toUInt16.toUInt32.toInt32
theorem own_ilt {i : Int32} {j n : Nat} (hi : ¬ i < 0) (hij : i.toNatClampNeg = j) (hj : j < n) (hn : n < 2147483648) : i < Int32.ofNat n := by
  rw [(nI_nn' hi).1, hij]; exact (nI_lt (by omega) hn).mpr hj
theorem own_ch_b {c : Int32} (h : own_L c) : own_ch (own_b c) = c := by
  obtain ⟨h1, h2⟩ := own_L_int h
  obtain ⟨c1, c2, c3⟩ := c_i2b c
  have a := c_mask (own_b c) 255 8 (by decide) (by decide)
  have a' : (own_b c &&& 255).toInt = (own_b c).toInt % 256 := a
  obtain ⟨g0, g1, g2⟩ := c_i2c (own_b c &&& (255 : Int32))
  have c1' : ((own_b c).toInt - c.toInt) % 256 = 0 := c1
  exact Int32.toInt_inj.mp (by show (own_b c &&& (255 : Int32)).toUInt32.toUInt16.toUInt32.toInt32.toInt = _; omega)
def own_mk5 (n c0 c1 c2 c3 c4 : Int32) : List Int32 := if n = 0 then [] else if n = 1 then [c0] else if n = 2 then [c0, c1] else if n = 3 then [c0, c1, c2] else if n = 4 then [c0, c1, c2, c3] else [c0, c1, c2, c3, c4]
theorem own_mk5_0 {n c0 c1 c2 c3 c4 : Int32}  (h : n = 0) : own_mk5 n c0 c1 c2 c3 c4 = [] := by simp [own_mk5, h]
theorem own_mk5_1 {n c0 c1 c2 c3 c4 : Int32} (h0 : ¬ n = 0) (h : n = 1) : own_mk5 n c0 c1 c2 c3 c4 = [c0] := by simp [own_mk5, h0, h]
theorem own_mk5_2 {n c0 c1 c2 c3 c4 : Int32} (h0 : ¬ n = 0) (h1 : ¬ n = 1) (h : n = 2) : own_mk5 n c0 c1 c2 c3 c4 = [c0, c1] := by simp [own_mk5, h0, h1, h]
theorem own_mk5_3 {n c0 c1 c2 c3 c4 : Int32} (h0 : ¬ n = 0) (h1 : ¬ n = 1) (h2 : ¬ n = 2) (h : n = 3) : own_mk5 n c0 c1 c2 c3 c4 = [c0, c1, c2] := by simp [own_mk5, h0, h1, h2, h]
theorem own_mk5_4 {n c0 c1 c2 c3 c4 : Int32} (h0 : ¬ n = 0) (h1 : ¬ n = 1) (h2 : ¬ n = 2) (h3 : ¬ n = 3) (h : n = 4) : own_mk5 n c0 c1 c2 c3 c4 = [c0, c1, c2, c3] := by simp [own_mk5, h0, h1, h2, h3, h]
theorem own_mk5_5 {n c0 c1 c2 c3 c4 : Int32} (h0 : ¬ n = 0) (h1 : ¬ n = 1) (h2 : ¬ n = 2) (h3 : ¬ n = 3) (h4 : ¬ n = 4) : own_mk5 n c0 c1 c2 c3 c4 = [c0, c1, c2, c3, c4] := by simp [own_mk5, h0, h1, h2, h3, h4]
theorem own_sub0 {c0 c1 c2 c3 c4 : Int32} (h : own_lat [c0, c1, c2, c3, c4]) : own_lat [] := fun c hc => absurd hc List.not_mem_nil
theorem own_sub1 {c0 c1 c2 c3 c4 : Int32} (h : own_lat [c0, c1, c2, c3, c4]) : own_lat [c0] := fun c hc => h c (by simp at hc ⊢; first | exact hc.elim | simp [hc] | (rcases hc with rfl | rfl | rfl | rfl | rfl <;> simp) | (rcases hc with rfl | rfl | rfl | rfl <;> simp) | (rcases hc with rfl | rfl | rfl <;> simp) | (rcases hc with rfl | rfl <;> simp))
theorem own_sub2 {c0 c1 c2 c3 c4 : Int32} (h : own_lat [c0, c1, c2, c3, c4]) : own_lat [c0, c1] := fun c hc => h c (by simp at hc ⊢; first | exact hc.elim | simp [hc] | (rcases hc with rfl | rfl | rfl | rfl | rfl <;> simp) | (rcases hc with rfl | rfl | rfl | rfl <;> simp) | (rcases hc with rfl | rfl | rfl <;> simp) | (rcases hc with rfl | rfl <;> simp))
theorem own_sub3 {c0 c1 c2 c3 c4 : Int32} (h : own_lat [c0, c1, c2, c3, c4]) : own_lat [c0, c1, c2] := fun c hc => h c (by simp at hc ⊢; first | exact hc.elim | simp [hc] | (rcases hc with rfl | rfl | rfl | rfl | rfl <;> simp) | (rcases hc with rfl | rfl | rfl | rfl <;> simp) | (rcases hc with rfl | rfl | rfl <;> simp) | (rcases hc with rfl | rfl <;> simp))
theorem own_sub4 {c0 c1 c2 c3 c4 : Int32} (h : own_lat [c0, c1, c2, c3, c4]) : own_lat [c0, c1, c2, c3] := fun c hc => h c (by simp at hc ⊢; first | exact hc.elim | simp [hc] | (rcases hc with rfl | rfl | rfl | rfl | rfl <;> simp) | (rcases hc with rfl | rfl | rfl | rfl <;> simp) | (rcases hc with rfl | rfl | rfl <;> simp) | (rcases hc with rfl | rfl <;> simp))
theorem own_sub5 {c0 c1 c2 c3 c4 : Int32} (h : own_lat [c0, c1, c2, c3, c4]) : own_lat [c0, c1, c2, c3, c4] := fun c hc => h c (by simp at hc ⊢; first | exact hc.elim | simp [hc] | (rcases hc with rfl | rfl | rfl | rfl | rfl <;> simp) | (rcases hc with rfl | rfl | rfl | rfl <;> simp) | (rcases hc with rfl | rfl | rfl <;> simp) | (rcases hc with rfl | rfl <;> simp))
def own_chv (v : Int32) : Int32 := if (v &&& (768 : Int32)) = 0 then (46 : Int32) else ((v &&& (255 : Int32)).toUInt32.toUInt16.toUInt32.toInt32)
theorem own_chv_L {v z : Int32} (e : own_chv v = z) : own_L z := by
  subst e; unfold own_chv; split
  · exact own_L_of (by decide) (by decide)
  · exact own_c8i rfl
theorem own_lat5 {c0 c1 c2 c3 c4 : Int32} (h0 : own_L c0) (h1 : own_L c1) (h2 : own_L c2) (h3 : own_L c3) (h4 : own_L c4) : own_lat [c0, c1, c2, c3, c4] := fun c hc => by
  simp only [List.mem_cons, List.not_mem_nil, or_false] at hc
  rcases hc with rfl | rfl | rfl | rfl | rfl <;> assumption
theorem own_len5 (n c0 c1 c2 c3 c4 : Int32) : (List.length (List.map own_b (own_mk5 n c0 c1 c2 c3 c4))) ≤ 5 := by
  unfold own_mk5; repeat' split
  all_goals simp
def own_off (m : Nat) : Int32 := Int32.ofNat m - 1
theorem own_off_val (m : Nat) : own_off (m + 1) = Int32.ofNat m := by
  unfold own_off; rw [Int32.ofNat_add]; exact Int32.add_sub_cancel _ _
theorem own_off_nn {m : Nat} (h : m < 2147483648) : ¬ own_off (m + 1) < 0 := by rw [own_off_val]; exact nI_nn h
theorem own_off_nat {m : Nat} (h : m < 2147483648) : (own_off (m + 1)).toNatClampNeg = m := by rw [own_off_val]; exact nI_nat h
theorem own_off_dec (m : Nat) : own_off (m + 1) + Int32.ofInt (-1) = own_off m := by
  rw [own_off_val]; show _ = Int32.ofNat m - 1; rw [Int32.sub_eq_add_neg]; congr 1
def own_lio (bs : List Int32) : Nat → Int32
  | 0 => -1
  | m + 1 => if bs[m]? = some 46 then own_off (m + 1) else own_lio bs m
theorem own_lio_hit {bs : List Int32} {m : Nat} {b : Int32} (hb : bs[m]? = some b) (e : b = 46) : own_lio bs (m + 1) = own_off (m + 1) := if_pos (by rw [hb, e])
theorem own_lio_miss {bs : List Int32} {m : Nat} {b : Int32} (hb : bs[m]? = some b) (e : ¬ b = 46) : own_lio bs (m + 1) = own_lio bs m := if_neg (by rw [hb]; simpa using e)
theorem own_lio_pos {bs : List Int32} : ∀ {m : Nat}, 0 < own_lio bs m → ∃ d, own_lio bs m = Int32.ofNat d ∧ d < m ∧ d < bs.length
  | 0, h => absurd h (by show ¬ (0 : Int32) < -1; decide)
  | m + 1, h => by
    by_cases q : bs[m]? = some 46
    · exact ⟨m, (if_pos q).trans (own_off_val m), by omega, (List.getElem?_eq_some_iff.mp q).1⟩
    · have e : own_lio bs (m + 1) = own_lio bs m := if_neg q
      rw [e] at h
      obtain ⟨d, h1, h2, h3⟩ := own_lio_pos h
      exact ⟨d, e.trans h1, by omega, h3⟩
def own_ext (xs : List Int32) : List Int32 := if 0 < own_lio xs (List.length xs) then xs.drop ((own_lio xs (List.length xs)).toNatClampNeg + 1) else []
theorem own_ext0 {xs : List Int32} (h : ¬ 0 < own_lio xs (List.length xs)) : own_ext xs = [] := if_neg h
theorem own_ext1 {xs : List Int32} {d : Nat} (h : 0 < own_lio xs (List.length xs)) (e : own_lio xs (List.length xs) = Int32.ofNat d) (hd : d < 2147483648) : own_ext xs = xs.drop (d + 1) := by
  unfold own_ext; rw [if_pos h, e, nI_nat hd]
theorem own_subn {n j : Nat} (h : j ≤ n) : Int32.ofNat n - Int32.ofNat j = Int32.ofNat (n - j) := by
  have e : Int32.ofNat n = Int32.ofNat (n - j) + Int32.ofNat j := by rw [← Int32.ofNat_add]; congr 1; omega
  rw [e, Int32.add_sub_cancel]
theorem own_addsub {n j : Nat} (h : j ≤ n) : Int32.ofNat j + Int32.ofNat (n - j) = Int32.ofNat n := by rw [← Int32.ofNat_add]; congr 1; omega
theorem own_ofn0 {j : Nat} (h : 0 < j) (h2 : j < 2147483648) : ¬ Int32.ofNat j = 0 := fun e => by
  have e' : Int32.ofNat j = Int32.ofNat 0 := e
  rw [nI_eq h2 (by omega)] at e'; omega
theorem own_dropall {bs : List Int32} {j : Nat} (h : j ≤ bs.length) (hl : bs.length < 2147483648) (e : Int32.ofNat (bs.length - j) = 0) : bs.drop j = [] := by
  have e' : Int32.ofNat (bs.length - j) = Int32.ofNat 0 := e
  rw [nI_eq (by omega) (by omega)] at e'
  exact List.drop_eq_nil_of_le (by omega)
theorem own_cpd {bs : List Int32} {j : Nat} (h : j ≤ bs.length) : (List.replicate (bs.length - j) (Value.int (0 : Int32))).take 0 ++ ((List.map Value.int bs).drop j).take (bs.length - j) ++ (List.replicate (bs.length - j) (Value.int (0 : Int32))).drop (0 + (bs.length - j)) = List.map Value.int (bs.drop j) := by
  rw [List.take_zero, List.nil_append, Nat.zero_add, List.drop_eq_nil_of_le (as := List.replicate _ _) (by simp), List.append_nil, ← List.map_drop]
  exact List.take_of_length_le (by simp)
def own_at (ys cs : List Int32) (d k e : Int32) : Prop := k < e → ∃ (j : Nat) (b : Int32) (i : Nat), ¬ k < 0 ∧ k.toNatClampNeg = j ∧ ys[j]? = some b ∧ ¬ (d + 1 + k) < 0 ∧ (d + 1 + k).toNatClampNeg = i ∧ cs[i]? = some (own_ch b)
theorem own_atv {c0 c1 c2 c3 c4 : Int32} {i : Nat} {v : Int32} (h : ([c0, c1, c2, c3, c4] : List Int32)[i]? = some v) : ([(.int c0), (.int c1), (.int c2), (.int c3), (.int c4)] : List Value)[i]? = some (.int v) := by
  have e : (List.map Value.int [c0, c1, c2, c3, c4])[i]? = some (.int v) := by rw [List.getElem?_map, h]; rfl
  exact e
theorem own_m6 {x z : Int32} (e : ((x &&& (2147483647 : Int32)) % (6 : Int32)) = z) : z = 0 ∨ z = 1 ∨ z = 2 ∨ z = 3 ∨ z = 4 ∨ z = 5 := by
  subst e
  have a := c_mask x 2147483647 31 (by decide) (by decide)
  have a' : (x &&& 2147483647).toInt = x.toInt % 2147483648 := a
  have b := (c_irem (x &&& 2147483647) 6 6 rfl).1 (by omega)
  have c : ((x &&& 2147483647) % 6).toInt = 0 ∨ ((x &&& 2147483647) % 6).toInt = 1 ∨ ((x &&& 2147483647) % 6).toInt = 2 ∨ ((x &&& 2147483647) % 6).toInt = 3 ∨ ((x &&& 2147483647) % 6).toInt = 4 ∨ ((x &&& 2147483647) % 6).toInt = 5 := by omega
  rcases c with c | c | c | c | c | c
  · exact Or.inl (Int32.toInt_inj.mp c)
  · exact Or.inr (Or.inl (Int32.toInt_inj.mp c))
  · exact Or.inr (Or.inr (Or.inl (Int32.toInt_inj.mp c)))
  · exact Or.inr (Or.inr (Or.inr (Or.inl (Int32.toInt_inj.mp c))))
  · exact Or.inr (Or.inr (Or.inr (Or.inr (Or.inl (Int32.toInt_inj.mp c)))))
  · exact Or.inr (Or.inr (Or.inr (Or.inr (Or.inr (Int32.toInt_inj.mp c)))))
theorem own_b46 {c : Int32} (h : own_L c) : own_b c = 46 ↔ c = 46 := ⟨fun e => own_b_inj h (own_L_of (by decide) (by decide)) (e.trans (by decide)), fun e => by rw [e]; decide⟩
theorem own_law {n c0 c1 c2 c3 c4 d0 d1 d2 d3 d4 e : Int32} (hn : n = 0 ∨ n = 1 ∨ n = 2 ∨ n = 3 ∨ n = 4 ∨ n = 5) (hl : own_lat [c0, c1, c2, c3, c4]) (hd0 : d0 = (if ((0 : Int32) < n ∧ c0 = 46) then (0 : Int32) else -1)) (hd1 : d1 = (if ((1 : Int32) < n ∧ c1 = 46) then (1 : Int32) else d0)) (hd2 : d2 = (if ((2 : Int32) < n ∧ c2 = 46) then (2 : Int32) else d1)) (hd3 : d3 = (if ((3 : Int32) < n ∧ c3 = 46) then (3 : Int32) else d2)) (hd4 : d4 = (if ((4 : Int32) < n ∧ c4 = 46) then (4 : Int32) else d3)) (he : e = (if 0 < d4 then n - d4 - 1 else (0 : Int32))) :
    Int32.ofNat (List.length (own_ext (List.map own_b (own_mk5 n c0 c1 c2 c3 c4)))) = e ∧ ∀ k : Int32, (k = 0 ∨ k = 1 ∨ k = 2 ∨ k = 3) → own_at (own_ext (List.map own_b (own_mk5 n c0 c1 c2 c3 c4))) [c0, c1, c2, c3, c4] d4 k e := by
  have L0 : own_L c0 := hl c0 (List.mem_of_getElem? (i := 0) rfl)
  have i0 := own_b46 L0
  have b0 := own_ch_b L0
  have L1 : own_L c1 := hl c1 (List.mem_of_getElem? (i := 1) rfl)
  have i1 := own_b46 L1
  have b1 := own_ch_b L1
  have L2 : own_L c2 := hl c2 (List.mem_of_getElem? (i := 2) rfl)
  have i2 := own_b46 L2
  have b2 := own_ch_b L2
  have L3 : own_L c3 := hl c3 (List.mem_of_getElem? (i := 3) rfl)
  have i3 := own_b46 L3
  have b3 := own_ch_b L3
  have L4 : own_L c4 := hl c4 (List.mem_of_getElem? (i := 4) rfl)
  have i4 := own_b46 L4
  have b4 := own_ch_b L4
  rcases hn with rfl | rfl | rfl | rfl | rfl | rfl
  · have e4 : d4 = (-1 : Int32) := by rw [hd4, hd3, hd2, hd1, hd0]; simp [own_mk5]
    have ee : e = (0 : Int32) := by rw [he, e4]; decide
    have X : own_ext (List.map own_b (own_mk5 0 c0 c1 c2 c3 c4)) = [] := by simp [own_ext, own_mk5, own_lio, own_off_val]
    rw [X, ee, e4]
    refine ⟨rfl, fun k hk => ?_⟩
    rcases hk with rfl | rfl | rfl | rfl
    · exact fun h => absurd h (by decide)
    · exact fun h => absurd h (by decide)
    · exact fun h => absurd h (by decide)
    · exact fun h => absurd h (by decide)
  · by_cases q0 : c0 = 46
    · have e4 : d4 = (0 : Int32) := by rw [hd4, hd3, hd2, hd1, hd0]; simp [q0]
      have ee : e = (0 : Int32) := by rw [he, e4]; decide
      have X : own_ext (List.map own_b (own_mk5 1 c0 c1 c2 c3 c4)) = [] := by simp [own_ext, own_mk5, own_lio, own_off_val, (i0.mpr q0)]
      rw [X, ee, e4]
      refine ⟨rfl, fun k hk => ?_⟩
      rcases hk with rfl | rfl | rfl | rfl
      · exact fun h => absurd h (by decide)
      · exact fun h => absurd h (by decide)
      · exact fun h => absurd h (by decide)
      · exact fun h => absurd h (by decide)
    have e4 : d4 = (-1 : Int32) := by rw [hd4, hd3, hd2, hd1, hd0]; simp [q0]
    have ee : e = (0 : Int32) := by rw [he, e4]; decide
    have X : own_ext (List.map own_b (own_mk5 1 c0 c1 c2 c3 c4)) = [] := by simp [own_ext, own_mk5, own_lio, own_off_val, (mt i0.mp q0)]
    rw [X, ee, e4]
    refine ⟨rfl, fun k hk => ?_⟩
    rcases hk with rfl | rfl | rfl | rfl
    · exact fun h => absurd h (by decide)
    · exact fun h => absurd h (by decide)
    · exact fun h => absurd h (by decide)
    · exact fun h => absurd h (by decide)
  · by_cases q1 : c1 = 46
    · have e4 : d4 = (1 : Int32) := by rw [hd4, hd3, hd2, hd1, hd0]; simp [q1]
      have ee : e = (0 : Int32) := by rw [he, e4]; decide
      have X : own_ext (List.map own_b (own_mk5 2 c0 c1 c2 c3 c4)) = [] := by simp [own_ext, own_mk5, own_lio, own_off_val, (i1.mpr q1)]
      rw [X, ee, e4]
      refine ⟨rfl, fun k hk => ?_⟩
      rcases hk with rfl | rfl | rfl | rfl
      · exact fun h => absurd h (by decide)
      · exact fun h => absurd h (by decide)
      · exact fun h => absurd h (by decide)
      · exact fun h => absurd h (by decide)
    by_cases q0 : c0 = 46
    · have e4 : d4 = (0 : Int32) := by rw [hd4, hd3, hd2, hd1, hd0]; simp [q0, q1]
      have ee : e = (0 : Int32) := by rw [he, e4]; decide
      have X : own_ext (List.map own_b (own_mk5 2 c0 c1 c2 c3 c4)) = [] := by simp [own_ext, own_mk5, own_lio, own_off_val, (i0.mpr q0), (mt i1.mp q1)]
      rw [X, ee, e4]
      refine ⟨rfl, fun k hk => ?_⟩
      rcases hk with rfl | rfl | rfl | rfl
      · exact fun h => absurd h (by decide)
      · exact fun h => absurd h (by decide)
      · exact fun h => absurd h (by decide)
      · exact fun h => absurd h (by decide)
    have e4 : d4 = (-1 : Int32) := by rw [hd4, hd3, hd2, hd1, hd0]; simp [q0, q1]
    have ee : e = (0 : Int32) := by rw [he, e4]; decide
    have X : own_ext (List.map own_b (own_mk5 2 c0 c1 c2 c3 c4)) = [] := by simp [own_ext, own_mk5, own_lio, own_off_val, (mt i0.mp q0), (mt i1.mp q1)]
    rw [X, ee, e4]
    refine ⟨rfl, fun k hk => ?_⟩
    rcases hk with rfl | rfl | rfl | rfl
    · exact fun h => absurd h (by decide)
    · exact fun h => absurd h (by decide)
    · exact fun h => absurd h (by decide)
    · exact fun h => absurd h (by decide)
  · by_cases q2 : c2 = 46
    · have e4 : d4 = (2 : Int32) := by rw [hd4, hd3, hd2, hd1, hd0]; simp [q2]
      have ee : e = (0 : Int32) := by rw [he, e4]; decide
      have X : own_ext (List.map own_b (own_mk5 3 c0 c1 c2 c3 c4)) = [] := by simp [own_ext, own_mk5, own_lio, own_off_val, (i2.mpr q2)]
      rw [X, ee, e4]
      refine ⟨rfl, fun k hk => ?_⟩
      rcases hk with rfl | rfl | rfl | rfl
      · exact fun h => absurd h (by decide)
      · exact fun h => absurd h (by decide)
      · exact fun h => absurd h (by decide)
      · exact fun h => absurd h (by decide)
    by_cases q1 : c1 = 46
    · have e4 : d4 = (1 : Int32) := by rw [hd4, hd3, hd2, hd1, hd0]; simp [q1, q2]
      have ee : e = (1 : Int32) := by rw [he, e4]; decide
      have X : own_ext (List.map own_b (own_mk5 3 c0 c1 c2 c3 c4)) = [own_b c2] := by simp [own_ext, own_mk5, own_lio, own_off_val, (i1.mpr q1), (mt i2.mp q2)]
      rw [X, ee, e4]
      refine ⟨rfl, fun k hk => ?_⟩
      rcases hk with rfl | rfl | rfl | rfl
      · exact fun _ => ⟨0, own_b c2, 2, by decide, rfl, rfl, by decide, rfl, congrArg some b2.symm⟩
      · exact fun h => absurd h (by decide)
      · exact fun h => absurd h (by decide)
      · exact fun h => absurd h (by decide)
    by_cases q0 : c0 = 46
    · have e4 : d4 = (0 : Int32) := by rw [hd4, hd3, hd2, hd1, hd0]; simp [q0, q1, q2]
      have ee : e = (0 : Int32) := by rw [he, e4]; decide
      have X : own_ext (List.map own_b (own_mk5 3 c0 c1 c2 c3 c4)) = [] := by simp [own_ext, own_mk5, own_lio, own_off_val, (i0.mpr q0), (mt i1.mp q1), (mt i2.mp q2)]
      rw [X, ee, e4]
      refine ⟨rfl, fun k hk => ?_⟩
      rcases hk with rfl | rfl | rfl | rfl
      · exact fun h => absurd h (by decide)
      · exact fun h => absurd h (by decide)
      · exact fun h => absurd h (by decide)
      · exact fun h => absurd h (by decide)
    have e4 : d4 = (-1 : Int32) := by rw [hd4, hd3, hd2, hd1, hd0]; simp [q0, q1, q2]
    have ee : e = (0 : Int32) := by rw [he, e4]; decide
    have X : own_ext (List.map own_b (own_mk5 3 c0 c1 c2 c3 c4)) = [] := by simp [own_ext, own_mk5, own_lio, own_off_val, (mt i0.mp q0), (mt i1.mp q1), (mt i2.mp q2)]
    rw [X, ee, e4]
    refine ⟨rfl, fun k hk => ?_⟩
    rcases hk with rfl | rfl | rfl | rfl
    · exact fun h => absurd h (by decide)
    · exact fun h => absurd h (by decide)
    · exact fun h => absurd h (by decide)
    · exact fun h => absurd h (by decide)
  · by_cases q3 : c3 = 46
    · have e4 : d4 = (3 : Int32) := by rw [hd4, hd3, hd2, hd1, hd0]; simp [q3]
      have ee : e = (0 : Int32) := by rw [he, e4]; decide
      have X : own_ext (List.map own_b (own_mk5 4 c0 c1 c2 c3 c4)) = [] := by simp [own_ext, own_mk5, own_lio, own_off_val, (i3.mpr q3)]
      rw [X, ee, e4]
      refine ⟨rfl, fun k hk => ?_⟩
      rcases hk with rfl | rfl | rfl | rfl
      · exact fun h => absurd h (by decide)
      · exact fun h => absurd h (by decide)
      · exact fun h => absurd h (by decide)
      · exact fun h => absurd h (by decide)
    by_cases q2 : c2 = 46
    · have e4 : d4 = (2 : Int32) := by rw [hd4, hd3, hd2, hd1, hd0]; simp [q2, q3]
      have ee : e = (1 : Int32) := by rw [he, e4]; decide
      have X : own_ext (List.map own_b (own_mk5 4 c0 c1 c2 c3 c4)) = [own_b c3] := by simp [own_ext, own_mk5, own_lio, own_off_val, (i2.mpr q2), (mt i3.mp q3)]
      rw [X, ee, e4]
      refine ⟨rfl, fun k hk => ?_⟩
      rcases hk with rfl | rfl | rfl | rfl
      · exact fun _ => ⟨0, own_b c3, 3, by decide, rfl, rfl, by decide, rfl, congrArg some b3.symm⟩
      · exact fun h => absurd h (by decide)
      · exact fun h => absurd h (by decide)
      · exact fun h => absurd h (by decide)
    by_cases q1 : c1 = 46
    · have e4 : d4 = (1 : Int32) := by rw [hd4, hd3, hd2, hd1, hd0]; simp [q1, q2, q3]
      have ee : e = (2 : Int32) := by rw [he, e4]; decide
      have X : own_ext (List.map own_b (own_mk5 4 c0 c1 c2 c3 c4)) = [own_b c2, own_b c3] := by simp [own_ext, own_mk5, own_lio, own_off_val, (i1.mpr q1), (mt i2.mp q2), (mt i3.mp q3)]
      rw [X, ee, e4]
      refine ⟨rfl, fun k hk => ?_⟩
      rcases hk with rfl | rfl | rfl | rfl
      · exact fun _ => ⟨0, own_b c2, 2, by decide, rfl, rfl, by decide, rfl, congrArg some b2.symm⟩
      · exact fun _ => ⟨1, own_b c3, 3, by decide, rfl, rfl, by decide, rfl, congrArg some b3.symm⟩
      · exact fun h => absurd h (by decide)
      · exact fun h => absurd h (by decide)
    by_cases q0 : c0 = 46
    · have e4 : d4 = (0 : Int32) := by rw [hd4, hd3, hd2, hd1, hd0]; simp [q0, q1, q2, q3]
      have ee : e = (0 : Int32) := by rw [he, e4]; decide
      have X : own_ext (List.map own_b (own_mk5 4 c0 c1 c2 c3 c4)) = [] := by simp [own_ext, own_mk5, own_lio, own_off_val, (i0.mpr q0), (mt i1.mp q1), (mt i2.mp q2), (mt i3.mp q3)]
      rw [X, ee, e4]
      refine ⟨rfl, fun k hk => ?_⟩
      rcases hk with rfl | rfl | rfl | rfl
      · exact fun h => absurd h (by decide)
      · exact fun h => absurd h (by decide)
      · exact fun h => absurd h (by decide)
      · exact fun h => absurd h (by decide)
    have e4 : d4 = (-1 : Int32) := by rw [hd4, hd3, hd2, hd1, hd0]; simp [q0, q1, q2, q3]
    have ee : e = (0 : Int32) := by rw [he, e4]; decide
    have X : own_ext (List.map own_b (own_mk5 4 c0 c1 c2 c3 c4)) = [] := by simp [own_ext, own_mk5, own_lio, own_off_val, (mt i0.mp q0), (mt i1.mp q1), (mt i2.mp q2), (mt i3.mp q3)]
    rw [X, ee, e4]
    refine ⟨rfl, fun k hk => ?_⟩
    rcases hk with rfl | rfl | rfl | rfl
    · exact fun h => absurd h (by decide)
    · exact fun h => absurd h (by decide)
    · exact fun h => absurd h (by decide)
    · exact fun h => absurd h (by decide)
  · by_cases q4 : c4 = 46
    · have e4 : d4 = (4 : Int32) := by rw [hd4, hd3, hd2, hd1, hd0]; simp [q4]
      have ee : e = (0 : Int32) := by rw [he, e4]; decide
      have X : own_ext (List.map own_b (own_mk5 5 c0 c1 c2 c3 c4)) = [] := by simp [own_ext, own_mk5, own_lio, own_off_val, (i4.mpr q4)]
      rw [X, ee, e4]
      refine ⟨rfl, fun k hk => ?_⟩
      rcases hk with rfl | rfl | rfl | rfl
      · exact fun h => absurd h (by decide)
      · exact fun h => absurd h (by decide)
      · exact fun h => absurd h (by decide)
      · exact fun h => absurd h (by decide)
    by_cases q3 : c3 = 46
    · have e4 : d4 = (3 : Int32) := by rw [hd4, hd3, hd2, hd1, hd0]; simp [q3, q4]
      have ee : e = (1 : Int32) := by rw [he, e4]; decide
      have X : own_ext (List.map own_b (own_mk5 5 c0 c1 c2 c3 c4)) = [own_b c4] := by simp [own_ext, own_mk5, own_lio, own_off_val, (i3.mpr q3), (mt i4.mp q4)]
      rw [X, ee, e4]
      refine ⟨rfl, fun k hk => ?_⟩
      rcases hk with rfl | rfl | rfl | rfl
      · exact fun _ => ⟨0, own_b c4, 4, by decide, rfl, rfl, by decide, rfl, congrArg some b4.symm⟩
      · exact fun h => absurd h (by decide)
      · exact fun h => absurd h (by decide)
      · exact fun h => absurd h (by decide)
    by_cases q2 : c2 = 46
    · have e4 : d4 = (2 : Int32) := by rw [hd4, hd3, hd2, hd1, hd0]; simp [q2, q3, q4]
      have ee : e = (2 : Int32) := by rw [he, e4]; decide
      have X : own_ext (List.map own_b (own_mk5 5 c0 c1 c2 c3 c4)) = [own_b c3, own_b c4] := by simp [own_ext, own_mk5, own_lio, own_off_val, (i2.mpr q2), (mt i3.mp q3), (mt i4.mp q4)]
      rw [X, ee, e4]
      refine ⟨rfl, fun k hk => ?_⟩
      rcases hk with rfl | rfl | rfl | rfl
      · exact fun _ => ⟨0, own_b c3, 3, by decide, rfl, rfl, by decide, rfl, congrArg some b3.symm⟩
      · exact fun _ => ⟨1, own_b c4, 4, by decide, rfl, rfl, by decide, rfl, congrArg some b4.symm⟩
      · exact fun h => absurd h (by decide)
      · exact fun h => absurd h (by decide)
    by_cases q1 : c1 = 46
    · have e4 : d4 = (1 : Int32) := by rw [hd4, hd3, hd2, hd1, hd0]; simp [q1, q2, q3, q4]
      have ee : e = (3 : Int32) := by rw [he, e4]; decide
      have X : own_ext (List.map own_b (own_mk5 5 c0 c1 c2 c3 c4)) = [own_b c2, own_b c3, own_b c4] := by simp [own_ext, own_mk5, own_lio, own_off_val, (i1.mpr q1), (mt i2.mp q2), (mt i3.mp q3), (mt i4.mp q4)]
      rw [X, ee, e4]
      refine ⟨rfl, fun k hk => ?_⟩
      rcases hk with rfl | rfl | rfl | rfl
      · exact fun _ => ⟨0, own_b c2, 2, by decide, rfl, rfl, by decide, rfl, congrArg some b2.symm⟩
      · exact fun _ => ⟨1, own_b c3, 3, by decide, rfl, rfl, by decide, rfl, congrArg some b3.symm⟩
      · exact fun _ => ⟨2, own_b c4, 4, by decide, rfl, rfl, by decide, rfl, congrArg some b4.symm⟩
      · exact fun h => absurd h (by decide)
    by_cases q0 : c0 = 46
    · have e4 : d4 = (0 : Int32) := by rw [hd4, hd3, hd2, hd1, hd0]; simp [q0, q1, q2, q3, q4]
      have ee : e = (0 : Int32) := by rw [he, e4]; decide
      have X : own_ext (List.map own_b (own_mk5 5 c0 c1 c2 c3 c4)) = [] := by simp [own_ext, own_mk5, own_lio, own_off_val, (i0.mpr q0), (mt i1.mp q1), (mt i2.mp q2), (mt i3.mp q3), (mt i4.mp q4)]
      rw [X, ee, e4]
      refine ⟨rfl, fun k hk => ?_⟩
      rcases hk with rfl | rfl | rfl | rfl
      · exact fun h => absurd h (by decide)
      · exact fun h => absurd h (by decide)
      · exact fun h => absurd h (by decide)
      · exact fun h => absurd h (by decide)
    have e4 : d4 = (-1 : Int32) := by rw [hd4, hd3, hd2, hd1, hd0]; simp [q0, q1, q2, q3, q4]
    have ee : e = (0 : Int32) := by rw [he, e4]; decide
    have X : own_ext (List.map own_b (own_mk5 5 c0 c1 c2 c3 c4)) = [] := by simp [own_ext, own_mk5, own_lio, own_off_val, (mt i0.mp q0), (mt i1.mp q1), (mt i2.mp q2), (mt i3.mp q3), (mt i4.mp q4)]
    rw [X, ee, e4]
    refine ⟨rfl, fun k hk => ?_⟩
    rcases hk with rfl | rfl | rfl | rfl
    · exact fun h => absurd h (by decide)
    · exact fun h => absurd h (by decide)
    · exact fun h => absurd h (by decide)
    · exact fun h => absurd h (by decide)
abbrev y_29 : MethodName := ⟨"com/example/dossier_relay/dossierrelay/bundle/FilePathsExtensionOfPinLaw", "same", "(Ljava/lang/String;[CIII)Z"⟩
abbrev y_28 : MethodName := ⟨"com/example/dossier_relay/dossierrelay/bundle/FilePaths", "extensionOf", "(Ljava/lang/String;)Ljava/lang/String;"⟩
abbrev y_27 : MethodName := ⟨"java/lang/String", "substring", "(I)Ljava/lang/String;"⟩
abbrev y_26 : MethodName := ⟨"java/lang/String", "substring", "(II)Ljava/lang/String;"⟩
abbrev y_25 : MethodName := ⟨"java/lang/String", "checkBoundsBeginEnd", "(III)V"⟩
abbrev y_24 : MethodName := ⟨"jdk/internal/util/Preconditions", "checkFromToIndex", "(IIILjava/util/function/BiFunction;)I"⟩
abbrev y_23 : MethodName := ⟨"java/lang/StringLatin1", "newString", "([BII)Ljava/lang/String;"⟩
abbrev y_22 : MethodName := ⟨"java/lang/String", "<init>", "([BB)V"⟩
abbrev y_21 : MethodName := ⟨"java/util/Arrays", "copyOfRange", "([BII)[B"⟩
abbrev y_20 : MethodName := ⟨"java/util/Arrays", "copyOfRangeByte", "([BII)[B"⟩
abbrev y_19 : MethodName := ⟨"java/util/Arrays", "checkLength", "(II)V"⟩
abbrev y_18 : MethodName := ⟨"java/lang/String", "lastIndexOf", "(I)I"⟩
abbrev y_17 : MethodName := ⟨"java/lang/String", "lastIndexOf", "(II)I"⟩
abbrev y_16 : MethodName := ⟨"java/lang/StringLatin1", "lastIndexOf", "([BII)I"⟩
abbrev y_15 : MethodName := ⟨"java/lang/Math", "min", "(II)I"⟩
abbrev y_14 : MethodName := ⟨"java/lang/StringLatin1", "canEncode", "(I)Z"⟩
abbrev y_13 : MethodName := ⟨"com/example/dossier_relay/dossierrelay/bundle/FilePathsExtensionOfPinLaw", "make", "(I[C)Ljava/lang/String;"⟩
abbrev y_12 : MethodName := ⟨"com/example/dossier_relay/dossierrelay/bundle/FilePathsExtensionOfPinLaw", "ch", "(I)C"⟩
abbrev y_11 : MethodName := ⟨"java/lang/String", "length", "()I"⟩
abbrev y_10 : MethodName := ⟨"java/lang/String", "coder", "()B"⟩
abbrev y_9 : MethodName := ⟨"java/lang/String", "charAt", "(I)C"⟩
abbrev y_8 : MethodName := ⟨"java/lang/StringLatin1", "charAt", "([BI)C"⟩
abbrev y_7 : MethodName := ⟨"java/lang/String", "checkIndex", "(II)V"⟩
abbrev y_6 : MethodName := ⟨"jdk/internal/util/Preconditions", "checkIndex", "(IILjava/util/function/BiFunction;)I"⟩
abbrev y_5 : MethodName := ⟨"java/lang/String", "isLatin1", "()Z"⟩
abbrev y_4 : MethodName := ⟨"java/lang/String", "<init>", "([C)V"⟩
abbrev y_3 : MethodName := ⟨"java/lang/String", "<init>", "([CIILjava/lang/Void;)V"⟩
abbrev y_2 : MethodName := ⟨"java/lang/StringUTF16", "coderFromArrayLen", "([BI)B"⟩
abbrev y_1 : MethodName := ⟨"java/lang/StringUTF16", "compress", "([CII)[B"⟩
abbrev y_0 : MethodName := ⟨"java/lang/StringUTF16", "compress", "([CI[BII)I"⟩
theorem d0_0 : De code 0 (.iload_n 0) 1 1 := ⟨by decide +kernel, rfl⟩
theorem d0_1 : De code 1 (.ldc 7) 2 3 := ⟨by decide +kernel, rfl⟩
theorem d0_3 : De code 3 (.iand) 1 4 := ⟨by decide +kernel, rfl⟩
theorem d0_4 : De code 4 (.bipush 6) 2 6 := ⟨by decide +kernel, rfl⟩
theorem d0_6 : De code 6 (.irem) 1 7 := ⟨by decide +kernel, rfl⟩
theorem d0_7 : De code 7 (.istore 6) 2 9 := ⟨by decide +kernel, rfl⟩
theorem d0_9 : De code 9 (.iconst 5) 1 10 := ⟨by decide +kernel, rfl⟩
theorem d0_10 : De code 10 (.newarray .char) 2 12 := ⟨by decide +kernel, rfl⟩
theorem d0_12 : De code 12 (.dup) 1 13 := ⟨by decide +kernel, rfl⟩
theorem d0_13 : De code 13 (.iconst 0) 1 14 := ⟨by decide +kernel, rfl⟩
theorem d0_14 : De code 14 (.iload_n 1) 1 15 := ⟨by decide +kernel, rfl⟩
theorem d0_15 : De code 15 (.invokestatic 8) 3 18 := ⟨by decide +kernel, rfl⟩
theorem d0_18 : De code 18 (.castore) 1 19 := ⟨by decide +kernel, rfl⟩
theorem d0_19 : De code 19 (.dup) 1 20 := ⟨by decide +kernel, rfl⟩
theorem d0_20 : De code 20 (.iconst 1) 1 21 := ⟨by decide +kernel, rfl⟩
theorem d0_21 : De code 21 (.iload_n 2) 1 22 := ⟨by decide +kernel, rfl⟩
theorem d0_22 : De code 22 (.invokestatic 8) 3 25 := ⟨by decide +kernel, rfl⟩
theorem d0_25 : De code 25 (.castore) 1 26 := ⟨by decide +kernel, rfl⟩
theorem d0_26 : De code 26 (.dup) 1 27 := ⟨by decide +kernel, rfl⟩
theorem d0_27 : De code 27 (.iconst 2) 1 28 := ⟨by decide +kernel, rfl⟩
theorem d0_28 : De code 28 (.iload_n 3) 1 29 := ⟨by decide +kernel, rfl⟩
theorem d0_29 : De code 29 (.invokestatic 8) 3 32 := ⟨by decide +kernel, rfl⟩
theorem d0_32 : De code 32 (.castore) 1 33 := ⟨by decide +kernel, rfl⟩
theorem d0_33 : De code 33 (.dup) 1 34 := ⟨by decide +kernel, rfl⟩
theorem d0_34 : De code 34 (.iconst 3) 1 35 := ⟨by decide +kernel, rfl⟩
theorem d0_35 : De code 35 (.iload 4) 2 37 := ⟨by decide +kernel, rfl⟩
theorem d0_37 : De code 37 (.invokestatic 8) 3 40 := ⟨by decide +kernel, rfl⟩
theorem d0_40 : De code 40 (.castore) 1 41 := ⟨by decide +kernel, rfl⟩
theorem d0_41 : De code 41 (.dup) 1 42 := ⟨by decide +kernel, rfl⟩
theorem d0_42 : De code 42 (.iconst 4) 1 43 := ⟨by decide +kernel, rfl⟩
theorem d0_43 : De code 43 (.iload 5) 2 45 := ⟨by decide +kernel, rfl⟩
theorem d0_45 : De code 45 (.invokestatic 8) 3 48 := ⟨by decide +kernel, rfl⟩
theorem d0_48 : De code 48 (.castore) 1 49 := ⟨by decide +kernel, rfl⟩
theorem d0_49 : De code 49 (.astore 7) 2 51 := ⟨by decide +kernel, rfl⟩
theorem d0_51 : De code 51 (.iload 6) 2 53 := ⟨by decide +kernel, rfl⟩
theorem d0_53 : De code 53 (.aload 7) 2 55 := ⟨by decide +kernel, rfl⟩
theorem d0_55 : De code 55 (.invokestatic 14) 3 58 := ⟨by decide +kernel, rfl⟩
theorem d0_58 : De code 58 (.astore 8) 2 60 := ⟨by decide +kernel, rfl⟩
theorem d0_60 : De code 60 (.aload 8) 2 62 := ⟨by decide +kernel, rfl⟩
theorem d0_62 : De code 62 (.invokestatic 18) 3 65 := ⟨by decide +kernel, rfl⟩
theorem d0_65 : De code 65 (.astore 9) 2 67 := ⟨by decide +kernel, rfl⟩
theorem d0_67 : De code 67 (.iconst (-1)) 1 68 := ⟨by decide +kernel, rfl⟩
theorem d0_68 : De code 68 (.istore 10) 2 70 := ⟨by decide +kernel, rfl⟩
theorem d0_70 : De code 70 (.iload 6) 2 72 := ⟨by decide +kernel, rfl⟩
theorem d0_72 : DeJ code 72 (.ifCond .le) 75 87 := ⟨15, by decide +kernel, rfl, by decide, by decide⟩
theorem d0_75 : De code 75 (.aload 7) 2 77 := ⟨by decide +kernel, rfl⟩
theorem d0_77 : De code 77 (.iconst 0) 1 78 := ⟨by decide +kernel, rfl⟩
theorem d0_78 : De code 78 (.caload) 1 79 := ⟨by decide +kernel, rfl⟩
theorem d0_79 : De code 79 (.bipush 46) 2 81 := ⟨by decide +kernel, rfl⟩
theorem d0_81 : DeJ code 81 (.if_icmp .ne) 84 87 := ⟨6, by decide +kernel, rfl, by decide, by decide⟩
theorem d0_84 : De code 84 (.iconst 0) 1 85 := ⟨by decide +kernel, rfl⟩
theorem d0_85 : De code 85 (.istore 10) 2 87 := ⟨by decide +kernel, rfl⟩
theorem d0_87 : De code 87 (.iload 6) 2 89 := ⟨by decide +kernel, rfl⟩
theorem d0_89 : De code 89 (.iconst 1) 1 90 := ⟨by decide +kernel, rfl⟩
theorem d0_90 : DeJ code 90 (.if_icmp .le) 93 105 := ⟨15, by decide +kernel, rfl, by decide, by decide⟩
theorem d0_93 : De code 93 (.aload 7) 2 95 := ⟨by decide +kernel, rfl⟩
theorem d0_95 : De code 95 (.iconst 1) 1 96 := ⟨by decide +kernel, rfl⟩
theorem d0_96 : De code 96 (.caload) 1 97 := ⟨by decide +kernel, rfl⟩
theorem d0_97 : De code 97 (.bipush 46) 2 99 := ⟨by decide +kernel, rfl⟩
theorem d0_99 : DeJ code 99 (.if_icmp .ne) 102 105 := ⟨6, by decide +kernel, rfl, by decide, by decide⟩
theorem d0_102 : De code 102 (.iconst 1) 1 103 := ⟨by decide +kernel, rfl⟩
theorem d0_103 : De code 103 (.istore 10) 2 105 := ⟨by decide +kernel, rfl⟩
theorem d0_105 : De code 105 (.iload 6) 2 107 := ⟨by decide +kernel, rfl⟩
theorem d0_107 : De code 107 (.iconst 2) 1 108 := ⟨by decide +kernel, rfl⟩
theorem d0_108 : DeJ code 108 (.if_icmp .le) 111 123 := ⟨15, by decide +kernel, rfl, by decide, by decide⟩
theorem d0_111 : De code 111 (.aload 7) 2 113 := ⟨by decide +kernel, rfl⟩
theorem d0_113 : De code 113 (.iconst 2) 1 114 := ⟨by decide +kernel, rfl⟩
theorem d0_114 : De code 114 (.caload) 1 115 := ⟨by decide +kernel, rfl⟩
theorem d0_115 : De code 115 (.bipush 46) 2 117 := ⟨by decide +kernel, rfl⟩
theorem d0_117 : DeJ code 117 (.if_icmp .ne) 120 123 := ⟨6, by decide +kernel, rfl, by decide, by decide⟩
theorem d0_120 : De code 120 (.iconst 2) 1 121 := ⟨by decide +kernel, rfl⟩
theorem d0_121 : De code 121 (.istore 10) 2 123 := ⟨by decide +kernel, rfl⟩
theorem d0_123 : De code 123 (.iload 6) 2 125 := ⟨by decide +kernel, rfl⟩
theorem d0_125 : De code 125 (.iconst 3) 1 126 := ⟨by decide +kernel, rfl⟩
theorem d0_126 : DeJ code 126 (.if_icmp .le) 129 141 := ⟨15, by decide +kernel, rfl, by decide, by decide⟩
theorem d0_129 : De code 129 (.aload 7) 2 131 := ⟨by decide +kernel, rfl⟩
theorem d0_131 : De code 131 (.iconst 3) 1 132 := ⟨by decide +kernel, rfl⟩
theorem d0_132 : De code 132 (.caload) 1 133 := ⟨by decide +kernel, rfl⟩
theorem d0_133 : De code 133 (.bipush 46) 2 135 := ⟨by decide +kernel, rfl⟩
theorem d0_135 : DeJ code 135 (.if_icmp .ne) 138 141 := ⟨6, by decide +kernel, rfl, by decide, by decide⟩
theorem d0_138 : De code 138 (.iconst 3) 1 139 := ⟨by decide +kernel, rfl⟩
theorem d0_139 : De code 139 (.istore 10) 2 141 := ⟨by decide +kernel, rfl⟩
theorem d0_141 : De code 141 (.iload 6) 2 143 := ⟨by decide +kernel, rfl⟩
theorem d0_143 : De code 143 (.iconst 4) 1 144 := ⟨by decide +kernel, rfl⟩
theorem d0_144 : DeJ code 144 (.if_icmp .le) 147 159 := ⟨15, by decide +kernel, rfl, by decide, by decide⟩
theorem d0_147 : De code 147 (.aload 7) 2 149 := ⟨by decide +kernel, rfl⟩
theorem d0_149 : De code 149 (.iconst 4) 1 150 := ⟨by decide +kernel, rfl⟩
theorem d0_150 : De code 150 (.caload) 1 151 := ⟨by decide +kernel, rfl⟩
theorem d0_151 : De code 151 (.bipush 46) 2 153 := ⟨by decide +kernel, rfl⟩
theorem d0_153 : DeJ code 153 (.if_icmp .ne) 156 159 := ⟨6, by decide +kernel, rfl, by decide, by decide⟩
theorem d0_156 : De code 156 (.iconst 4) 1 157 := ⟨by decide +kernel, rfl⟩
theorem d0_157 : De code 157 (.istore 10) 2 159 := ⟨by decide +kernel, rfl⟩
theorem d0_159 : De code 159 (.iload 10) 2 161 := ⟨by decide +kernel, rfl⟩
theorem d0_161 : DeJ code 161 (.ifCond .gt) 164 168 := ⟨7, by decide +kernel, rfl, by decide, by decide⟩
theorem d0_164 : De code 164 (.iconst 0) 1 165 := ⟨by decide +kernel, rfl⟩
theorem d0_165 : DeJ code 165 .goto 168 175 := ⟨10, by decide +kernel, rfl, by decide, by decide⟩
theorem d0_168 : De code 168 (.iload 6) 2 170 := ⟨by decide +kernel, rfl⟩
theorem d0_170 : De code 170 (.iload 10) 2 172 := ⟨by decide +kernel, rfl⟩
theorem d0_172 : De code 172 (.isub) 1 173 := ⟨by decide +kernel, rfl⟩
theorem d0_173 : De code 173 (.iconst 1) 1 174 := ⟨by decide +kernel, rfl⟩
theorem d0_174 : De code 174 (.isub) 1 175 := ⟨by decide +kernel, rfl⟩
theorem d0_175 : De code 175 (.istore 11) 2 177 := ⟨by decide +kernel, rfl⟩
theorem d0_177 : De code 177 (.aload 9) 2 179 := ⟨by decide +kernel, rfl⟩
theorem d0_179 : DeJ code 179 .ifnull 182 192 := ⟨13, by decide +kernel, rfl, by decide, by decide⟩
theorem d0_182 : De code 182 (.aload 9) 2 184 := ⟨by decide +kernel, rfl⟩
theorem d0_184 : De code 184 (.invokevirtual 24) 3 187 := ⟨by decide +kernel, rfl⟩
theorem d0_187 : De code 187 (.iload 11) 2 189 := ⟨by decide +kernel, rfl⟩
theorem d0_189 : DeJ code 189 (.if_icmp .eq) 192 194 := ⟨5, by decide +kernel, rfl, by decide, by decide⟩
theorem d0_194 : De code 194 (.aload 9) 2 196 := ⟨by decide +kernel, rfl⟩
theorem d0_196 : De code 196 (.aload 7) 2 198 := ⟨by decide +kernel, rfl⟩
theorem d0_198 : De code 198 (.iload 10) 2 200 := ⟨by decide +kernel, rfl⟩
theorem d0_200 : De code 200 (.iconst 0) 1 201 := ⟨by decide +kernel, rfl⟩
theorem d0_201 : De code 201 (.iload 11) 2 203 := ⟨by decide +kernel, rfl⟩
theorem d0_203 : De code 203 (.invokestatic 30) 3 206 := ⟨by decide +kernel, rfl⟩
theorem d0_206 : DeJ code 206 (.ifCond .eq) 209 258 := ⟨52, by decide +kernel, rfl, by decide, by decide⟩
theorem d0_209 : De code 209 (.aload 9) 2 211 := ⟨by decide +kernel, rfl⟩
theorem d0_211 : De code 211 (.aload 7) 2 213 := ⟨by decide +kernel, rfl⟩
theorem d0_213 : De code 213 (.iload 10) 2 215 := ⟨by decide +kernel, rfl⟩
theorem d0_215 : De code 215 (.iconst 1) 1 216 := ⟨by decide +kernel, rfl⟩
theorem d0_216 : De code 216 (.iload 11) 2 218 := ⟨by decide +kernel, rfl⟩
theorem d0_218 : De code 218 (.invokestatic 30) 3 221 := ⟨by decide +kernel, rfl⟩
theorem d0_221 : DeJ code 221 (.ifCond .eq) 224 258 := ⟨37, by decide +kernel, rfl, by decide, by decide⟩
theorem d0_224 : De code 224 (.aload 9) 2 226 := ⟨by decide +kernel, rfl⟩
theorem d0_226 : De code 226 (.aload 7) 2 228 := ⟨by decide +kernel, rfl⟩
theorem d0_228 : De code 228 (.iload 10) 2 230 := ⟨by decide +kernel, rfl⟩
theorem d0_230 : De code 230 (.iconst 2) 1 231 := ⟨by decide +kernel, rfl⟩
theorem d0_231 : De code 231 (.iload 11) 2 233 := ⟨by decide +kernel, rfl⟩
theorem d0_233 : De code 233 (.invokestatic 30) 3 236 := ⟨by decide +kernel, rfl⟩
theorem d0_236 : DeJ code 236 (.ifCond .eq) 239 258 := ⟨22, by decide +kernel, rfl, by decide, by decide⟩
theorem d0_239 : De code 239 (.aload 9) 2 241 := ⟨by decide +kernel, rfl⟩
theorem d0_241 : De code 241 (.aload 7) 2 243 := ⟨by decide +kernel, rfl⟩
theorem d0_243 : De code 243 (.iload 10) 2 245 := ⟨by decide +kernel, rfl⟩
theorem d0_245 : De code 245 (.iconst 3) 1 246 := ⟨by decide +kernel, rfl⟩
theorem d0_246 : De code 246 (.iload 11) 2 248 := ⟨by decide +kernel, rfl⟩
theorem d0_248 : De code 248 (.invokestatic 30) 3 251 := ⟨by decide +kernel, rfl⟩
theorem d0_251 : DeJ code 251 (.ifCond .eq) 254 258 := ⟨7, by decide +kernel, rfl, by decide, by decide⟩
theorem d0_254 : De code 254 (.iconst 1) 1 255 := ⟨by decide +kernel, rfl⟩
theorem d0_255 : DeJ code 255 .goto 258 259 := ⟨4, by decide +kernel, rfl, by decide, by decide⟩
theorem d0_259 : De code 259 (.ireturn) 1 260 := ⟨by decide +kernel, rfl⟩
theorem d1_0 : De method_3_code 0 (.iload_n 0) 1 1 := ⟨by decide +kernel, rfl⟩
theorem d1_1 : De method_3_code 1 (.sipush 768) 3 4 := ⟨by decide +kernel, rfl⟩
theorem d1_4 : De method_3_code 4 (.iand) 1 5 := ⟨by decide +kernel, rfl⟩
theorem d1_5 : DeJ method_3_code 5 (.ifCond .ne) 8 11 := ⟨6, by decide +kernel, rfl, by decide, by decide⟩
theorem d1_8 : De method_3_code 8 (.bipush 46) 2 10 := ⟨by decide +kernel, rfl⟩
theorem d1_10 : De method_3_code 10 (.ireturn) 1 11 := ⟨by decide +kernel, rfl⟩
theorem d1_11 : De method_3_code 11 (.iload_n 0) 1 12 := ⟨by decide +kernel, rfl⟩
theorem d1_12 : De method_3_code 12 (.sipush 255) 3 15 := ⟨by decide +kernel, rfl⟩
theorem d1_15 : De method_3_code 15 (.iand) 1 16 := ⟨by decide +kernel, rfl⟩
theorem d1_16 : De method_3_code 16 (.i2c) 1 17 := ⟨by decide +kernel, rfl⟩
theorem d1_17 : De method_3_code 17 (.ireturn) 1 18 := ⟨by decide +kernel, rfl⟩
theorem d2_0 : De method_4_code 0 (.iload_n 0) 1 1 := ⟨by decide +kernel, rfl⟩
theorem d2_1 : DeJ method_4_code 1 (.ifCond .ne) 4 15 := ⟨14, by decide +kernel, rfl, by decide, by decide⟩
theorem d2_4 : De method_4_code 4 (.new 25) 3 7 := ⟨by decide +kernel, rfl⟩
theorem d2_7 : De method_4_code 7 (.dup) 1 8 := ⟨by decide +kernel, rfl⟩
theorem d2_8 : De method_4_code 8 (.iconst 0) 1 9 := ⟨by decide +kernel, rfl⟩
theorem d2_9 : De method_4_code 9 (.newarray .char) 2 11 := ⟨by decide +kernel, rfl⟩
theorem d2_11 : De method_4_code 11 (.invokespecial 34) 3 14 := ⟨by decide +kernel, rfl⟩
theorem d2_14 : De method_4_code 14 (.areturn) 1 15 := ⟨by decide +kernel, rfl⟩
theorem d2_15 : De method_4_code 15 (.iload_n 0) 1 16 := ⟨by decide +kernel, rfl⟩
theorem d2_16 : De method_4_code 16 (.iconst 1) 1 17 := ⟨by decide +kernel, rfl⟩
theorem d2_17 : DeJ method_4_code 17 (.if_icmp .ne) 20 37 := ⟨20, by decide +kernel, rfl, by decide, by decide⟩
theorem d2_20 : De method_4_code 20 (.new 25) 3 23 := ⟨by decide +kernel, rfl⟩
theorem d2_23 : De method_4_code 23 (.dup) 1 24 := ⟨by decide +kernel, rfl⟩
theorem d2_24 : De method_4_code 24 (.iconst 1) 1 25 := ⟨by decide +kernel, rfl⟩
theorem d2_25 : De method_4_code 25 (.newarray .char) 2 27 := ⟨by decide +kernel, rfl⟩
theorem d2_27 : De method_4_code 27 (.dup) 1 28 := ⟨by decide +kernel, rfl⟩
theorem d2_28 : De method_4_code 28 (.iconst 0) 1 29 := ⟨by decide +kernel, rfl⟩
theorem d2_29 : De method_4_code 29 (.aload_n 1) 1 30 := ⟨by decide +kernel, rfl⟩
theorem d2_30 : De method_4_code 30 (.iconst 0) 1 31 := ⟨by decide +kernel, rfl⟩
theorem d2_31 : De method_4_code 31 (.caload) 1 32 := ⟨by decide +kernel, rfl⟩
theorem d2_32 : De method_4_code 32 (.castore) 1 33 := ⟨by decide +kernel, rfl⟩
theorem d2_33 : De method_4_code 33 (.invokespecial 34) 3 36 := ⟨by decide +kernel, rfl⟩
theorem d2_36 : De method_4_code 36 (.areturn) 1 37 := ⟨by decide +kernel, rfl⟩
theorem d2_37 : De method_4_code 37 (.iload_n 0) 1 38 := ⟨by decide +kernel, rfl⟩
theorem d2_38 : De method_4_code 38 (.iconst 2) 1 39 := ⟨by decide +kernel, rfl⟩
theorem d2_39 : DeJ method_4_code 39 (.if_icmp .ne) 42 65 := ⟨26, by decide +kernel, rfl, by decide, by decide⟩
theorem d2_42 : De method_4_code 42 (.new 25) 3 45 := ⟨by decide +kernel, rfl⟩
theorem d2_45 : De method_4_code 45 (.dup) 1 46 := ⟨by decide +kernel, rfl⟩
theorem d2_46 : De method_4_code 46 (.iconst 2) 1 47 := ⟨by decide +kernel, rfl⟩
theorem d2_47 : De method_4_code 47 (.newarray .char) 2 49 := ⟨by decide +kernel, rfl⟩
theorem d2_49 : De method_4_code 49 (.dup) 1 50 := ⟨by decide +kernel, rfl⟩
theorem d2_50 : De method_4_code 50 (.iconst 0) 1 51 := ⟨by decide +kernel, rfl⟩
theorem d2_51 : De method_4_code 51 (.aload_n 1) 1 52 := ⟨by decide +kernel, rfl⟩
theorem d2_52 : De method_4_code 52 (.iconst 0) 1 53 := ⟨by decide +kernel, rfl⟩
theorem d2_53 : De method_4_code 53 (.caload) 1 54 := ⟨by decide +kernel, rfl⟩
theorem d2_54 : De method_4_code 54 (.castore) 1 55 := ⟨by decide +kernel, rfl⟩
theorem d2_55 : De method_4_code 55 (.dup) 1 56 := ⟨by decide +kernel, rfl⟩
theorem d2_56 : De method_4_code 56 (.iconst 1) 1 57 := ⟨by decide +kernel, rfl⟩
theorem d2_57 : De method_4_code 57 (.aload_n 1) 1 58 := ⟨by decide +kernel, rfl⟩
theorem d2_58 : De method_4_code 58 (.iconst 1) 1 59 := ⟨by decide +kernel, rfl⟩
theorem d2_59 : De method_4_code 59 (.caload) 1 60 := ⟨by decide +kernel, rfl⟩
theorem d2_60 : De method_4_code 60 (.castore) 1 61 := ⟨by decide +kernel, rfl⟩
theorem d2_61 : De method_4_code 61 (.invokespecial 34) 3 64 := ⟨by decide +kernel, rfl⟩
theorem d2_64 : De method_4_code 64 (.areturn) 1 65 := ⟨by decide +kernel, rfl⟩
theorem d2_65 : De method_4_code 65 (.iload_n 0) 1 66 := ⟨by decide +kernel, rfl⟩
theorem d2_66 : De method_4_code 66 (.iconst 3) 1 67 := ⟨by decide +kernel, rfl⟩
theorem d2_67 : DeJ method_4_code 67 (.if_icmp .ne) 70 99 := ⟨32, by decide +kernel, rfl, by decide, by decide⟩
theorem d2_70 : De method_4_code 70 (.new 25) 3 73 := ⟨by decide +kernel, rfl⟩
theorem d2_73 : De method_4_code 73 (.dup) 1 74 := ⟨by decide +kernel, rfl⟩
theorem d2_74 : De method_4_code 74 (.iconst 3) 1 75 := ⟨by decide +kernel, rfl⟩
theorem d2_75 : De method_4_code 75 (.newarray .char) 2 77 := ⟨by decide +kernel, rfl⟩
theorem d2_77 : De method_4_code 77 (.dup) 1 78 := ⟨by decide +kernel, rfl⟩
theorem d2_78 : De method_4_code 78 (.iconst 0) 1 79 := ⟨by decide +kernel, rfl⟩
theorem d2_79 : De method_4_code 79 (.aload_n 1) 1 80 := ⟨by decide +kernel, rfl⟩
theorem d2_80 : De method_4_code 80 (.iconst 0) 1 81 := ⟨by decide +kernel, rfl⟩
theorem d2_81 : De method_4_code 81 (.caload) 1 82 := ⟨by decide +kernel, rfl⟩
theorem d2_82 : De method_4_code 82 (.castore) 1 83 := ⟨by decide +kernel, rfl⟩
theorem d2_83 : De method_4_code 83 (.dup) 1 84 := ⟨by decide +kernel, rfl⟩
theorem d2_84 : De method_4_code 84 (.iconst 1) 1 85 := ⟨by decide +kernel, rfl⟩
theorem d2_85 : De method_4_code 85 (.aload_n 1) 1 86 := ⟨by decide +kernel, rfl⟩
theorem d2_86 : De method_4_code 86 (.iconst 1) 1 87 := ⟨by decide +kernel, rfl⟩
theorem d2_87 : De method_4_code 87 (.caload) 1 88 := ⟨by decide +kernel, rfl⟩
theorem d2_88 : De method_4_code 88 (.castore) 1 89 := ⟨by decide +kernel, rfl⟩
theorem d2_89 : De method_4_code 89 (.dup) 1 90 := ⟨by decide +kernel, rfl⟩
theorem d2_90 : De method_4_code 90 (.iconst 2) 1 91 := ⟨by decide +kernel, rfl⟩
theorem d2_91 : De method_4_code 91 (.aload_n 1) 1 92 := ⟨by decide +kernel, rfl⟩
theorem d2_92 : De method_4_code 92 (.iconst 2) 1 93 := ⟨by decide +kernel, rfl⟩
theorem d2_93 : De method_4_code 93 (.caload) 1 94 := ⟨by decide +kernel, rfl⟩
theorem d2_94 : De method_4_code 94 (.castore) 1 95 := ⟨by decide +kernel, rfl⟩
theorem d2_95 : De method_4_code 95 (.invokespecial 34) 3 98 := ⟨by decide +kernel, rfl⟩
theorem d2_98 : De method_4_code 98 (.areturn) 1 99 := ⟨by decide +kernel, rfl⟩
theorem d2_99 : De method_4_code 99 (.iload_n 0) 1 100 := ⟨by decide +kernel, rfl⟩
theorem d2_100 : De method_4_code 100 (.iconst 4) 1 101 := ⟨by decide +kernel, rfl⟩
theorem d2_101 : DeJ method_4_code 101 (.if_icmp .ne) 104 139 := ⟨38, by decide +kernel, rfl, by decide, by decide⟩
theorem d2_104 : De method_4_code 104 (.new 25) 3 107 := ⟨by decide +kernel, rfl⟩
theorem d2_107 : De method_4_code 107 (.dup) 1 108 := ⟨by decide +kernel, rfl⟩
theorem d2_108 : De method_4_code 108 (.iconst 4) 1 109 := ⟨by decide +kernel, rfl⟩
theorem d2_109 : De method_4_code 109 (.newarray .char) 2 111 := ⟨by decide +kernel, rfl⟩
theorem d2_111 : De method_4_code 111 (.dup) 1 112 := ⟨by decide +kernel, rfl⟩
theorem d2_112 : De method_4_code 112 (.iconst 0) 1 113 := ⟨by decide +kernel, rfl⟩
theorem d2_113 : De method_4_code 113 (.aload_n 1) 1 114 := ⟨by decide +kernel, rfl⟩
theorem d2_114 : De method_4_code 114 (.iconst 0) 1 115 := ⟨by decide +kernel, rfl⟩
theorem d2_115 : De method_4_code 115 (.caload) 1 116 := ⟨by decide +kernel, rfl⟩
theorem d2_116 : De method_4_code 116 (.castore) 1 117 := ⟨by decide +kernel, rfl⟩
theorem d2_117 : De method_4_code 117 (.dup) 1 118 := ⟨by decide +kernel, rfl⟩
theorem d2_118 : De method_4_code 118 (.iconst 1) 1 119 := ⟨by decide +kernel, rfl⟩
theorem d2_119 : De method_4_code 119 (.aload_n 1) 1 120 := ⟨by decide +kernel, rfl⟩
theorem d2_120 : De method_4_code 120 (.iconst 1) 1 121 := ⟨by decide +kernel, rfl⟩
theorem d2_121 : De method_4_code 121 (.caload) 1 122 := ⟨by decide +kernel, rfl⟩
theorem d2_122 : De method_4_code 122 (.castore) 1 123 := ⟨by decide +kernel, rfl⟩
theorem d2_123 : De method_4_code 123 (.dup) 1 124 := ⟨by decide +kernel, rfl⟩
theorem d2_124 : De method_4_code 124 (.iconst 2) 1 125 := ⟨by decide +kernel, rfl⟩
theorem d2_125 : De method_4_code 125 (.aload_n 1) 1 126 := ⟨by decide +kernel, rfl⟩
theorem d2_126 : De method_4_code 126 (.iconst 2) 1 127 := ⟨by decide +kernel, rfl⟩
theorem d2_127 : De method_4_code 127 (.caload) 1 128 := ⟨by decide +kernel, rfl⟩
theorem d2_128 : De method_4_code 128 (.castore) 1 129 := ⟨by decide +kernel, rfl⟩
theorem d2_129 : De method_4_code 129 (.dup) 1 130 := ⟨by decide +kernel, rfl⟩
theorem d2_130 : De method_4_code 130 (.iconst 3) 1 131 := ⟨by decide +kernel, rfl⟩
theorem d2_131 : De method_4_code 131 (.aload_n 1) 1 132 := ⟨by decide +kernel, rfl⟩
theorem d2_132 : De method_4_code 132 (.iconst 3) 1 133 := ⟨by decide +kernel, rfl⟩
theorem d2_133 : De method_4_code 133 (.caload) 1 134 := ⟨by decide +kernel, rfl⟩
theorem d2_134 : De method_4_code 134 (.castore) 1 135 := ⟨by decide +kernel, rfl⟩
theorem d2_135 : De method_4_code 135 (.invokespecial 34) 3 138 := ⟨by decide +kernel, rfl⟩
theorem d2_138 : De method_4_code 138 (.areturn) 1 139 := ⟨by decide +kernel, rfl⟩
theorem d2_139 : De method_4_code 139 (.new 25) 3 142 := ⟨by decide +kernel, rfl⟩
theorem d2_142 : De method_4_code 142 (.dup) 1 143 := ⟨by decide +kernel, rfl⟩
theorem d2_143 : De method_4_code 143 (.iconst 5) 1 144 := ⟨by decide +kernel, rfl⟩
theorem d2_144 : De method_4_code 144 (.newarray .char) 2 146 := ⟨by decide +kernel, rfl⟩
theorem d2_146 : De method_4_code 146 (.dup) 1 147 := ⟨by decide +kernel, rfl⟩
theorem d2_147 : De method_4_code 147 (.iconst 0) 1 148 := ⟨by decide +kernel, rfl⟩
theorem d2_148 : De method_4_code 148 (.aload_n 1) 1 149 := ⟨by decide +kernel, rfl⟩
theorem d2_149 : De method_4_code 149 (.iconst 0) 1 150 := ⟨by decide +kernel, rfl⟩
theorem d2_150 : De method_4_code 150 (.caload) 1 151 := ⟨by decide +kernel, rfl⟩
theorem d2_151 : De method_4_code 151 (.castore) 1 152 := ⟨by decide +kernel, rfl⟩
theorem d2_152 : De method_4_code 152 (.dup) 1 153 := ⟨by decide +kernel, rfl⟩
theorem d2_153 : De method_4_code 153 (.iconst 1) 1 154 := ⟨by decide +kernel, rfl⟩
theorem d2_154 : De method_4_code 154 (.aload_n 1) 1 155 := ⟨by decide +kernel, rfl⟩
theorem d2_155 : De method_4_code 155 (.iconst 1) 1 156 := ⟨by decide +kernel, rfl⟩
theorem d2_156 : De method_4_code 156 (.caload) 1 157 := ⟨by decide +kernel, rfl⟩
theorem d2_157 : De method_4_code 157 (.castore) 1 158 := ⟨by decide +kernel, rfl⟩
theorem d2_158 : De method_4_code 158 (.dup) 1 159 := ⟨by decide +kernel, rfl⟩
theorem d2_159 : De method_4_code 159 (.iconst 2) 1 160 := ⟨by decide +kernel, rfl⟩
theorem d2_160 : De method_4_code 160 (.aload_n 1) 1 161 := ⟨by decide +kernel, rfl⟩
theorem d2_161 : De method_4_code 161 (.iconst 2) 1 162 := ⟨by decide +kernel, rfl⟩
theorem d2_162 : De method_4_code 162 (.caload) 1 163 := ⟨by decide +kernel, rfl⟩
theorem d2_163 : De method_4_code 163 (.castore) 1 164 := ⟨by decide +kernel, rfl⟩
theorem d2_164 : De method_4_code 164 (.dup) 1 165 := ⟨by decide +kernel, rfl⟩
theorem d2_165 : De method_4_code 165 (.iconst 3) 1 166 := ⟨by decide +kernel, rfl⟩
theorem d2_166 : De method_4_code 166 (.aload_n 1) 1 167 := ⟨by decide +kernel, rfl⟩
theorem d2_167 : De method_4_code 167 (.iconst 3) 1 168 := ⟨by decide +kernel, rfl⟩
theorem d2_168 : De method_4_code 168 (.caload) 1 169 := ⟨by decide +kernel, rfl⟩
theorem d2_169 : De method_4_code 169 (.castore) 1 170 := ⟨by decide +kernel, rfl⟩
theorem d2_170 : De method_4_code 170 (.dup) 1 171 := ⟨by decide +kernel, rfl⟩
theorem d2_171 : De method_4_code 171 (.iconst 4) 1 172 := ⟨by decide +kernel, rfl⟩
theorem d2_172 : De method_4_code 172 (.aload_n 1) 1 173 := ⟨by decide +kernel, rfl⟩
theorem d2_173 : De method_4_code 173 (.iconst 4) 1 174 := ⟨by decide +kernel, rfl⟩
theorem d2_174 : De method_4_code 174 (.caload) 1 175 := ⟨by decide +kernel, rfl⟩
theorem d2_175 : De method_4_code 175 (.castore) 1 176 := ⟨by decide +kernel, rfl⟩
theorem d2_176 : De method_4_code 176 (.invokespecial 34) 3 179 := ⟨by decide +kernel, rfl⟩
theorem d2_179 : De method_4_code 179 (.areturn) 1 180 := ⟨by decide +kernel, rfl⟩
theorem d3_0 : De jdk_42_method_3_code 0 (.aload_n 0) 1 1 := ⟨by decide +kernel, rfl⟩
theorem d3_1 : De jdk_42_method_3_code 1 (.aload_n 1) 1 2 := ⟨by decide +kernel, rfl⟩
theorem d3_2 : De jdk_42_method_3_code 2 (.iconst 0) 1 3 := ⟨by decide +kernel, rfl⟩
theorem d3_3 : De jdk_42_method_3_code 3 (.aload_n 1) 1 4 := ⟨by decide +kernel, rfl⟩
theorem d3_4 : De jdk_42_method_3_code 4 (.arraylength) 1 5 := ⟨by decide +kernel, rfl⟩
theorem d3_5 : De jdk_42_method_3_code 5 (.aconst_null) 1 6 := ⟨by decide +kernel, rfl⟩
theorem d3_6 : De jdk_42_method_3_code 6 (.invokespecial 27) 3 9 := ⟨by decide +kernel, rfl⟩
theorem d3_9 : De jdk_42_method_3_code 9 (.return_) 1 10 := ⟨by decide +kernel, rfl⟩
theorem d4_0 : De jdk_42_method_149_code 0 (.aload_n 0) 1 1 := ⟨by decide +kernel, rfl⟩
theorem d4_1 : De jdk_42_method_149_code 1 (.invokespecial 1) 3 4 := ⟨by decide +kernel, rfl⟩
theorem d4_4 : De jdk_42_method_149_code 4 (.iload_n 3) 1 5 := ⟨by decide +kernel, rfl⟩
theorem d4_5 : DeJ jdk_42_method_149_code 5 (.ifCond .ne) 8 27 := ⟨22, by decide +kernel, rfl, by decide, by decide⟩
theorem d4_8 : De jdk_42_method_149_code 8 (.aload_n 0) 1 9 := ⟨by decide +kernel, rfl⟩
theorem d4_9 : De jdk_42_method_149_code 9 (.ldc 7) 2 11 := ⟨by decide +kernel, rfl⟩
theorem d4_11 : De jdk_42_method_149_code 11 (.getfield 9) 3 14 := ⟨by decide +kernel, rfl⟩
theorem d4_14 : De jdk_42_method_149_code 14 (.putfield 9) 3 17 := ⟨by decide +kernel, rfl⟩
theorem d4_17 : De jdk_42_method_149_code 17 (.aload_n 0) 1 18 := ⟨by decide +kernel, rfl⟩
theorem d4_18 : De jdk_42_method_149_code 18 (.ldc 7) 2 20 := ⟨by decide +kernel, rfl⟩
theorem d4_20 : De jdk_42_method_149_code 20 (.getfield 15) 3 23 := ⟨by decide +kernel, rfl⟩
theorem d4_23 : De jdk_42_method_149_code 23 (.putfield 15) 3 26 := ⟨by decide +kernel, rfl⟩
theorem d4_26 : De jdk_42_method_149_code 26 (.return_) 1 27 := ⟨by decide +kernel, rfl⟩
theorem d4_27 : De jdk_42_method_149_code 27 (.getstatic 38) 3 30 := ⟨by decide +kernel, rfl⟩
theorem d4_30 : DeJ jdk_42_method_149_code 30 (.ifCond .eq) 33 58 := ⟨28, by decide +kernel, rfl, by decide, by decide⟩
theorem d4_33 : De jdk_42_method_149_code 33 (.aload_n 1) 1 34 := ⟨by decide +kernel, rfl⟩
theorem d4_34 : De jdk_42_method_149_code 34 (.iload_n 2) 1 35 := ⟨by decide +kernel, rfl⟩
theorem d4_35 : De jdk_42_method_149_code 35 (.iload_n 3) 1 36 := ⟨by decide +kernel, rfl⟩
theorem d4_36 : De jdk_42_method_149_code 36 (.invokestatic 177) 3 39 := ⟨by decide +kernel, rfl⟩
theorem d4_39 : De jdk_42_method_149_code 39 (.astore 5) 2 41 := ⟨by decide +kernel, rfl⟩
theorem d4_41 : De jdk_42_method_149_code 41 (.aload_n 0) 1 42 := ⟨by decide +kernel, rfl⟩
theorem d4_42 : De jdk_42_method_149_code 42 (.aload 5) 2 44 := ⟨by decide +kernel, rfl⟩
theorem d4_44 : De jdk_42_method_149_code 44 (.iload_n 3) 1 45 := ⟨by decide +kernel, rfl⟩
theorem d4_45 : De jdk_42_method_149_code 45 (.invokestatic 47) 3 48 := ⟨by decide +kernel, rfl⟩
theorem d4_48 : De jdk_42_method_149_code 48 (.putfield 15) 3 51 := ⟨by decide +kernel, rfl⟩
theorem d4_51 : De jdk_42_method_149_code 51 (.aload_n 0) 1 52 := ⟨by decide +kernel, rfl⟩
theorem d4_52 : De jdk_42_method_149_code 52 (.aload 5) 2 54 := ⟨by decide +kernel, rfl⟩
theorem d4_54 : De jdk_42_method_149_code 54 (.putfield 9) 3 57 := ⟨by decide +kernel, rfl⟩
theorem d4_57 : De jdk_42_method_149_code 57 (.return_) 1 58 := ⟨by decide +kernel, rfl⟩
theorem d6_0 : De prog_16_method_3_code 0 (.aload_n 0) 1 1 := ⟨by decide +kernel, rfl⟩
theorem d6_1 : De prog_16_method_3_code 1 (.bipush 46) 2 3 := ⟨by decide +kernel, rfl⟩
theorem d6_3 : De prog_16_method_3_code 3 (.invokevirtual 31) 3 6 := ⟨by decide +kernel, rfl⟩
theorem d6_6 : De prog_16_method_3_code 6 (.istore_n 1) 1 7 := ⟨by decide +kernel, rfl⟩
theorem d6_7 : De prog_16_method_3_code 7 (.iload_n 1) 1 8 := ⟨by decide +kernel, rfl⟩
theorem d6_8 : DeJ prog_16_method_3_code 8 (.ifCond .gt) 11 16 := ⟨8, by decide +kernel, rfl, by decide, by decide⟩
theorem d6_11 : De prog_16_method_3_code 11 (.ldc 35) 2 13 := ⟨by decide +kernel, rfl⟩
theorem d6_13 : DeJ prog_16_method_3_code 13 .goto 16 23 := ⟨10, by decide +kernel, rfl, by decide, by decide⟩
theorem d6_16 : De prog_16_method_3_code 16 (.aload_n 0) 1 17 := ⟨by decide +kernel, rfl⟩
theorem d6_17 : De prog_16_method_3_code 17 (.iload_n 1) 1 18 := ⟨by decide +kernel, rfl⟩
theorem d6_18 : De prog_16_method_3_code 18 (.iconst 1) 1 19 := ⟨by decide +kernel, rfl⟩
theorem d6_19 : De prog_16_method_3_code 19 (.iadd) 1 20 := ⟨by decide +kernel, rfl⟩
theorem d6_20 : De prog_16_method_3_code 20 (.invokevirtual 37) 3 23 := ⟨by decide +kernel, rfl⟩
theorem d6_23 : De prog_16_method_3_code 23 (.areturn) 1 24 := ⟨by decide +kernel, rfl⟩
theorem d7_0 : De jdk_42_method_82_code 0 (.aload_n 0) 1 1 := ⟨by decide +kernel, rfl⟩
theorem d7_1 : De jdk_42_method_82_code 1 (.iload_n 1) 1 2 := ⟨by decide +kernel, rfl⟩
theorem d7_2 : De jdk_42_method_82_code 2 (.aload_n 0) 1 3 := ⟨by decide +kernel, rfl⟩
theorem d7_3 : De jdk_42_method_82_code 3 (.invokevirtual 505) 3 6 := ⟨by decide +kernel, rfl⟩
theorem d7_6 : De jdk_42_method_82_code 6 (.iconst 1) 1 7 := ⟨by decide +kernel, rfl⟩
theorem d7_7 : De jdk_42_method_82_code 7 (.isub) 1 8 := ⟨by decide +kernel, rfl⟩
theorem d7_8 : De jdk_42_method_82_code 8 (.invokevirtual 641) 3 11 := ⟨by decide +kernel, rfl⟩
theorem d7_11 : De jdk_42_method_82_code 11 (.ireturn) 1 12 := ⟨by decide +kernel, rfl⟩
theorem d8_0 : De jdk_42_method_54_code 0 (.aload_n 0) 1 1 := ⟨by decide +kernel, rfl⟩
theorem d8_1 : De jdk_42_method_54_code 1 (.getfield 9) 3 4 := ⟨by decide +kernel, rfl⟩
theorem d8_4 : De jdk_42_method_54_code 4 (.arraylength) 1 5 := ⟨by decide +kernel, rfl⟩
theorem d8_5 : De jdk_42_method_54_code 5 (.aload_n 0) 1 6 := ⟨by decide +kernel, rfl⟩
theorem d8_6 : De jdk_42_method_54_code 6 (.invokevirtual 335) 3 9 := ⟨by decide +kernel, rfl⟩
theorem d8_9 : De jdk_42_method_54_code 9 (.ishr) 1 10 := ⟨by decide +kernel, rfl⟩
theorem d8_10 : De jdk_42_method_54_code 10 (.ireturn) 1 11 := ⟨by decide +kernel, rfl⟩
theorem d9_0 : De jdk_42_method_152_code 0 (.getstatic 38) 3 3 := ⟨by decide +kernel, rfl⟩
theorem d9_3 : DeJ jdk_42_method_152_code 3 (.ifCond .eq) 6 13 := ⟨10, by decide +kernel, rfl, by decide, by decide⟩
theorem d9_6 : De jdk_42_method_152_code 6 (.aload_n 0) 1 7 := ⟨by decide +kernel, rfl⟩
theorem d9_7 : De jdk_42_method_152_code 7 (.getfield 15) 3 10 := ⟨by decide +kernel, rfl⟩
theorem d9_10 : DeJ jdk_42_method_152_code 10 .goto 13 14 := ⟨4, by decide +kernel, rfl, by decide, by decide⟩
theorem d9_14 : De jdk_42_method_152_code 14 (.ireturn) 1 15 := ⟨by decide +kernel, rfl⟩
theorem d10_0 : De jdk_42_method_83_code 0 (.aload_n 0) 1 1 := ⟨by decide +kernel, rfl⟩
theorem d10_1 : De jdk_42_method_83_code 1 (.invokevirtual 492) 3 4 := ⟨by decide +kernel, rfl⟩
theorem d10_4 : DeJ jdk_42_method_83_code 4 (.ifCond .eq) 7 19 := ⟨15, by decide +kernel, rfl, by decide, by decide⟩
theorem d10_7 : De jdk_42_method_83_code 7 (.aload_n 0) 1 8 := ⟨by decide +kernel, rfl⟩
theorem d10_8 : De jdk_42_method_83_code 8 (.getfield 9) 3 11 := ⟨by decide +kernel, rfl⟩
theorem d10_11 : De jdk_42_method_83_code 11 (.iload_n 1) 1 12 := ⟨by decide +kernel, rfl⟩
theorem d10_12 : De jdk_42_method_83_code 12 (.iload_n 2) 1 13 := ⟨by decide +kernel, rfl⟩
theorem d10_13 : De jdk_42_method_83_code 13 (.invokestatic 644) 3 16 := ⟨by decide +kernel, rfl⟩
theorem d10_16 : DeJ jdk_42_method_83_code 16 .goto 19 28 := ⟨12, by decide +kernel, rfl, by decide, by decide⟩
theorem d10_28 : De jdk_42_method_83_code 28 (.ireturn) 1 29 := ⟨by decide +kernel, rfl⟩
theorem d11_0 : De jdk_42_method_154_code 0 (.getstatic 38) 3 3 := ⟨by decide +kernel, rfl⟩
theorem d11_3 : DeJ jdk_42_method_154_code 3 (.ifCond .eq) 6 17 := ⟨14, by decide +kernel, rfl, by decide, by decide⟩
theorem d11_6 : De jdk_42_method_154_code 6 (.aload_n 0) 1 7 := ⟨by decide +kernel, rfl⟩
theorem d11_7 : De jdk_42_method_154_code 7 (.getfield 15) 3 10 := ⟨by decide +kernel, rfl⟩
theorem d11_10 : DeJ jdk_42_method_154_code 10 (.ifCond .ne) 13 17 := ⟨7, by decide +kernel, rfl, by decide, by decide⟩
theorem d11_13 : De jdk_42_method_154_code 13 (.iconst 1) 1 14 := ⟨by decide +kernel, rfl⟩
theorem d11_14 : DeJ jdk_42_method_154_code 14 .goto 17 18 := ⟨4, by decide +kernel, rfl, by decide, by decide⟩
theorem d11_18 : De jdk_42_method_154_code 18 (.ireturn) 1 19 := ⟨by decide +kernel, rfl⟩
theorem d12_0 : De jdk_43_method_27_code 0 (.iload_n 1) 1 1 := ⟨by decide +kernel, rfl⟩
theorem d12_1 : De jdk_43_method_27_code 1 (.invokestatic 88) 3 4 := ⟨by decide +kernel, rfl⟩
theorem d12_4 : DeJ jdk_43_method_27_code 4 (.ifCond .ne) 7 9 := ⟨5, by decide +kernel, rfl, by decide, by decide⟩
theorem d12_9 : De jdk_43_method_27_code 9 (.iload_n 2) 1 10 := ⟨by decide +kernel, rfl⟩
theorem d12_10 : De jdk_43_method_27_code 10 (.aload_n 0) 1 11 := ⟨by decide +kernel, rfl⟩
theorem d12_11 : De jdk_43_method_27_code 11 (.arraylength) 1 12 := ⟨by decide +kernel, rfl⟩
theorem d12_12 : De jdk_43_method_27_code 12 (.iconst 1) 1 13 := ⟨by decide +kernel, rfl⟩
theorem d12_13 : De jdk_43_method_27_code 13 (.isub) 1 14 := ⟨by decide +kernel, rfl⟩
theorem d12_14 : De jdk_43_method_27_code 14 (.invokestatic 38) 3 17 := ⟨by decide +kernel, rfl⟩
theorem d12_17 : De jdk_43_method_27_code 17 (.istore_n 3) 1 18 := ⟨by decide +kernel, rfl⟩
theorem d12_18 : De jdk_43_method_27_code 18 (.iload_n 3) 1 19 := ⟨by decide +kernel, rfl⟩
theorem d12_19 : DeJ jdk_43_method_27_code 19 (.ifCond .lt) 22 38 := ⟨19, by decide +kernel, rfl, by decide, by decide⟩
theorem d12_22 : De jdk_43_method_27_code 22 (.aload_n 0) 1 23 := ⟨by decide +kernel, rfl⟩
theorem d12_23 : De jdk_43_method_27_code 23 (.iload_n 3) 1 24 := ⟨by decide +kernel, rfl⟩
theorem d12_24 : De jdk_43_method_27_code 24 (.baload) 1 25 := ⟨by decide +kernel, rfl⟩
theorem d12_25 : De jdk_43_method_27_code 25 (.iload_n 1) 1 26 := ⟨by decide +kernel, rfl⟩
theorem d12_26 : De jdk_43_method_27_code 26 (.i2b) 1 27 := ⟨by decide +kernel, rfl⟩
theorem d12_27 : DeJ jdk_43_method_27_code 27 (.if_icmp .ne) 30 32 := ⟨5, by decide +kernel, rfl, by decide, by decide⟩
theorem d12_30 : De jdk_43_method_27_code 30 (.iload_n 3) 1 31 := ⟨by decide +kernel, rfl⟩
theorem d12_31 : De jdk_43_method_27_code 31 (.ireturn) 1 32 := ⟨by decide +kernel, rfl⟩
theorem d12_32 : De jdk_43_method_27_code 32 (.iinc 3 (-1)) 3 35 := ⟨by decide +kernel, rfl⟩
theorem d12_35 : DeJ jdk_43_method_27_code 35 .goto 38 18 := ⟨(-17), by decide +kernel, rfl, by decide, by decide⟩
theorem d12_38 : De jdk_43_method_27_code 38 (.iconst (-1)) 1 39 := ⟨by decide +kernel, rfl⟩
theorem d12_39 : De jdk_43_method_27_code 39 (.ireturn) 1 40 := ⟨by decide +kernel, rfl⟩
theorem d13_0 : De jdk_43_method_4_code 0 (.iload_n 0) 1 1 := ⟨by decide +kernel, rfl⟩
theorem d13_1 : DeJ jdk_43_method_4_code 1 (.ifCond .lt) 4 15 := ⟨14, by decide +kernel, rfl, by decide, by decide⟩
theorem d13_4 : De jdk_43_method_4_code 4 (.iload_n 0) 1 5 := ⟨by decide +kernel, rfl⟩
theorem d13_5 : De jdk_43_method_4_code 5 (.sipush 255) 3 8 := ⟨by decide +kernel, rfl⟩
theorem d13_8 : DeJ jdk_43_method_4_code 8 (.if_icmp .gt) 11 15 := ⟨7, by decide +kernel, rfl, by decide, by decide⟩
theorem d13_11 : De jdk_43_method_4_code 11 (.iconst 1) 1 12 := ⟨by decide +kernel, rfl⟩
theorem d13_12 : DeJ jdk_43_method_4_code 12 .goto 15 16 := ⟨4, by decide +kernel, rfl, by decide, by decide⟩
theorem d13_16 : De jdk_43_method_4_code 16 (.ireturn) 1 17 := ⟨by decide +kernel, rfl⟩
theorem d14_0 : De jdk_29_method_69_code 0 (.iload_n 0) 1 1 := ⟨by decide +kernel, rfl⟩
theorem d14_1 : De jdk_29_method_69_code 1 (.iload_n 1) 1 2 := ⟨by decide +kernel, rfl⟩
theorem d14_2 : DeJ jdk_29_method_69_code 2 (.if_icmp .gt) 5 9 := ⟨7, by decide +kernel, rfl, by decide, by decide⟩
theorem d14_5 : De jdk_29_method_69_code 5 (.iload_n 0) 1 6 := ⟨by decide +kernel, rfl⟩
theorem d14_6 : DeJ jdk_29_method_69_code 6 .goto 9 10 := ⟨4, by decide +kernel, rfl, by decide, by decide⟩
theorem d14_9 : De jdk_29_method_69_code 9 (.iload_n 1) 1 10 := ⟨by decide +kernel, rfl⟩
theorem d14_10 : De jdk_29_method_69_code 10 (.ireturn) 1 11 := ⟨by decide +kernel, rfl⟩
theorem d15_0 : De method_5_code 0 (.iload_n 3) 1 1 := ⟨by decide +kernel, rfl⟩
theorem d15_1 : De method_5_code 1 (.iload 4) 2 3 := ⟨by decide +kernel, rfl⟩
theorem d15_3 : DeJ method_5_code 3 (.if_icmp .ge) 6 21 := ⟨18, by decide +kernel, rfl, by decide, by decide⟩
theorem d15_6 : De method_5_code 6 (.aload_n 0) 1 7 := ⟨by decide +kernel, rfl⟩
theorem d15_7 : De method_5_code 7 (.iload_n 3) 1 8 := ⟨by decide +kernel, rfl⟩
theorem d15_8 : De method_5_code 8 (.invokevirtual 37) 3 11 := ⟨by decide +kernel, rfl⟩
theorem d15_11 : De method_5_code 11 (.aload_n 1) 1 12 := ⟨by decide +kernel, rfl⟩
theorem d15_12 : De method_5_code 12 (.iload_n 2) 1 13 := ⟨by decide +kernel, rfl⟩
theorem d15_13 : De method_5_code 13 (.iconst 1) 1 14 := ⟨by decide +kernel, rfl⟩
theorem d15_14 : De method_5_code 14 (.iadd) 1 15 := ⟨by decide +kernel, rfl⟩
theorem d15_15 : De method_5_code 15 (.iload_n 3) 1 16 := ⟨by decide +kernel, rfl⟩
theorem d15_16 : De method_5_code 16 (.iadd) 1 17 := ⟨by decide +kernel, rfl⟩
theorem d15_17 : De method_5_code 17 (.caload) 1 18 := ⟨by decide +kernel, rfl⟩
theorem d15_18 : DeJ method_5_code 18 (.if_icmp .ne) 21 25 := ⟨7, by decide +kernel, rfl, by decide, by decide⟩
theorem d15_21 : De method_5_code 21 (.iconst 1) 1 22 := ⟨by decide +kernel, rfl⟩
theorem d15_22 : DeJ method_5_code 22 .goto 25 26 := ⟨4, by decide +kernel, rfl, by decide, by decide⟩
theorem d15_26 : De method_5_code 26 (.ireturn) 1 27 := ⟨by decide +kernel, rfl⟩
theorem d16_0 : De jdk_52_method_16_code 0 (.iload_n 2) 1 1 := ⟨by decide +kernel, rfl⟩
theorem d16_1 : De jdk_52_method_16_code 1 (.newarray .byte) 2 3 := ⟨by decide +kernel, rfl⟩
theorem d16_3 : De jdk_52_method_16_code 3 (.astore_n 3) 1 4 := ⟨by decide +kernel, rfl⟩
theorem d16_4 : De jdk_52_method_16_code 4 (.aload_n 0) 1 5 := ⟨by decide +kernel, rfl⟩
theorem d16_5 : De jdk_52_method_16_code 5 (.iload_n 1) 1 6 := ⟨by decide +kernel, rfl⟩
theorem d16_6 : De jdk_52_method_16_code 6 (.aload_n 3) 1 7 := ⟨by decide +kernel, rfl⟩
theorem d16_7 : De jdk_52_method_16_code 7 (.iconst 0) 1 8 := ⟨by decide +kernel, rfl⟩
theorem d16_8 : De jdk_52_method_16_code 8 (.iload_n 2) 1 9 := ⟨by decide +kernel, rfl⟩
theorem d16_9 : De jdk_52_method_16_code 9 (.invokestatic 115) 3 12 := ⟨by decide +kernel, rfl⟩
theorem d16_12 : De jdk_52_method_16_code 12 (.istore 4) 2 14 := ⟨by decide +kernel, rfl⟩
theorem d16_14 : De jdk_52_method_16_code 14 (.iload 4) 2 16 := ⟨by decide +kernel, rfl⟩
theorem d16_16 : De jdk_52_method_16_code 16 (.iload_n 2) 1 17 := ⟨by decide +kernel, rfl⟩
theorem d16_17 : DeJ jdk_52_method_16_code 17 (.if_icmp .eq) 20 57 := ⟨40, by decide +kernel, rfl, by decide, by decide⟩
theorem d16_57 : De jdk_52_method_16_code 57 (.aload_n 3) 1 58 := ⟨by decide +kernel, rfl⟩
theorem d16_58 : De jdk_52_method_16_code 58 (.areturn) 1 59 := ⟨by decide +kernel, rfl⟩
theorem d17_0 : De jdk_52_method_21_code 0 (.iconst 0) 1 1 := ⟨by decide +kernel, rfl⟩
theorem d17_1 : De jdk_52_method_21_code 1 (.istore 5) 2 3 := ⟨by decide +kernel, rfl⟩
theorem d17_3 : De jdk_52_method_21_code 3 (.iload 5) 2 5 := ⟨by decide +kernel, rfl⟩
theorem d17_5 : De jdk_52_method_21_code 5 (.iload 4) 2 7 := ⟨by decide +kernel, rfl⟩
theorem d17_7 : DeJ jdk_52_method_21_code 7 (.if_icmp .ge) 10 44 := ⟨37, by decide +kernel, rfl, by decide, by decide⟩
theorem d17_10 : De jdk_52_method_21_code 10 (.aload_n 0) 1 11 := ⟨by decide +kernel, rfl⟩
theorem d17_11 : De jdk_52_method_21_code 11 (.iload_n 1) 1 12 := ⟨by decide +kernel, rfl⟩
theorem d17_12 : De jdk_52_method_21_code 12 (.caload) 1 13 := ⟨by decide +kernel, rfl⟩
theorem d17_13 : De jdk_52_method_21_code 13 (.istore 6) 2 15 := ⟨by decide +kernel, rfl⟩
theorem d17_15 : De jdk_52_method_21_code 15 (.iload 6) 2 17 := ⟨by decide +kernel, rfl⟩
theorem d17_17 : De jdk_52_method_21_code 17 (.sipush 255) 3 20 := ⟨by decide +kernel, rfl⟩
theorem d17_20 : DeJ jdk_52_method_21_code 20 (.if_icmp .le) 23 26 := ⟨6, by decide +kernel, rfl, by decide, by decide⟩
theorem d17_26 : De jdk_52_method_21_code 26 (.aload_n 2) 1 27 := ⟨by decide +kernel, rfl⟩
theorem d17_27 : De jdk_52_method_21_code 27 (.iload_n 3) 1 28 := ⟨by decide +kernel, rfl⟩
theorem d17_28 : De jdk_52_method_21_code 28 (.iload 6) 2 30 := ⟨by decide +kernel, rfl⟩
theorem d17_30 : De jdk_52_method_21_code 30 (.i2b) 1 31 := ⟨by decide +kernel, rfl⟩
theorem d17_31 : De jdk_52_method_21_code 31 (.bastore) 1 32 := ⟨by decide +kernel, rfl⟩
theorem d17_32 : De jdk_52_method_21_code 32 (.iinc 1 1) 3 35 := ⟨by decide +kernel, rfl⟩
theorem d17_35 : De jdk_52_method_21_code 35 (.iinc 3 1) 3 38 := ⟨by decide +kernel, rfl⟩
theorem d17_38 : De jdk_52_method_21_code 38 (.iinc 5 1) 3 41 := ⟨by decide +kernel, rfl⟩
theorem d17_41 : DeJ jdk_52_method_21_code 41 .goto 44 3 := ⟨(-38), by decide +kernel, rfl, by decide, by decide⟩
theorem d17_44 : De jdk_52_method_21_code 44 (.iload 4) 2 46 := ⟨by decide +kernel, rfl⟩
theorem d17_46 : De jdk_52_method_21_code 46 (.ireturn) 1 47 := ⟨by decide +kernel, rfl⟩
theorem d18_0 : De jdk_52_method_15_code 0 (.iload_n 1) 1 1 := ⟨by decide +kernel, rfl⟩
theorem d18_1 : De jdk_52_method_15_code 1 (.aload_n 0) 1 2 := ⟨by decide +kernel, rfl⟩
theorem d18_2 : De jdk_52_method_15_code 2 (.arraylength) 1 3 := ⟨by decide +kernel, rfl⟩
theorem d18_3 : De jdk_52_method_15_code 3 (.isub) 1 4 := ⟨by decide +kernel, rfl⟩
theorem d18_4 : De jdk_52_method_15_code 4 (.bipush 31) 2 6 := ⟨by decide +kernel, rfl⟩
theorem d18_6 : De jdk_52_method_15_code 6 (.iushr) 1 7 := ⟨by decide +kernel, rfl⟩
theorem d18_7 : De jdk_52_method_15_code 7 (.i2b) 1 8 := ⟨by decide +kernel, rfl⟩
theorem d18_8 : De jdk_52_method_15_code 8 (.ireturn) 1 9 := ⟨by decide +kernel, rfl⟩
theorem d19_0 : De jdk_42_method_91_code 0 (.aload_n 0) 1 1 := ⟨by decide +kernel, rfl⟩
theorem d19_1 : De jdk_42_method_91_code 1 (.iload_n 1) 1 2 := ⟨by decide +kernel, rfl⟩
theorem d19_2 : De jdk_42_method_91_code 2 (.aload_n 0) 1 3 := ⟨by decide +kernel, rfl⟩
theorem d19_3 : De jdk_42_method_91_code 3 (.invokevirtual 505) 3 6 := ⟨by decide +kernel, rfl⟩
theorem d19_6 : De jdk_42_method_91_code 6 (.invokevirtual 681) 3 9 := ⟨by decide +kernel, rfl⟩
theorem d19_9 : De jdk_42_method_91_code 9 (.areturn) 1 10 := ⟨by decide +kernel, rfl⟩
theorem d20_0 : De jdk_42_method_92_code 0 (.aload_n 0) 1 1 := ⟨by decide +kernel, rfl⟩
theorem d20_1 : De jdk_42_method_92_code 1 (.invokevirtual 505) 3 4 := ⟨by decide +kernel, rfl⟩
theorem d20_4 : De jdk_42_method_92_code 4 (.istore_n 3) 1 5 := ⟨by decide +kernel, rfl⟩
theorem d20_5 : De jdk_42_method_92_code 5 (.iload_n 1) 1 6 := ⟨by decide +kernel, rfl⟩
theorem d20_6 : De jdk_42_method_92_code 6 (.iload_n 2) 1 7 := ⟨by decide +kernel, rfl⟩
theorem d20_7 : De jdk_42_method_92_code 7 (.iload_n 3) 1 8 := ⟨by decide +kernel, rfl⟩
theorem d20_8 : De jdk_42_method_92_code 8 (.invokestatic 521) 3 11 := ⟨by decide +kernel, rfl⟩
theorem d20_11 : De jdk_42_method_92_code 11 (.iload_n 1) 1 12 := ⟨by decide +kernel, rfl⟩
theorem d20_12 : DeJ jdk_42_method_92_code 12 (.ifCond .ne) 15 22 := ⟨10, by decide +kernel, rfl, by decide, by decide⟩
theorem d20_22 : De jdk_42_method_92_code 22 (.iload_n 2) 1 23 := ⟨by decide +kernel, rfl⟩
theorem d20_23 : De jdk_42_method_92_code 23 (.iload_n 1) 1 24 := ⟨by decide +kernel, rfl⟩
theorem d20_24 : De jdk_42_method_92_code 24 (.isub) 1 25 := ⟨by decide +kernel, rfl⟩
theorem d20_25 : De jdk_42_method_92_code 25 (.istore 4) 2 27 := ⟨by decide +kernel, rfl⟩
theorem d20_27 : De jdk_42_method_92_code 27 (.aload_n 0) 1 28 := ⟨by decide +kernel, rfl⟩
theorem d20_28 : De jdk_42_method_92_code 28 (.invokevirtual 492) 3 31 := ⟨by decide +kernel, rfl⟩
theorem d20_31 : DeJ jdk_42_method_92_code 31 (.ifCond .eq) 34 47 := ⟨16, by decide +kernel, rfl, by decide, by decide⟩
theorem d20_34 : De jdk_42_method_92_code 34 (.aload_n 0) 1 35 := ⟨by decide +kernel, rfl⟩
theorem d20_35 : De jdk_42_method_92_code 35 (.getfield 9) 3 38 := ⟨by decide +kernel, rfl⟩
theorem d20_38 : De jdk_42_method_92_code 38 (.iload_n 1) 1 39 := ⟨by decide +kernel, rfl⟩
theorem d20_39 : De jdk_42_method_92_code 39 (.iload 4) 2 41 := ⟨by decide +kernel, rfl⟩
theorem d20_41 : De jdk_42_method_92_code 41 (.invokestatic 685) 3 44 := ⟨by decide +kernel, rfl⟩
theorem d20_44 : DeJ jdk_42_method_92_code 44 .goto 47 57 := ⟨13, by decide +kernel, rfl, by decide, by decide⟩
theorem d20_57 : De jdk_42_method_92_code 57 (.areturn) 1 58 := ⟨by decide +kernel, rfl⟩
theorem d21_0 : De jdk_42_method_158_code 0 (.iload_n 0) 1 1 := ⟨by decide +kernel, rfl⟩
theorem d21_1 : De jdk_42_method_158_code 1 (.iload_n 1) 1 2 := ⟨by decide +kernel, rfl⟩
theorem d21_2 : De jdk_42_method_158_code 2 (.iload_n 2) 1 3 := ⟨by decide +kernel, rfl⟩
theorem d21_3 : De jdk_42_method_158_code 3 (.getstatic 1053) 3 6 := ⟨by decide +kernel, rfl⟩
theorem d21_6 : De jdk_42_method_158_code 6 (.invokestatic 1062) 3 9 := ⟨by decide +kernel, rfl⟩
theorem d21_9 : De jdk_42_method_158_code 9 (.pop) 1 10 := ⟨by decide +kernel, rfl⟩
theorem d21_10 : De jdk_42_method_158_code 10 (.return_) 1 11 := ⟨by decide +kernel, rfl⟩
theorem d22_0 : De jdk_41_method_12_code 0 (.iload_n 0) 1 1 := ⟨by decide +kernel, rfl⟩
theorem d22_1 : DeJ jdk_41_method_12_code 1 (.ifCond .lt) 4 14 := ⟨13, by decide +kernel, rfl, by decide, by decide⟩
theorem d22_4 : De jdk_41_method_12_code 4 (.iload_n 0) 1 5 := ⟨by decide +kernel, rfl⟩
theorem d22_5 : De jdk_41_method_12_code 5 (.iload_n 1) 1 6 := ⟨by decide +kernel, rfl⟩
theorem d22_6 : DeJ jdk_41_method_12_code 6 (.if_icmp .gt) 9 14 := ⟨8, by decide +kernel, rfl, by decide, by decide⟩
theorem d22_9 : De jdk_41_method_12_code 9 (.iload_n 1) 1 10 := ⟨by decide +kernel, rfl⟩
theorem d22_10 : De jdk_41_method_12_code 10 (.iload_n 2) 1 11 := ⟨by decide +kernel, rfl⟩
theorem d22_11 : DeJ jdk_41_method_12_code 11 (.if_icmp .le) 14 22 := ⟨11, by decide +kernel, rfl, by decide, by decide⟩
theorem d22_22 : De jdk_41_method_12_code 22 (.iload_n 0) 1 23 := ⟨by decide +kernel, rfl⟩
theorem d22_23 : De jdk_41_method_12_code 23 (.ireturn) 1 24 := ⟨by decide +kernel, rfl⟩
theorem d23_0 : De jdk_43_method_47_code 0 (.iload_n 2) 1 1 := ⟨by decide +kernel, rfl⟩
theorem d23_1 : DeJ jdk_43_method_47_code 1 (.ifCond .ne) 4 7 := ⟨6, by decide +kernel, rfl, by decide, by decide⟩
theorem d23_4 : De jdk_43_method_47_code 4 (.ldc 151) 2 6 := ⟨by decide +kernel, rfl⟩
theorem d23_6 : De jdk_43_method_47_code 6 (.areturn) 1 7 := ⟨by decide +kernel, rfl⟩
theorem d23_7 : De jdk_43_method_47_code 7 (.new 1) 3 10 := ⟨by decide +kernel, rfl⟩
theorem d23_10 : De jdk_43_method_47_code 10 (.dup) 1 11 := ⟨by decide +kernel, rfl⟩
theorem d23_11 : De jdk_43_method_47_code 11 (.aload_n 0) 1 12 := ⟨by decide +kernel, rfl⟩
theorem d23_12 : De jdk_43_method_47_code 12 (.iload_n 1) 1 13 := ⟨by decide +kernel, rfl⟩
theorem d23_13 : De jdk_43_method_47_code 13 (.iload_n 1) 1 14 := ⟨by decide +kernel, rfl⟩
theorem d23_14 : De jdk_43_method_47_code 14 (.iload_n 2) 1 15 := ⟨by decide +kernel, rfl⟩
theorem d23_15 : De jdk_43_method_47_code 15 (.iadd) 1 16 := ⟨by decide +kernel, rfl⟩
theorem d23_16 : De jdk_43_method_47_code 16 (.invokestatic 232) 3 19 := ⟨by decide +kernel, rfl⟩
theorem d23_19 : De jdk_43_method_47_code 19 (.iconst 0) 1 20 := ⟨by decide +kernel, rfl⟩
theorem d23_20 : De jdk_43_method_47_code 20 (.invokespecial 112) 3 23 := ⟨by decide +kernel, rfl⟩
theorem d23_23 : De jdk_43_method_47_code 23 (.areturn) 1 24 := ⟨by decide +kernel, rfl⟩
theorem d24_0 : De jdk_65_method_132_code 0 (.iload_n 1) 1 1 := ⟨by decide +kernel, rfl⟩
theorem d24_1 : DeJ jdk_65_method_132_code 1 (.ifCond .ne) 4 10 := ⟨9, by decide +kernel, rfl, by decide, by decide⟩
theorem d24_10 : De jdk_65_method_132_code 10 (.aload_n 0) 1 11 := ⟨by decide +kernel, rfl⟩
theorem d24_11 : De jdk_65_method_132_code 11 (.iload_n 1) 1 12 := ⟨by decide +kernel, rfl⟩
theorem d24_12 : De jdk_65_method_132_code 12 (.iload_n 2) 1 13 := ⟨by decide +kernel, rfl⟩
theorem d24_13 : De jdk_65_method_132_code 13 (.invokestatic 339) 3 16 := ⟨by decide +kernel, rfl⟩
theorem d24_16 : De jdk_65_method_132_code 16 (.areturn) 1 17 := ⟨by decide +kernel, rfl⟩
theorem d25_0 : De jdk_65_method_133_code 0 (.iload_n 1) 1 1 := ⟨by decide +kernel, rfl⟩
theorem d25_1 : De jdk_65_method_133_code 1 (.iload_n 2) 1 2 := ⟨by decide +kernel, rfl⟩
theorem d25_2 : De jdk_65_method_133_code 2 (.invokestatic 343) 3 5 := ⟨by decide +kernel, rfl⟩
theorem d25_5 : De jdk_65_method_133_code 5 (.iload_n 2) 1 6 := ⟨by decide +kernel, rfl⟩
theorem d25_6 : De jdk_65_method_133_code 6 (.iload_n 1) 1 7 := ⟨by decide +kernel, rfl⟩
theorem d25_7 : De jdk_65_method_133_code 7 (.isub) 1 8 := ⟨by decide +kernel, rfl⟩
theorem d25_8 : De jdk_65_method_133_code 8 (.istore_n 3) 1 9 := ⟨by decide +kernel, rfl⟩
theorem d25_9 : De jdk_65_method_133_code 9 (.iload_n 3) 1 10 := ⟨by decide +kernel, rfl⟩
theorem d25_10 : De jdk_65_method_133_code 10 (.newarray .byte) 2 12 := ⟨by decide +kernel, rfl⟩
theorem d25_12 : De jdk_65_method_133_code 12 (.astore 4) 2 14 := ⟨by decide +kernel, rfl⟩
theorem d25_14 : De jdk_65_method_133_code 14 (.aload_n 0) 1 15 := ⟨by decide +kernel, rfl⟩
theorem d25_15 : De jdk_65_method_133_code 15 (.iload_n 1) 1 16 := ⟨by decide +kernel, rfl⟩
theorem d25_16 : De jdk_65_method_133_code 16 (.aload 4) 2 18 := ⟨by decide +kernel, rfl⟩
theorem d25_18 : De jdk_65_method_133_code 18 (.iconst 0) 1 19 := ⟨by decide +kernel, rfl⟩
theorem d25_19 : De jdk_65_method_133_code 19 (.aload_n 0) 1 20 := ⟨by decide +kernel, rfl⟩
theorem d25_20 : De jdk_65_method_133_code 20 (.arraylength) 1 21 := ⟨by decide +kernel, rfl⟩
theorem d25_21 : De jdk_65_method_133_code 21 (.iload_n 1) 1 22 := ⟨by decide +kernel, rfl⟩
theorem d25_22 : De jdk_65_method_133_code 22 (.isub) 1 23 := ⟨by decide +kernel, rfl⟩
theorem d25_23 : De jdk_65_method_133_code 23 (.iload_n 3) 1 24 := ⟨by decide +kernel, rfl⟩
theorem d25_24 : De jdk_65_method_133_code 24 (.invokestatic 304) 3 27 := ⟨by decide +kernel, rfl⟩
theorem d25_27 : De jdk_65_method_133_code 27 (.invokestatic 150) 3 30 := ⟨by decide +kernel, rfl⟩
theorem d25_30 : De jdk_65_method_133_code 30 (.aload 4) 2 32 := ⟨by decide +kernel, rfl⟩
theorem d25_32 : De jdk_65_method_133_code 32 (.areturn) 1 33 := ⟨by decide +kernel, rfl⟩
theorem d26_0 : De jdk_65_method_131_code 0 (.iload_n 1) 1 1 := ⟨by decide +kernel, rfl⟩
theorem d26_1 : De jdk_65_method_131_code 1 (.iload_n 0) 1 2 := ⟨by decide +kernel, rfl⟩
theorem d26_2 : DeJ jdk_65_method_131_code 2 (.if_icmp .ge) 5 37 := ⟨35, by decide +kernel, rfl, by decide, by decide⟩
theorem d26_37 : De jdk_65_method_131_code 37 (.return_) 1 38 := ⟨by decide +kernel, rfl⟩
theorem d27_0 : De jdk_42_method_151_code 0 (.aload_n 0) 1 1 := ⟨by decide +kernel, rfl⟩
theorem d27_1 : De jdk_42_method_151_code 1 (.invokespecial 1) 3 4 := ⟨by decide +kernel, rfl⟩
theorem d27_4 : De jdk_42_method_151_code 4 (.aload_n 0) 1 5 := ⟨by decide +kernel, rfl⟩
theorem d27_5 : De jdk_42_method_151_code 5 (.aload_n 1) 1 6 := ⟨by decide +kernel, rfl⟩
theorem d27_6 : De jdk_42_method_151_code 6 (.putfield 9) 3 9 := ⟨by decide +kernel, rfl⟩
theorem d27_9 : De jdk_42_method_151_code 9 (.aload_n 0) 1 10 := ⟨by decide +kernel, rfl⟩
theorem d27_10 : De jdk_42_method_151_code 10 (.iload_n 2) 1 11 := ⟨by decide +kernel, rfl⟩
theorem d27_11 : De jdk_42_method_151_code 11 (.putfield 15) 3 14 := ⟨by decide +kernel, rfl⟩
theorem d27_14 : De jdk_42_method_151_code 14 (.return_) 1 15 := ⟨by decide +kernel, rfl⟩
theorem d28_0 : De jdk_42_method_56_code 0 (.aload_n 0) 1 1 := ⟨by decide +kernel, rfl⟩
theorem d28_1 : De jdk_42_method_56_code 1 (.invokevirtual 492) 3 4 := ⟨by decide +kernel, rfl⟩
theorem d28_4 : DeJ jdk_42_method_56_code 4 (.ifCond .eq) 7 16 := ⟨12, by decide +kernel, rfl, by decide, by decide⟩
theorem d28_7 : De jdk_42_method_56_code 7 (.aload_n 0) 1 8 := ⟨by decide +kernel, rfl⟩
theorem d28_8 : De jdk_42_method_56_code 8 (.getfield 9) 3 11 := ⟨by decide +kernel, rfl⟩
theorem d28_11 : De jdk_42_method_56_code 11 (.iload_n 1) 1 12 := ⟨by decide +kernel, rfl⟩
theorem d28_12 : De jdk_42_method_56_code 12 (.invokestatic 495) 3 15 := ⟨by decide +kernel, rfl⟩
theorem d28_15 : De jdk_42_method_56_code 15 (.ireturn) 1 16 := ⟨by decide +kernel, rfl⟩
theorem d29_0 : De jdk_43_method_2_code 0 (.iload_n 1) 1 1 := ⟨by decide +kernel, rfl⟩
theorem d29_1 : De jdk_43_method_2_code 1 (.aload_n 0) 1 2 := ⟨by decide +kernel, rfl⟩
theorem d29_2 : De jdk_43_method_2_code 2 (.arraylength) 1 3 := ⟨by decide +kernel, rfl⟩
theorem d29_3 : De jdk_43_method_2_code 3 (.invokestatic 9) 3 6 := ⟨by decide +kernel, rfl⟩
theorem d29_6 : De jdk_43_method_2_code 6 (.aload_n 0) 1 7 := ⟨by decide +kernel, rfl⟩
theorem d29_7 : De jdk_43_method_2_code 7 (.iload_n 1) 1 8 := ⟨by decide +kernel, rfl⟩
theorem d29_8 : De jdk_43_method_2_code 8 (.baload) 1 9 := ⟨by decide +kernel, rfl⟩
theorem d29_9 : De jdk_43_method_2_code 9 (.sipush 255) 3 12 := ⟨by decide +kernel, rfl⟩
theorem d29_12 : De jdk_43_method_2_code 12 (.iand) 1 13 := ⟨by decide +kernel, rfl⟩
theorem d29_13 : De jdk_43_method_2_code 13 (.i2c) 1 14 := ⟨by decide +kernel, rfl⟩
theorem d29_14 : De jdk_43_method_2_code 14 (.ireturn) 1 15 := ⟨by decide +kernel, rfl⟩
theorem d30_0 : De jdk_42_method_155_code 0 (.iload_n 0) 1 1 := ⟨by decide +kernel, rfl⟩
theorem d30_1 : De jdk_42_method_155_code 1 (.iload_n 1) 1 2 := ⟨by decide +kernel, rfl⟩
theorem d30_2 : De jdk_42_method_155_code 2 (.getstatic 1053) 3 5 := ⟨by decide +kernel, rfl⟩
theorem d30_5 : De jdk_42_method_155_code 5 (.invokestatic 1059) 3 8 := ⟨by decide +kernel, rfl⟩
theorem d30_8 : De jdk_42_method_155_code 8 (.pop) 1 9 := ⟨by decide +kernel, rfl⟩
theorem d30_9 : De jdk_42_method_155_code 9 (.return_) 1 10 := ⟨by decide +kernel, rfl⟩
theorem d31_0 : De jdk_41_method_11_code 0 (.iload_n 0) 1 1 := ⟨by decide +kernel, rfl⟩
theorem d31_1 : DeJ jdk_41_method_11_code 1 (.ifCond .lt) 4 9 := ⟨8, by decide +kernel, rfl, by decide, by decide⟩
theorem d31_4 : De jdk_41_method_11_code 4 (.iload_n 0) 1 5 := ⟨by decide +kernel, rfl⟩
theorem d31_5 : De jdk_41_method_11_code 5 (.iload_n 1) 1 6 := ⟨by decide +kernel, rfl⟩
theorem d31_6 : DeJ jdk_41_method_11_code 6 (.if_icmp .lt) 9 16 := ⟨10, by decide +kernel, rfl, by decide, by decide⟩
theorem d31_16 : De jdk_41_method_11_code 16 (.iload_n 0) 1 17 := ⟨by decide +kernel, rfl⟩
theorem d31_17 : De jdk_41_method_11_code 17 (.ireturn) 1 18 := ⟨by decide +kernel, rfl⟩
theorem pd_0 : parseMethodDescriptor "([CI[BII)I" = some ⟨[(.array .char), .int, (.array .byte), .int, .int], some .int⟩ := by decide +kernel
theorem pd_1 : parseMethodDescriptor "([CII)[B" = some ⟨[(.array .char), .int, .int], some (.array .byte)⟩ := by decide +kernel
theorem pd_2 : parseMethodDescriptor "([BI)B" = some ⟨[(.array .byte), .int], some .byte⟩ := by decide +kernel
theorem pd_3 : parseMethodDescriptor "([CIILjava/lang/Void;)V" = some ⟨[(.array .char), .int, .int, (.object "java/lang/Void")], none⟩ := by decide +kernel
theorem pd_4 : parseMethodDescriptor "(IILjava/util/function/BiFunction;)I" = some ⟨[.int, .int, (.object "java/util/function/BiFunction")], some .int⟩ := by decide +kernel
theorem pd_5 : parseMethodDescriptor "(II)V" = some ⟨[.int, .int], none⟩ := by decide +kernel
theorem pd_6 : parseMethodDescriptor "()Z" = some ⟨[], some .boolean⟩ := by decide +kernel
theorem pd_7 : parseMethodDescriptor "([BI)C" = some ⟨[(.array .byte), .int], some .char⟩ := by decide +kernel
theorem pd_8 : parseMethodDescriptor "()B" = some ⟨[], some .byte⟩ := by decide +kernel
theorem pd_9 : parseMethodDescriptor "([C)V" = some ⟨[(.array .char)], none⟩ := by decide +kernel
theorem pd_10 : parseMethodDescriptor "(I)Z" = some ⟨[.int], some .boolean⟩ := by decide +kernel
theorem pd_11 : parseMethodDescriptor "(II)I" = some ⟨[.int, .int], some .int⟩ := by decide +kernel
theorem pd_12 : parseMethodDescriptor "([BII)I" = some ⟨[(.array .byte), .int, .int], some .int⟩ := by decide +kernel
theorem pd_13 : parseMethodDescriptor "()I" = some ⟨[], some .int⟩ := by decide +kernel
theorem pd_14 : parseMethodDescriptor "([BII)[B" = some ⟨[(.array .byte), .int, .int], some (.array .byte)⟩ := by decide +kernel
theorem pd_15 : parseMethodDescriptor "([BB)V" = some ⟨[(.array .byte), .byte], none⟩ := by decide +kernel
theorem pd_16 : parseMethodDescriptor "(IIILjava/util/function/BiFunction;)I" = some ⟨[.int, .int, .int, (.object "java/util/function/BiFunction")], some .int⟩ := by decide +kernel
theorem pd_17 : parseMethodDescriptor "(III)V" = some ⟨[.int, .int, .int], none⟩ := by decide +kernel
theorem pd_18 : parseMethodDescriptor "([BII)Ljava/lang/String;" = some ⟨[(.array .byte), .int, .int], some (.object "java/lang/String")⟩ := by decide +kernel
theorem pd_19 : parseMethodDescriptor "(II)Ljava/lang/String;" = some ⟨[.int, .int], some (.object "java/lang/String")⟩ := by decide +kernel
theorem pd_20 : parseMethodDescriptor "(I)I" = some ⟨[.int], some .int⟩ := by decide +kernel
theorem pd_21 : parseMethodDescriptor "(I)Ljava/lang/String;" = some ⟨[.int], some (.object "java/lang/String")⟩ := by decide +kernel
theorem pd_22 : parseMethodDescriptor "(I)C" = some ⟨[.int], some .char⟩ := by decide +kernel
theorem pd_23 : parseMethodDescriptor "(I[C)Ljava/lang/String;" = some ⟨[.int, (.array .char)], some (.object "java/lang/String")⟩ := by decide +kernel
theorem pd_24 : parseMethodDescriptor "(Ljava/lang/String;)Ljava/lang/String;" = some ⟨[(.object "java/lang/String")], some (.object "java/lang/String")⟩ := by decide +kernel
theorem pd_25 : parseMethodDescriptor "(Ljava/lang/String;[CIII)Z" = some ⟨[(.object "java/lang/String"), (.array .char), .int, .int, .int], some .boolean⟩ := by decide +kernel
def W0 (Z : State) (a0 : Array Value) : Prop := (∀ d ∈ tables_1, d.before a0 Z = true) ∧ (∀ d ∈ jdkStatics_1, d.before a0 Z = true)
theorem w_0 {Z : State} {a0 : Array Value} (hW : W0 Z a0) : (Jvm.Cond.constant "com/example/dossier_relay/dossierrelay/bundle/FilePathsExtensionOfPinLaw" (7 : Nat) (2147483647 : Int32)).before a0 Z = true := hW.1 _ (List.mem_of_getElem? (i := 0) rfl)
theorem w_1 {Z : State} {a0 : Array Value} (hW : W0 Z a0) : (Jvm.Cond.arrayClass Jvm.ClassFile.FieldType.char).before a0 Z = true := hW.1 _ (List.mem_of_getElem? (i := 1) rfl)
theorem w_2 {Z : State} {a0 : Array Value} (hW : W0 Z a0) : (Jvm.Cond.methodLink "com/example/dossier_relay/dossierrelay/bundle/FilePathsExtensionOfPinLaw" (8 : Nat) ({ cls := "com/example/dossier_relay/dossierrelay/bundle/FilePathsExtensionOfPinLaw", name := "ch", desc := "(I)C" } : Jvm.MethodName)).before a0 Z = true := hW.1 _ (List.mem_of_getElem? (i := 2) rfl)
theorem w_3 {Z : State} {a0 : Array Value} (hW : W0 Z a0) : (Jvm.Cond.static ({ cls := "com/example/dossier_relay/dossierrelay/bundle/FilePathsExtensionOfPinLaw", name := "ch", desc := "(I)C" } : Jvm.MethodName)).before a0 Z = true := hW.1 _ (List.mem_of_getElem? (i := 3) rfl)
theorem w_4 {Z : State} {a0 : Array Value} (hW : W0 Z a0) : (Jvm.Cond.initialized "com/example/dossier_relay/dossierrelay/bundle/FilePathsExtensionOfPinLaw").before a0 Z = true := hW.1 _ (List.mem_of_getElem? (i := 4) rfl)
theorem w_5 {Z : State} {a0 : Array Value} (hW : W0 Z a0) : (Jvm.Cond.code ({ cls := "com/example/dossier_relay/dossierrelay/bundle/FilePathsExtensionOfPinLaw", name := "ch", desc := "(I)C" } : Jvm.MethodName) method_3_code (1 : Nat) (Option.some Jvm.ClassFile.FieldType.char)).before a0 Z = true := hW.1 _ (List.mem_of_getElem? (i := 5) rfl)
theorem w_6 {Z : State} {a0 : Array Value} (hW : W0 Z a0) : (Jvm.Cond.methodLink "com/example/dossier_relay/dossierrelay/bundle/FilePathsExtensionOfPinLaw" (14 : Nat) ({ cls := "com/example/dossier_relay/dossierrelay/bundle/FilePathsExtensionOfPinLaw", name := "make", desc := "(I[C)Ljava/lang/String;" } : Jvm.MethodName)).before a0 Z = true := hW.1 _ (List.mem_of_getElem? (i := 6) rfl)
theorem w_7 {Z : State} {a0 : Array Value} (hW : W0 Z a0) : (Jvm.Cond.static ({ cls := "com/example/dossier_relay/dossierrelay/bundle/FilePathsExtensionOfPinLaw", name := "make", desc := "(I[C)Ljava/lang/String;" } : Jvm.MethodName)).before a0 Z = true := hW.1 _ (List.mem_of_getElem? (i := 7) rfl)
theorem w_8 {Z : State} {a0 : Array Value} (hW : W0 Z a0) : (Jvm.Cond.code ({ cls := "com/example/dossier_relay/dossierrelay/bundle/FilePathsExtensionOfPinLaw", name := "make", desc := "(I[C)Ljava/lang/String;" } : Jvm.MethodName) method_4_code (2 : Nat) (Option.some (Jvm.ClassFile.FieldType.object "java/lang/String"))).before a0 Z = true := hW.1 _ (List.mem_of_getElem? (i := 8) rfl)
theorem w_9 {Z : State} {a0 : Array Value} (hW : W0 Z a0) : (Jvm.Cond.classLink "com/example/dossier_relay/dossierrelay/bundle/FilePathsExtensionOfPinLaw" (25 : Nat) "java/lang/String").before a0 Z = true := hW.1 _ (List.mem_of_getElem? (i := 9) rfl)
theorem w_10 {Z : State} {a0 : Array Value} (hW : W0 Z a0) : (Jvm.Cond.instantiable "java/lang/String" (4 : Nat)).before a0 Z = true := hW.1 _ (List.mem_of_getElem? (i := 10) rfl)
theorem w_11 {Z : State} {a0 : Array Value} (hW : W0 Z a0) : (Jvm.Cond.initialized "java/lang/String").before a0 Z = true := hW.1 _ (List.mem_of_getElem? (i := 11) rfl)
theorem w_12 {Z : State} {a0 : Array Value} (hW : W0 Z a0) : (Jvm.Cond.methodLink "com/example/dossier_relay/dossierrelay/bundle/FilePathsExtensionOfPinLaw" (34 : Nat) ({ cls := "java/lang/String", name := "<init>", desc := "([C)V" } : Jvm.MethodName)).before a0 Z = true := hW.1 _ (List.mem_of_getElem? (i := 12) rfl)
theorem w_13 {Z : State} {a0 : Array Value} (hW : W0 Z a0) : (Jvm.Cond.instanceMethod ({ cls := "java/lang/String", name := "<init>", desc := "([C)V" } : Jvm.MethodName)).before a0 Z = true := hW.1 _ (List.mem_of_getElem? (i := 13) rfl)
theorem w_14 {Z : State} {a0 : Array Value} (hW : W0 Z a0) : (Jvm.Cond.code ({ cls := "java/lang/String", name := "<init>", desc := "([C)V" } : Jvm.MethodName) jdk_42_method_3_code (2 : Nat) (Option.none : Option Jvm.ClassFile.FieldType)).before a0 Z = true := hW.1 _ (List.mem_of_getElem? (i := 14) rfl)
theorem w_15 {Z : State} {a0 : Array Value} (hW : W0 Z a0) : (Jvm.Cond.methodLink "java/lang/String" (27 : Nat) ({ cls := "java/lang/String", name := "<init>", desc := "([CIILjava/lang/Void;)V" } : Jvm.MethodName)).before a0 Z = true := hW.1 _ (List.mem_of_getElem? (i := 15) rfl)
theorem w_16 {Z : State} {a0 : Array Value} (hW : W0 Z a0) : (Jvm.Cond.instanceMethod ({ cls := "java/lang/String", name := "<init>", desc := "([CIILjava/lang/Void;)V" } : Jvm.MethodName)).before a0 Z = true := hW.1 _ (List.mem_of_getElem? (i := 16) rfl)
theorem w_18 {Z : State} {a0 : Array Value} (hW : W0 Z a0) : (Jvm.Cond.code ({ cls := "java/lang/String", name := "<init>", desc := "([CIILjava/lang/Void;)V" } : Jvm.MethodName) jdk_42_method_149_code (6 : Nat) (Option.none : Option Jvm.ClassFile.FieldType)).before a0 Z = true := hW.1 _ (List.mem_of_getElem? (i := 18) rfl)
theorem w_19 {Z : State} {a0 : Array Value} (hW : W0 Z a0) : (Jvm.Cond.methodLink "java/lang/String" (1 : Nat) ({ cls := "java/lang/Object", name := "<init>", desc := "()V" } : Jvm.MethodName)).before a0 Z = true := hW.1 _ (List.mem_of_getElem? (i := 19) rfl)
theorem w_20 {Z : State} {a0 : Array Value} (hW : W0 Z a0) : (Jvm.Cond.instanceMethod ({ cls := "java/lang/Object", name := "<init>", desc := "()V" } : Jvm.MethodName)).before a0 Z = true := hW.1 _ (List.mem_of_getElem? (i := 20) rfl)
theorem w_21 {Z : State} {a0 : Array Value} (hW : W0 Z a0) : (Jvm.Cond.code ({ cls := "java/lang/Object", name := "<init>", desc := "()V" } : Jvm.MethodName) object_method_1_code (1 : Nat) (Option.none : Option Jvm.ClassFile.FieldType)).before a0 Z = true := hW.1 _ (List.mem_of_getElem? (i := 21) rfl)
theorem w_22 {Z : State} {a0 : Array Value} (hW : W0 Z a0) : (Jvm.Cond.stringLink "java/lang/String" (7 : Nat) "").before a0 Z = true := hW.1 _ (List.mem_of_getElem? (i := 22) rfl)
theorem w_23 {Z : State} {a0 : Array Value} (hW : W0 Z a0) : (Jvm.Cond.arrayClass Jvm.ClassFile.FieldType.byte).before a0 Z = true := hW.1 _ (List.mem_of_getElem? (i := 23) rfl)
theorem w_24 {Z : State} {a0 : Array Value} (hW : W0 Z a0) : (Jvm.Cond.laysFinal "java/lang/String" "java/lang/String" "value" "[B").before a0 Z = true := hW.1 _ (List.mem_of_getElem? (i := 24) rfl)
theorem w_25 {Z : State} {a0 : Array Value} (hW : W0 Z a0) : (Jvm.Cond.laysFinal "java/lang/String" "java/lang/String" "coder" "B").before a0 Z = true := hW.1 _ (List.mem_of_getElem? (i := 25) rfl)
theorem w_26 {Z : State} {a0 : Array Value} (hW : W0 Z a0) : (Jvm.Cond.soleField "java/lang/String" "value").before a0 Z = true := hW.1 _ (List.mem_of_getElem? (i := 26) rfl)
theorem w_27 {Z : State} {a0 : Array Value} (hW : W0 Z a0) : (Jvm.Cond.soleField "java/lang/String" "coder").before a0 Z = true := hW.1 _ (List.mem_of_getElem? (i := 27) rfl)
theorem w_28 {Z : State} {a0 : Array Value} (hW : W0 Z a0) : (Jvm.Cond.fieldLink "java/lang/String" (9 : Nat) "java/lang/String" "value" "[B").before a0 Z = true := hW.1 _ (List.mem_of_getElem? (i := 28) rfl)
theorem w_29 {Z : State} {a0 : Array Value} (hW : W0 Z a0) : (Jvm.Cond.fieldLink "java/lang/String" (15 : Nat) "java/lang/String" "coder" "B").before a0 Z = true := hW.1 _ (List.mem_of_getElem? (i := 29) rfl)
theorem w_30 {Z : State} {a0 : Array Value} (hW : W0 Z a0) : (Jvm.Cond.methodLink "com/example/dossier_relay/dossierrelay/bundle/FilePathsExtensionOfPinLaw" (18 : Nat) ({ cls := "com/example/dossier_relay/dossierrelay/bundle/FilePaths", name := "extensionOf", desc := "(Ljava/lang/String;)Ljava/lang/String;" } : Jvm.MethodName)).before a0 Z = true := hW.1 _ (List.mem_of_getElem? (i := 30) rfl)
theorem w_31 {Z : State} {a0 : Array Value} (hW : W0 Z a0) : (Jvm.Cond.static ({ cls := "com/example/dossier_relay/dossierrelay/bundle/FilePaths", name := "extensionOf", desc := "(Ljava/lang/String;)Ljava/lang/String;" } : Jvm.MethodName)).before a0 Z = true := hW.1 _ (List.mem_of_getElem? (i := 31) rfl)
theorem w_32 {Z : State} {a0 : Array Value} (hW : W0 Z a0) : (Jvm.Cond.initialized "com/example/dossier_relay/dossierrelay/bundle/FilePaths").before a0 Z = true := hW.1 _ (List.mem_of_getElem? (i := 32) rfl)
theorem w_33 {Z : State} {a0 : Array Value} (hW : W0 Z a0) : (Jvm.Cond.code ({ cls := "com/example/dossier_relay/dossierrelay/bundle/FilePaths", name := "extensionOf", desc := "(Ljava/lang/String;)Ljava/lang/String;" } : Jvm.MethodName) prog_16_method_3_code (2 : Nat) (Option.some (Jvm.ClassFile.FieldType.object "java/lang/String"))).before a0 Z = true := hW.1 _ (List.mem_of_getElem? (i := 33) rfl)
theorem w_34 {Z : State} {a0 : Array Value} (hW : W0 Z a0) : (Jvm.Cond.methodLink "com/example/dossier_relay/dossierrelay/bundle/FilePaths" (31 : Nat) ({ cls := "java/lang/String", name := "lastIndexOf", desc := "(I)I" } : Jvm.MethodName)).before a0 Z = true := hW.1 _ (List.mem_of_getElem? (i := 34) rfl)
theorem w_35 {Z : State} {a0 : Array Value} (hW : W0 Z a0) : (Jvm.Cond.declares ({ cls := "java/lang/String", name := "lastIndexOf", desc := "(I)I" } : Jvm.MethodName)).before a0 Z = true := hW.1 _ (List.mem_of_getElem? (i := 35) rfl)
theorem w_36 {Z : State} {a0 : Array Value} (hW : W0 Z a0) : (Jvm.Cond.instanceMethod ({ cls := "java/lang/String", name := "lastIndexOf", desc := "(I)I" } : Jvm.MethodName)).before a0 Z = true := hW.1 _ (List.mem_of_getElem? (i := 36) rfl)
theorem w_37 {Z : State} {a0 : Array Value} (hW : W0 Z a0) : (Jvm.Cond.selects "java/lang/String" ({ cls := "java/lang/String", name := "lastIndexOf", desc := "(I)I" } : Jvm.MethodName) ({ cls := "java/lang/String", name := "lastIndexOf", desc := "(I)I" } : Jvm.MethodName)).before a0 Z = true := hW.1 _ (List.mem_of_getElem? (i := 37) rfl)
theorem w_38 {Z : State} {a0 : Array Value} (hW : W0 Z a0) : (Jvm.Cond.code ({ cls := "java/lang/String", name := "lastIndexOf", desc := "(I)I" } : Jvm.MethodName) jdk_42_method_82_code (2 : Nat) (Option.some Jvm.ClassFile.FieldType.int)).before a0 Z = true := hW.1 _ (List.mem_of_getElem? (i := 38) rfl)
theorem w_39 {Z : State} {a0 : Array Value} (hW : W0 Z a0) : (Jvm.Cond.methodLink "java/lang/String" (505 : Nat) ({ cls := "java/lang/String", name := "length", desc := "()I" } : Jvm.MethodName)).before a0 Z = true := hW.1 _ (List.mem_of_getElem? (i := 39) rfl)
theorem w_40 {Z : State} {a0 : Array Value} (hW : W0 Z a0) : (Jvm.Cond.declares ({ cls := "java/lang/String", name := "length", desc := "()I" } : Jvm.MethodName)).before a0 Z = true := hW.1 _ (List.mem_of_getElem? (i := 40) rfl)
theorem w_41 {Z : State} {a0 : Array Value} (hW : W0 Z a0) : (Jvm.Cond.instanceMethod ({ cls := "java/lang/String", name := "length", desc := "()I" } : Jvm.MethodName)).before a0 Z = true := hW.1 _ (List.mem_of_getElem? (i := 41) rfl)
theorem w_42 {Z : State} {a0 : Array Value} (hW : W0 Z a0) : (Jvm.Cond.selects "java/lang/String" ({ cls := "java/lang/String", name := "length", desc := "()I" } : Jvm.MethodName) ({ cls := "java/lang/String", name := "length", desc := "()I" } : Jvm.MethodName)).before a0 Z = true := hW.1 _ (List.mem_of_getElem? (i := 42) rfl)
theorem w_43 {Z : State} {a0 : Array Value} (hW : W0 Z a0) : (Jvm.Cond.code ({ cls := "java/lang/String", name := "length", desc := "()I" } : Jvm.MethodName) jdk_42_method_54_code (1 : Nat) (Option.some Jvm.ClassFile.FieldType.int)).before a0 Z = true := hW.1 _ (List.mem_of_getElem? (i := 43) rfl)
theorem w_44 {Z : State} {a0 : Array Value} (hW : W0 Z a0) : (Jvm.Cond.methodLink "java/lang/String" (335 : Nat) ({ cls := "java/lang/String", name := "coder", desc := "()B" } : Jvm.MethodName)).before a0 Z = true := hW.1 _ (List.mem_of_getElem? (i := 44) rfl)
theorem w_45 {Z : State} {a0 : Array Value} (hW : W0 Z a0) : (Jvm.Cond.declares ({ cls := "java/lang/String", name := "coder", desc := "()B" } : Jvm.MethodName)).before a0 Z = true := hW.1 _ (List.mem_of_getElem? (i := 45) rfl)
theorem w_46 {Z : State} {a0 : Array Value} (hW : W0 Z a0) : (Jvm.Cond.instanceMethod ({ cls := "java/lang/String", name := "coder", desc := "()B" } : Jvm.MethodName)).before a0 Z = true := hW.1 _ (List.mem_of_getElem? (i := 46) rfl)
theorem w_47 {Z : State} {a0 : Array Value} (hW : W0 Z a0) : (Jvm.Cond.selects "java/lang/String" ({ cls := "java/lang/String", name := "coder", desc := "()B" } : Jvm.MethodName) ({ cls := "java/lang/String", name := "coder", desc := "()B" } : Jvm.MethodName)).before a0 Z = true := hW.1 _ (List.mem_of_getElem? (i := 47) rfl)
theorem w_48 {Z : State} {a0 : Array Value} (hW : W0 Z a0) : (Jvm.Cond.code ({ cls := "java/lang/String", name := "coder", desc := "()B" } : Jvm.MethodName) jdk_42_method_152_code (1 : Nat) (Option.some Jvm.ClassFile.FieldType.byte)).before a0 Z = true := hW.1 _ (List.mem_of_getElem? (i := 48) rfl)
theorem w_49 {Z : State} {a0 : Array Value} (hW : W0 Z a0) : (Jvm.Cond.fieldLink "java/lang/String" (38 : Nat) "java/lang/String" "COMPACT_STRINGS" "Z").before a0 Z = true := hW.1 _ (List.mem_of_getElem? (i := 49) rfl)
theorem w_50 {Z : State} {a0 : Array Value} (hW : W0 Z a0) : (Jvm.Cond.methodLink "java/lang/String" (641 : Nat) ({ cls := "java/lang/String", name := "lastIndexOf", desc := "(II)I" } : Jvm.MethodName)).before a0 Z = true := hW.1 _ (List.mem_of_getElem? (i := 50) rfl)
theorem w_51 {Z : State} {a0 : Array Value} (hW : W0 Z a0) : (Jvm.Cond.declares ({ cls := "java/lang/String", name := "lastIndexOf", desc := "(II)I" } : Jvm.MethodName)).before a0 Z = true := hW.1 _ (List.mem_of_getElem? (i := 51) rfl)
theorem w_52 {Z : State} {a0 : Array Value} (hW : W0 Z a0) : (Jvm.Cond.instanceMethod ({ cls := "java/lang/String", name := "lastIndexOf", desc := "(II)I" } : Jvm.MethodName)).before a0 Z = true := hW.1 _ (List.mem_of_getElem? (i := 52) rfl)
theorem w_53 {Z : State} {a0 : Array Value} (hW : W0 Z a0) : (Jvm.Cond.selects "java/lang/String" ({ cls := "java/lang/String", name := "lastIndexOf", desc := "(II)I" } : Jvm.MethodName) ({ cls := "java/lang/String", name := "lastIndexOf", desc := "(II)I" } : Jvm.MethodName)).before a0 Z = true := hW.1 _ (List.mem_of_getElem? (i := 53) rfl)
theorem w_54 {Z : State} {a0 : Array Value} (hW : W0 Z a0) : (Jvm.Cond.code ({ cls := "java/lang/String", name := "lastIndexOf", desc := "(II)I" } : Jvm.MethodName) jdk_42_method_83_code (3 : Nat) (Option.some Jvm.ClassFile.FieldType.int)).before a0 Z = true := hW.1 _ (List.mem_of_getElem? (i := 54) rfl)
theorem w_55 {Z : State} {a0 : Array Value} (hW : W0 Z a0) : (Jvm.Cond.methodLink "java/lang/String" (492 : Nat) ({ cls := "java/lang/String", name := "isLatin1", desc := "()Z" } : Jvm.MethodName)).before a0 Z = true := hW.1 _ (List.mem_of_getElem? (i := 55) rfl)
theorem w_56 {Z : State} {a0 : Array Value} (hW : W0 Z a0) : (Jvm.Cond.declares ({ cls := "java/lang/String", name := "isLatin1", desc := "()Z" } : Jvm.MethodName)).before a0 Z = true := hW.1 _ (List.mem_of_getElem? (i := 56) rfl)
theorem w_57 {Z : State} {a0 : Array Value} (hW : W0 Z a0) : (Jvm.Cond.instanceMethod ({ cls := "java/lang/String", name := "isLatin1", desc := "()Z" } : Jvm.MethodName)).before a0 Z = true := hW.1 _ (List.mem_of_getElem? (i := 57) rfl)
theorem w_58 {Z : State} {a0 : Array Value} (hW : W0 Z a0) : (Jvm.Cond.selects "java/lang/String" ({ cls := "java/lang/String", name := "isLatin1", desc := "()Z" } : Jvm.MethodName) ({ cls := "java/lang/String", name := "isLatin1", desc := "()Z" } : Jvm.MethodName)).before a0 Z = true := hW.1 _ (List.mem_of_getElem? (i := 58) rfl)
theorem w_59 {Z : State} {a0 : Array Value} (hW : W0 Z a0) : (Jvm.Cond.code ({ cls := "java/lang/String", name := "isLatin1", desc := "()Z" } : Jvm.MethodName) jdk_42_method_154_code (1 : Nat) (Option.some Jvm.ClassFile.FieldType.boolean)).before a0 Z = true := hW.1 _ (List.mem_of_getElem? (i := 59) rfl)
theorem w_60 {Z : State} {a0 : Array Value} (hW : W0 Z a0) : (Jvm.Cond.methodLink "java/lang/String" (644 : Nat) ({ cls := "java/lang/StringLatin1", name := "lastIndexOf", desc := "([BII)I" } : Jvm.MethodName)).before a0 Z = true := hW.1 _ (List.mem_of_getElem? (i := 60) rfl)
theorem w_61 {Z : State} {a0 : Array Value} (hW : W0 Z a0) : (Jvm.Cond.static ({ cls := "java/lang/StringLatin1", name := "lastIndexOf", desc := "([BII)I" } : Jvm.MethodName)).before a0 Z = true := hW.1 _ (List.mem_of_getElem? (i := 61) rfl)
theorem w_62 {Z : State} {a0 : Array Value} (hW : W0 Z a0) : (Jvm.Cond.initialized "java/lang/StringLatin1").before a0 Z = true := hW.1 _ (List.mem_of_getElem? (i := 62) rfl)
theorem w_63 {Z : State} {a0 : Array Value} (hW : W0 Z a0) : (Jvm.Cond.code ({ cls := "java/lang/StringLatin1", name := "lastIndexOf", desc := "([BII)I" } : Jvm.MethodName) jdk_43_method_27_code (4 : Nat) (Option.some Jvm.ClassFile.FieldType.int)).before a0 Z = true := hW.1 _ (List.mem_of_getElem? (i := 63) rfl)
theorem w_64 {Z : State} {a0 : Array Value} (hW : W0 Z a0) : (Jvm.Cond.methodLink "java/lang/StringLatin1" (88 : Nat) ({ cls := "java/lang/StringLatin1", name := "canEncode", desc := "(I)Z" } : Jvm.MethodName)).before a0 Z = true := hW.1 _ (List.mem_of_getElem? (i := 64) rfl)
theorem w_65 {Z : State} {a0 : Array Value} (hW : W0 Z a0) : (Jvm.Cond.static ({ cls := "java/lang/StringLatin1", name := "canEncode", desc := "(I)Z" } : Jvm.MethodName)).before a0 Z = true := hW.1 _ (List.mem_of_getElem? (i := 65) rfl)
theorem w_66 {Z : State} {a0 : Array Value} (hW : W0 Z a0) : (Jvm.Cond.code ({ cls := "java/lang/StringLatin1", name := "canEncode", desc := "(I)Z" } : Jvm.MethodName) jdk_43_method_4_code (1 : Nat) (Option.some Jvm.ClassFile.FieldType.boolean)).before a0 Z = true := hW.1 _ (List.mem_of_getElem? (i := 66) rfl)
theorem w_67 {Z : State} {a0 : Array Value} (hW : W0 Z a0) : (Jvm.Cond.methodLink "java/lang/StringLatin1" (38 : Nat) ({ cls := "java/lang/Math", name := "min", desc := "(II)I" } : Jvm.MethodName)).before a0 Z = true := hW.1 _ (List.mem_of_getElem? (i := 67) rfl)
theorem w_68 {Z : State} {a0 : Array Value} (hW : W0 Z a0) : (Jvm.Cond.static ({ cls := "java/lang/Math", name := "min", desc := "(II)I" } : Jvm.MethodName)).before a0 Z = true := hW.1 _ (List.mem_of_getElem? (i := 68) rfl)
theorem w_69 {Z : State} {a0 : Array Value} (hW : W0 Z a0) : (Jvm.Cond.initialized "java/lang/Math").before a0 Z = true := hW.1 _ (List.mem_of_getElem? (i := 69) rfl)
theorem w_70 {Z : State} {a0 : Array Value} (hW : W0 Z a0) : (Jvm.Cond.code ({ cls := "java/lang/Math", name := "min", desc := "(II)I" } : Jvm.MethodName) jdk_29_method_69_code (2 : Nat) (Option.some Jvm.ClassFile.FieldType.int)).before a0 Z = true := hW.1 _ (List.mem_of_getElem? (i := 70) rfl)
theorem w_71 {Z : State} {a0 : Array Value} (hW : W0 Z a0) : (Jvm.Cond.stringLink "com/example/dossier_relay/dossierrelay/bundle/FilePaths" (35 : Nat) "").before a0 Z = true := hW.1 _ (List.mem_of_getElem? (i := 71) rfl)
theorem w_72 {Z : State} {a0 : Array Value} (hW : W0 Z a0) : (Jvm.Cond.methodLink "com/example/dossier_relay/dossierrelay/bundle/FilePathsExtensionOfPinLaw" (24 : Nat) ({ cls := "java/lang/String", name := "length", desc := "()I" } : Jvm.MethodName)).before a0 Z = true := hW.1 _ (List.mem_of_getElem? (i := 72) rfl)
theorem w_73 {Z : State} {a0 : Array Value} (hW : W0 Z a0) : (Jvm.Cond.methodLink "com/example/dossier_relay/dossierrelay/bundle/FilePathsExtensionOfPinLaw" (30 : Nat) ({ cls := "com/example/dossier_relay/dossierrelay/bundle/FilePathsExtensionOfPinLaw", name := "same", desc := "(Ljava/lang/String;[CIII)Z" } : Jvm.MethodName)).before a0 Z = true := hW.1 _ (List.mem_of_getElem? (i := 73) rfl)
theorem w_74 {Z : State} {a0 : Array Value} (hW : W0 Z a0) : (Jvm.Cond.static ({ cls := "com/example/dossier_relay/dossierrelay/bundle/FilePathsExtensionOfPinLaw", name := "same", desc := "(Ljava/lang/String;[CIII)Z" } : Jvm.MethodName)).before a0 Z = true := hW.1 _ (List.mem_of_getElem? (i := 74) rfl)
theorem w_75 {Z : State} {a0 : Array Value} (hW : W0 Z a0) : (Jvm.Cond.code ({ cls := "com/example/dossier_relay/dossierrelay/bundle/FilePathsExtensionOfPinLaw", name := "same", desc := "(Ljava/lang/String;[CIII)Z" } : Jvm.MethodName) method_5_code (5 : Nat) (Option.some Jvm.ClassFile.FieldType.boolean)).before a0 Z = true := hW.1 _ (List.mem_of_getElem? (i := 75) rfl)
theorem w_76 {Z : State} {a0 : Array Value} (hW : W0 Z a0) : (Jvm.Cond.methodLink "java/lang/String" (177 : Nat) ({ cls := "java/lang/StringUTF16", name := "compress", desc := "([CII)[B" } : Jvm.MethodName)).before a0 Z = true := hW.1 _ (List.mem_of_getElem? (i := 76) rfl)
theorem w_77 {Z : State} {a0 : Array Value} (hW : W0 Z a0) : (Jvm.Cond.static ({ cls := "java/lang/StringUTF16", name := "compress", desc := "([CII)[B" } : Jvm.MethodName)).before a0 Z = true := hW.1 _ (List.mem_of_getElem? (i := 77) rfl)
theorem w_78 {Z : State} {a0 : Array Value} (hW : W0 Z a0) : (Jvm.Cond.initialized "java/lang/StringUTF16").before a0 Z = true := hW.1 _ (List.mem_of_getElem? (i := 78) rfl)
theorem w_79 {Z : State} {a0 : Array Value} (hW : W0 Z a0) : (Jvm.Cond.code ({ cls := "java/lang/StringUTF16", name := "compress", desc := "([CII)[B" } : Jvm.MethodName) jdk_52_method_16_code (6 : Nat) (Option.some (Jvm.ClassFile.FieldType.array Jvm.ClassFile.FieldType.byte))).before a0 Z = true := hW.1 _ (List.mem_of_getElem? (i := 79) rfl)
theorem w_80 {Z : State} {a0 : Array Value} (hW : W0 Z a0) : (Jvm.Cond.methodLink "java/lang/StringUTF16" (115 : Nat) ({ cls := "java/lang/StringUTF16", name := "compress", desc := "([CI[BII)I" } : Jvm.MethodName)).before a0 Z = true := hW.1 _ (List.mem_of_getElem? (i := 80) rfl)
theorem w_81 {Z : State} {a0 : Array Value} (hW : W0 Z a0) : (Jvm.Cond.static ({ cls := "java/lang/StringUTF16", name := "compress", desc := "([CI[BII)I" } : Jvm.MethodName)).before a0 Z = true := hW.1 _ (List.mem_of_getElem? (i := 81) rfl)
theorem w_82 {Z : State} {a0 : Array Value} (hW : W0 Z a0) : (Jvm.Cond.code ({ cls := "java/lang/StringUTF16", name := "compress", desc := "([CI[BII)I" } : Jvm.MethodName) jdk_52_method_21_code (7 : Nat) (Option.some Jvm.ClassFile.FieldType.int)).before a0 Z = true := hW.1 _ (List.mem_of_getElem? (i := 82) rfl)
theorem w_83 {Z : State} {a0 : Array Value} (hW : W0 Z a0) : (Jvm.Cond.methodLink "java/lang/String" (47 : Nat) ({ cls := "java/lang/StringUTF16", name := "coderFromArrayLen", desc := "([BI)B" } : Jvm.MethodName)).before a0 Z = true := hW.1 _ (List.mem_of_getElem? (i := 83) rfl)
theorem w_84 {Z : State} {a0 : Array Value} (hW : W0 Z a0) : (Jvm.Cond.static ({ cls := "java/lang/StringUTF16", name := "coderFromArrayLen", desc := "([BI)B" } : Jvm.MethodName)).before a0 Z = true := hW.1 _ (List.mem_of_getElem? (i := 84) rfl)
theorem w_85 {Z : State} {a0 : Array Value} (hW : W0 Z a0) : (Jvm.Cond.code ({ cls := "java/lang/StringUTF16", name := "coderFromArrayLen", desc := "([BI)B" } : Jvm.MethodName) jdk_52_method_15_code (2 : Nat) (Option.some Jvm.ClassFile.FieldType.byte)).before a0 Z = true := hW.1 _ (List.mem_of_getElem? (i := 85) rfl)
theorem w_86 {Z : State} {a0 : Array Value} (hW : W0 Z a0) : (Jvm.Cond.methodLink "com/example/dossier_relay/dossierrelay/bundle/FilePaths" (37 : Nat) ({ cls := "java/lang/String", name := "substring", desc := "(I)Ljava/lang/String;" } : Jvm.MethodName)).before a0 Z = true := hW.1 _ (List.mem_of_getElem? (i := 86) rfl)
theorem w_87 {Z : State} {a0 : Array Value} (hW : W0 Z a0) : (Jvm.Cond.declares ({ cls := "java/lang/String", name := "substring", desc := "(I)Ljava/lang/String;" } : Jvm.MethodName)).before a0 Z = true := hW.1 _ (List.mem_of_getElem? (i := 87) rfl)
theorem w_88 {Z : State} {a0 : Array Value} (hW : W0 Z a0) : (Jvm.Cond.instanceMethod ({ cls := "java/lang/String", name := "substring", desc := "(I)Ljava/lang/String;" } : Jvm.MethodName)).before a0 Z = true := hW.1 _ (List.mem_of_getElem? (i := 88) rfl)
theorem w_89 {Z : State} {a0 : Array Value} (hW : W0 Z a0) : (Jvm.Cond.selects "java/lang/String" ({ cls := "java/lang/String", name := "substring", desc := "(I)Ljava/lang/String;" } : Jvm.MethodName) ({ cls := "java/lang/String", name := "substring", desc := "(I)Ljava/lang/String;" } : Jvm.MethodName)).before a0 Z = true := hW.1 _ (List.mem_of_getElem? (i := 89) rfl)
theorem w_90 {Z : State} {a0 : Array Value} (hW : W0 Z a0) : (Jvm.Cond.code ({ cls := "java/lang/String", name := "substring", desc := "(I)Ljava/lang/String;" } : Jvm.MethodName) jdk_42_method_91_code (2 : Nat) (Option.some (Jvm.ClassFile.FieldType.object "java/lang/String"))).before a0 Z = true := hW.1 _ (List.mem_of_getElem? (i := 90) rfl)
theorem w_91 {Z : State} {a0 : Array Value} (hW : W0 Z a0) : (Jvm.Cond.methodLink "java/lang/String" (681 : Nat) ({ cls := "java/lang/String", name := "substring", desc := "(II)Ljava/lang/String;" } : Jvm.MethodName)).before a0 Z = true := hW.1 _ (List.mem_of_getElem? (i := 91) rfl)
theorem w_92 {Z : State} {a0 : Array Value} (hW : W0 Z a0) : (Jvm.Cond.declares ({ cls := "java/lang/String", name := "substring", desc := "(II)Ljava/lang/String;" } : Jvm.MethodName)).before a0 Z = true := hW.1 _ (List.mem_of_getElem? (i := 92) rfl)
theorem w_93 {Z : State} {a0 : Array Value} (hW : W0 Z a0) : (Jvm.Cond.instanceMethod ({ cls := "java/lang/String", name := "substring", desc := "(II)Ljava/lang/String;" } : Jvm.MethodName)).before a0 Z = true := hW.1 _ (List.mem_of_getElem? (i := 93) rfl)
theorem w_94 {Z : State} {a0 : Array Value} (hW : W0 Z a0) : (Jvm.Cond.selects "java/lang/String" ({ cls := "java/lang/String", name := "substring", desc := "(II)Ljava/lang/String;" } : Jvm.MethodName) ({ cls := "java/lang/String", name := "substring", desc := "(II)Ljava/lang/String;" } : Jvm.MethodName)).before a0 Z = true := hW.1 _ (List.mem_of_getElem? (i := 94) rfl)
theorem w_95 {Z : State} {a0 : Array Value} (hW : W0 Z a0) : (Jvm.Cond.code ({ cls := "java/lang/String", name := "substring", desc := "(II)Ljava/lang/String;" } : Jvm.MethodName) jdk_42_method_92_code (5 : Nat) (Option.some (Jvm.ClassFile.FieldType.object "java/lang/String"))).before a0 Z = true := hW.1 _ (List.mem_of_getElem? (i := 95) rfl)
theorem w_96 {Z : State} {a0 : Array Value} (hW : W0 Z a0) : (Jvm.Cond.methodLink "java/lang/String" (521 : Nat) ({ cls := "java/lang/String", name := "checkBoundsBeginEnd", desc := "(III)V" } : Jvm.MethodName)).before a0 Z = true := hW.1 _ (List.mem_of_getElem? (i := 96) rfl)
theorem w_97 {Z : State} {a0 : Array Value} (hW : W0 Z a0) : (Jvm.Cond.static ({ cls := "java/lang/String", name := "checkBoundsBeginEnd", desc := "(III)V" } : Jvm.MethodName)).before a0 Z = true := hW.1 _ (List.mem_of_getElem? (i := 97) rfl)
theorem w_98 {Z : State} {a0 : Array Value} (hW : W0 Z a0) : (Jvm.Cond.code ({ cls := "java/lang/String", name := "checkBoundsBeginEnd", desc := "(III)V" } : Jvm.MethodName) jdk_42_method_158_code (3 : Nat) (Option.none : Option Jvm.ClassFile.FieldType)).before a0 Z = true := hW.1 _ (List.mem_of_getElem? (i := 98) rfl)
theorem w_99 {Z : State} {a0 : Array Value} (hW : W0 Z a0) : (Jvm.Cond.fieldLink "java/lang/String" (1053 : Nat) "jdk/internal/util/Preconditions" "SIOOBE_FORMATTER" "Ljava/util/function/BiFunction;").before a0 Z = true := hW.1 _ (List.mem_of_getElem? (i := 99) rfl)
theorem w_100 {Z : State} {a0 : Array Value} (hW : W0 Z a0) : (Jvm.Cond.initialized "jdk/internal/util/Preconditions").before a0 Z = true := hW.1 _ (List.mem_of_getElem? (i := 100) rfl)
theorem w_101 {Z : State} {a0 : Array Value} (hW : W0 Z a0) : (Jvm.Cond.methodLink "java/lang/String" (1062 : Nat) ({ cls := "jdk/internal/util/Preconditions", name := "checkFromToIndex", desc := "(IIILjava/util/function/BiFunction;)I" } : Jvm.MethodName)).before a0 Z = true := hW.1 _ (List.mem_of_getElem? (i := 101) rfl)
theorem w_102 {Z : State} {a0 : Array Value} (hW : W0 Z a0) : (Jvm.Cond.static ({ cls := "jdk/internal/util/Preconditions", name := "checkFromToIndex", desc := "(IIILjava/util/function/BiFunction;)I" } : Jvm.MethodName)).before a0 Z = true := hW.1 _ (List.mem_of_getElem? (i := 102) rfl)
theorem w_103 {Z : State} {a0 : Array Value} (hW : W0 Z a0) : (Jvm.Cond.code ({ cls := "jdk/internal/util/Preconditions", name := "checkFromToIndex", desc := "(IIILjava/util/function/BiFunction;)I" } : Jvm.MethodName) jdk_41_method_12_code (4 : Nat) (Option.some Jvm.ClassFile.FieldType.int)).before a0 Z = true := hW.1 _ (List.mem_of_getElem? (i := 103) rfl)
theorem w_104 {Z : State} {a0 : Array Value} (hW : W0 Z a0) : (Jvm.Cond.methodLink "java/lang/String" (685 : Nat) ({ cls := "java/lang/StringLatin1", name := "newString", desc := "([BII)Ljava/lang/String;" } : Jvm.MethodName)).before a0 Z = true := hW.1 _ (List.mem_of_getElem? (i := 104) rfl)
theorem w_105 {Z : State} {a0 : Array Value} (hW : W0 Z a0) : (Jvm.Cond.static ({ cls := "java/lang/StringLatin1", name := "newString", desc := "([BII)Ljava/lang/String;" } : Jvm.MethodName)).before a0 Z = true := hW.1 _ (List.mem_of_getElem? (i := 105) rfl)
theorem w_106 {Z : State} {a0 : Array Value} (hW : W0 Z a0) : (Jvm.Cond.code ({ cls := "java/lang/StringLatin1", name := "newString", desc := "([BII)Ljava/lang/String;" } : Jvm.MethodName) jdk_43_method_47_code (3 : Nat) (Option.some (Jvm.ClassFile.FieldType.object "java/lang/String"))).before a0 Z = true := hW.1 _ (List.mem_of_getElem? (i := 106) rfl)
theorem w_107 {Z : State} {a0 : Array Value} (hW : W0 Z a0) : (Jvm.Cond.stringLink "java/lang/StringLatin1" (151 : Nat) "").before a0 Z = true := hW.1 _ (List.mem_of_getElem? (i := 107) rfl)
theorem w_108 {Z : State} {a0 : Array Value} (hW : W0 Z a0) : (Jvm.Cond.classLink "java/lang/StringLatin1" (1 : Nat) "java/lang/String").before a0 Z = true := hW.1 _ (List.mem_of_getElem? (i := 108) rfl)
theorem w_109 {Z : State} {a0 : Array Value} (hW : W0 Z a0) : (Jvm.Cond.methodLink "java/lang/StringLatin1" (232 : Nat) ({ cls := "java/util/Arrays", name := "copyOfRange", desc := "([BII)[B" } : Jvm.MethodName)).before a0 Z = true := hW.1 _ (List.mem_of_getElem? (i := 109) rfl)
theorem w_110 {Z : State} {a0 : Array Value} (hW : W0 Z a0) : (Jvm.Cond.static ({ cls := "java/util/Arrays", name := "copyOfRange", desc := "([BII)[B" } : Jvm.MethodName)).before a0 Z = true := hW.1 _ (List.mem_of_getElem? (i := 110) rfl)
theorem w_111 {Z : State} {a0 : Array Value} (hW : W0 Z a0) : (Jvm.Cond.initialized "java/util/Arrays").before a0 Z = true := hW.1 _ (List.mem_of_getElem? (i := 111) rfl)
theorem w_112 {Z : State} {a0 : Array Value} (hW : W0 Z a0) : (Jvm.Cond.code ({ cls := "java/util/Arrays", name := "copyOfRange", desc := "([BII)[B" } : Jvm.MethodName) jdk_65_method_132_code (3 : Nat) (Option.some (Jvm.ClassFile.FieldType.array Jvm.ClassFile.FieldType.byte))).before a0 Z = true := hW.1 _ (List.mem_of_getElem? (i := 112) rfl)
theorem w_113 {Z : State} {a0 : Array Value} (hW : W0 Z a0) : (Jvm.Cond.methodLink "java/util/Arrays" (339 : Nat) ({ cls := "java/util/Arrays", name := "copyOfRangeByte", desc := "([BII)[B" } : Jvm.MethodName)).before a0 Z = true := hW.1 _ (List.mem_of_getElem? (i := 113) rfl)
theorem w_114 {Z : State} {a0 : Array Value} (hW : W0 Z a0) : (Jvm.Cond.static ({ cls := "java/util/Arrays", name := "copyOfRangeByte", desc := "([BII)[B" } : Jvm.MethodName)).before a0 Z = true := hW.1 _ (List.mem_of_getElem? (i := 114) rfl)
theorem w_115 {Z : State} {a0 : Array Value} (hW : W0 Z a0) : (Jvm.Cond.code ({ cls := "java/util/Arrays", name := "copyOfRangeByte", desc := "([BII)[B" } : Jvm.MethodName) jdk_65_method_133_code (5 : Nat) (Option.some (Jvm.ClassFile.FieldType.array Jvm.ClassFile.FieldType.byte))).before a0 Z = true := hW.1 _ (List.mem_of_getElem? (i := 115) rfl)
theorem w_116 {Z : State} {a0 : Array Value} (hW : W0 Z a0) : (Jvm.Cond.methodLink "java/util/Arrays" (343 : Nat) ({ cls := "java/util/Arrays", name := "checkLength", desc := "(II)V" } : Jvm.MethodName)).before a0 Z = true := hW.1 _ (List.mem_of_getElem? (i := 116) rfl)
theorem w_117 {Z : State} {a0 : Array Value} (hW : W0 Z a0) : (Jvm.Cond.static ({ cls := "java/util/Arrays", name := "checkLength", desc := "(II)V" } : Jvm.MethodName)).before a0 Z = true := hW.1 _ (List.mem_of_getElem? (i := 117) rfl)
theorem w_118 {Z : State} {a0 : Array Value} (hW : W0 Z a0) : (Jvm.Cond.code ({ cls := "java/util/Arrays", name := "checkLength", desc := "(II)V" } : Jvm.MethodName) jdk_65_method_131_code (2 : Nat) (Option.none : Option Jvm.ClassFile.FieldType)).before a0 Z = true := hW.1 _ (List.mem_of_getElem? (i := 118) rfl)
theorem w_119 {Z : State} {a0 : Array Value} (hW : W0 Z a0) : (Jvm.Cond.methodLink "java/util/Arrays" (304 : Nat) ({ cls := "java/lang/Math", name := "min", desc := "(II)I" } : Jvm.MethodName)).before a0 Z = true := hW.1 _ (List.mem_of_getElem? (i := 119) rfl)
theorem w_120 {Z : State} {a0 : Array Value} (hW : W0 Z a0) : (Jvm.Cond.methodLink "java/util/Arrays" (150 : Nat) ({ cls := "java/lang/System", name := "arraycopy", desc := "(Ljava/lang/Object;ILjava/lang/Object;II)V" } : Jvm.MethodName)).before a0 Z = true := hW.1 _ (List.mem_of_getElem? (i := 120) rfl)
theorem w_121 {Z : State} {a0 : Array Value} (hW : W0 Z a0) : (Jvm.Cond.static ({ cls := "java/lang/System", name := "arraycopy", desc := "(Ljava/lang/Object;ILjava/lang/Object;II)V" } : Jvm.MethodName)).before a0 Z = true := hW.1 _ (List.mem_of_getElem? (i := 121) rfl)
theorem w_122 {Z : State} {a0 : Array Value} (hW : W0 Z a0) : (Jvm.Cond.initialized "java/lang/System").before a0 Z = true := hW.1 _ (List.mem_of_getElem? (i := 122) rfl)
theorem w_123 {Z : State} {a0 : Array Value} (hW : W0 Z a0) : (Jvm.Cond.native ({ cls := "java/lang/System", name := "arraycopy", desc := "(Ljava/lang/Object;ILjava/lang/Object;II)V" } : Jvm.MethodName)).before a0 Z = true := hW.1 _ (List.mem_of_getElem? (i := 123) rfl)
theorem w_124 {Z : State} {a0 : Array Value} (hW : W0 Z a0) : (Jvm.Cond.methodLink "java/lang/StringLatin1" (112 : Nat) ({ cls := "java/lang/String", name := "<init>", desc := "([BB)V" } : Jvm.MethodName)).before a0 Z = true := hW.1 _ (List.mem_of_getElem? (i := 124) rfl)
theorem w_125 {Z : State} {a0 : Array Value} (hW : W0 Z a0) : (Jvm.Cond.instanceMethod ({ cls := "java/lang/String", name := "<init>", desc := "([BB)V" } : Jvm.MethodName)).before a0 Z = true := hW.1 _ (List.mem_of_getElem? (i := 125) rfl)
theorem w_126 {Z : State} {a0 : Array Value} (hW : W0 Z a0) : (Jvm.Cond.code ({ cls := "java/lang/String", name := "<init>", desc := "([BB)V" } : Jvm.MethodName) jdk_42_method_151_code (3 : Nat) (Option.none : Option Jvm.ClassFile.FieldType)).before a0 Z = true := hW.1 _ (List.mem_of_getElem? (i := 126) rfl)
theorem w_127 {Z : State} {a0 : Array Value} (hW : W0 Z a0) : (Jvm.Cond.methodLink "com/example/dossier_relay/dossierrelay/bundle/FilePathsExtensionOfPinLaw" (37 : Nat) ({ cls := "java/lang/String", name := "charAt", desc := "(I)C" } : Jvm.MethodName)).before a0 Z = true := hW.1 _ (List.mem_of_getElem? (i := 127) rfl)
theorem w_128 {Z : State} {a0 : Array Value} (hW : W0 Z a0) : (Jvm.Cond.declares ({ cls := "java/lang/String", name := "charAt", desc := "(I)C" } : Jvm.MethodName)).before a0 Z = true := hW.1 _ (List.mem_of_getElem? (i := 128) rfl)
theorem w_129 {Z : State} {a0 : Array Value} (hW : W0 Z a0) : (Jvm.Cond.instanceMethod ({ cls := "java/lang/String", name := "charAt", desc := "(I)C" } : Jvm.MethodName)).before a0 Z = true := hW.1 _ (List.mem_of_getElem? (i := 129) rfl)
theorem w_130 {Z : State} {a0 : Array Value} (hW : W0 Z a0) : (Jvm.Cond.selects "java/lang/String" ({ cls := "java/lang/String", name := "charAt", desc := "(I)C" } : Jvm.MethodName) ({ cls := "java/lang/String", name := "charAt", desc := "(I)C" } : Jvm.MethodName)).before a0 Z = true := hW.1 _ (List.mem_of_getElem? (i := 130) rfl)
theorem w_131 {Z : State} {a0 : Array Value} (hW : W0 Z a0) : (Jvm.Cond.code ({ cls := "java/lang/String", name := "charAt", desc := "(I)C" } : Jvm.MethodName) jdk_42_method_56_code (2 : Nat) (Option.some Jvm.ClassFile.FieldType.char)).before a0 Z = true := hW.1 _ (List.mem_of_getElem? (i := 131) rfl)
theorem w_132 {Z : State} {a0 : Array Value} (hW : W0 Z a0) : (Jvm.Cond.methodLink "java/lang/String" (495 : Nat) ({ cls := "java/lang/StringLatin1", name := "charAt", desc := "([BI)C" } : Jvm.MethodName)).before a0 Z = true := hW.1 _ (List.mem_of_getElem? (i := 132) rfl)
theorem w_133 {Z : State} {a0 : Array Value} (hW : W0 Z a0) : (Jvm.Cond.static ({ cls := "java/lang/StringLatin1", name := "charAt", desc := "([BI)C" } : Jvm.MethodName)).before a0 Z = true := hW.1 _ (List.mem_of_getElem? (i := 133) rfl)
theorem w_134 {Z : State} {a0 : Array Value} (hW : W0 Z a0) : (Jvm.Cond.code ({ cls := "java/lang/StringLatin1", name := "charAt", desc := "([BI)C" } : Jvm.MethodName) jdk_43_method_2_code (2 : Nat) (Option.some Jvm.ClassFile.FieldType.char)).before a0 Z = true := hW.1 _ (List.mem_of_getElem? (i := 134) rfl)
theorem w_135 {Z : State} {a0 : Array Value} (hW : W0 Z a0) : (Jvm.Cond.methodLink "java/lang/StringLatin1" (9 : Nat) ({ cls := "java/lang/String", name := "checkIndex", desc := "(II)V" } : Jvm.MethodName)).before a0 Z = true := hW.1 _ (List.mem_of_getElem? (i := 135) rfl)
theorem w_136 {Z : State} {a0 : Array Value} (hW : W0 Z a0) : (Jvm.Cond.static ({ cls := "java/lang/String", name := "checkIndex", desc := "(II)V" } : Jvm.MethodName)).before a0 Z = true := hW.1 _ (List.mem_of_getElem? (i := 136) rfl)
theorem w_137 {Z : State} {a0 : Array Value} (hW : W0 Z a0) : (Jvm.Cond.code ({ cls := "java/lang/String", name := "checkIndex", desc := "(II)V" } : Jvm.MethodName) jdk_42_method_155_code (2 : Nat) (Option.none : Option Jvm.ClassFile.FieldType)).before a0 Z = true := hW.1 _ (List.mem_of_getElem? (i := 137) rfl)
theorem w_138 {Z : State} {a0 : Array Value} (hW : W0 Z a0) : (Jvm.Cond.methodLink "java/lang/String" (1059 : Nat) ({ cls := "jdk/internal/util/Preconditions", name := "checkIndex", desc := "(IILjava/util/function/BiFunction;)I" } : Jvm.MethodName)).before a0 Z = true := hW.1 _ (List.mem_of_getElem? (i := 138) rfl)
theorem w_139 {Z : State} {a0 : Array Value} (hW : W0 Z a0) : (Jvm.Cond.static ({ cls := "jdk/internal/util/Preconditions", name := "checkIndex", desc := "(IILjava/util/function/BiFunction;)I" } : Jvm.MethodName)).before a0 Z = true := hW.1 _ (List.mem_of_getElem? (i := 139) rfl)
theorem w_140 {Z : State} {a0 : Array Value} (hW : W0 Z a0) : (Jvm.Cond.code ({ cls := "jdk/internal/util/Preconditions", name := "checkIndex", desc := "(IILjava/util/function/BiFunction;)I" } : Jvm.MethodName) jdk_41_method_11_code (3 : Nat) (Option.some Jvm.ClassFile.FieldType.int)).before a0 Z = true := hW.1 _ (List.mem_of_getElem? (i := 140) rfl)
theorem s_0 {Z : State} {a0 : Array Value} (hW : W0 Z a0) : (Jvm.Cond.initializedFor "java/lang/String" "COMPACT_STRINGS" "Z").before a0 Z = true := hW.2 _ (List.mem_of_getElem? (i := 0) rfl)
theorem s_1 {Z : State} {a0 : Array Value} (hW : W0 Z a0) : (Jvm.Cond.isInt (Jvm.Term.static "java/lang/String" "COMPACT_STRINGS" "Z")).before a0 Z = true := hW.2 _ (List.mem_of_getElem? (i := 1) rfl)
theorem s_2 {Z : State} {a0 : Array Value} (hW : W0 Z a0) : (Jvm.Cond.not (Jvm.Cond.eq (Jvm.Term.static "java/lang/String" "COMPACT_STRINGS" "Z") (Jvm.Term.int (0 : Int32)))).before a0 Z = true := hW.2 _ (List.mem_of_getElem? (i := 2) rfl)
theorem s_7 {Z : State} {a0 : Array Value} (hW : W0 Z a0) : (Jvm.Cond.initializedFor "jdk/internal/util/Preconditions" "SIOOBE_FORMATTER" "Ljava/util/function/BiFunction;").before a0 Z = true := hW.2 _ (List.mem_of_getElem? (i := 7) rfl)
theorem s_8 {Z : State} {a0 : Array Value} (hW : W0 Z a0) : (Jvm.Cond.isRef (Jvm.Term.static "jdk/internal/util/Preconditions" "SIOOBE_FORMATTER" "Ljava/util/function/BiFunction;")).before a0 Z = true := hW.2 _ (List.mem_of_getElem? (i := 8) rfl)
theorem fl_0 {Z : State} {a0 : Array Value} (hW : W0 Z a0) : LaidL Z a0 "java/lang/String" fStr := ⟨⟨Or.inr (w_24 hW), (.array .byte), by decide +kernel⟩, ⟨⟨Or.inr (w_25 hW), .byte, by decide +kernel⟩, trivial⟩⟩
theorem nd_0 : (fStr.map (fun q => q.2.1)).Nodup := by decide +kernel
theorem dv_0 : fStr.map (fun q => (parseFieldDescriptor q.2.2).map defaultValue) = [.null, (.int (0 : Int32))].map some := by decide +kernel
theorem own_txt_71 : (∀ c ∈ ("" : String).toList, c.toNat < 256) ∧ ("" : String).toList.map (fun c => Value.int (Jvm.Lit.byteI c.toNat.toUInt16)) = List.map Value.int [] := by decide +kernel
theorem own_tln_71 : (Int32.ofNat ([] : List Int32).length).toNatClampNeg = ([] : List Int32).length ∧ ¬ (Int32.ofNat ([] : List Int32).length) < 0 := by decide +kernel
theorem own_EL_mem_71 : (("com/example/dossier_relay/dossierrelay/bundle/FilePaths", 35) : String × Nat) ∈ own_EL := List.mem_of_getElem? (i := 0) rfl
theorem own_txt_22 : (∀ c ∈ ("" : String).toList, c.toNat < 256) ∧ ("" : String).toList.map (fun c => Value.int (Jvm.Lit.byteI c.toNat.toUInt16)) = List.map Value.int [] := by decide +kernel
theorem own_tln_22 : (Int32.ofNat ([] : List Int32).length).toNatClampNeg = ([] : List Int32).length ∧ ¬ (Int32.ofNat ([] : List Int32).length) < 0 := by decide +kernel
theorem own_EL_mem_22 : (("java/lang/String", 7) : String × Nat) ∈ own_EL := List.mem_of_getElem? (i := 1) rfl
theorem own_txt_107 : (∀ c ∈ ("" : String).toList, c.toNat < 256) ∧ ("" : String).toList.map (fun c => Value.int (Jvm.Lit.byteI c.toNat.toUInt16)) = List.map Value.int [] := by decide +kernel
theorem own_tln_107 : (Int32.ofNat ([] : List Int32).length).toNatClampNeg = ([] : List Int32).length ∧ ¬ (Int32.ofNat ([] : List Int32).length) < 0 := by decide +kernel
theorem own_EL_mem_107 : (("java/lang/StringLatin1", 151) : String × Nat) ∈ own_EL := List.mem_of_getElem? (i := 2) rfl
theorem own_ew {Z : State} {a0 : Array Value} (hW : W0 Z a0) : EW Z a0 own_EL := (EW.cons (w_71 hW) own_txt_71.1 (EW.cons (w_22 hW) own_txt_22.1 (EW.cons (w_107 hW) own_txt_107.1 EW.nil)))
theorem own_sa {Z : State} {a0 : Array Value} (hW : W0 Z a0) : ∀ a ∈ Bundle.stringAtoms, a.before a0 Z = true := by
  intro a ha
  simp only [Bundle.stringAtoms, List.mem_cons, List.not_mem_nil, or_false] at ha
  rcases ha with rfl | rfl | rfl | rfl | rfl | rfl | rfl
  · exact (w_11 hW)
  · exact (w_10 hW)
  · exact (w_23 hW)
  · exact (w_24 hW)
  · exact (w_25 hW)
  · exact (w_26 hW)
  · exact (w_27 hW)
theorem own_cs {Z : State} {a0 : Array Value} (hW : W0 Z a0) : ∃ cz : Int32, Sta Z Z.heap "java/lang/String" "COMPACT_STRINGS" "Z" (.int cz) ∧ ¬ cz = 0 := by
  obtain ⟨cz, ev⟩ := is_v (Cond.before_iff.mp (s_1 hW))
  refine ⟨cz, Sta.start ev (Or.inl (s_0 hW)), fun e => ?_⟩
  subst e
  have q := (s_2 hW)
  simp [Cond.before, Cond.holds, Cond.value, ev, Term.int_eval] at q
theorem own_sf {Z : State} {a0 : Array Value} (hW : W0 Z a0) : ∃ sf : Value, Sta Z Z.heap "jdk/internal/util/Preconditions" "SIOOBE_FORMATTER" "Ljava/util/function/BiFunction;" sf ∧ sf.isRef = true := by
  obtain ⟨sf, ev, hr⟩ := isR_v (Cond.before_iff.mp (s_8 hW))
  exact ⟨sf, Sta.start ev (Or.inl (s_7 hW)), hr⟩
set_option maxRecDepth 65536 in
set_option maxHeartbeats 40000000 in
theorem own_lp_cmp {k : KT} {l : Launch} {Z : State} {a0 : Array Value} (hW : W0 Z a0) {h0 : Heap} {a t : Addr} {cs : List Int32} {QQ : QT}
    (C : Ctx k l y_0 jdk_52_method_21_code 7 (some .int) ({ frames := 0, cells := 0, slots := 0, locals := 0 } : Room) Z a0 own_EL true [t] h0 QQ) (hcs : own_lat cs) (hne : a ≠ t) (hQ : ∀ h', Av Z h' t .byte (List.map Value.int (List.map own_b cs)) → QQ (some (.int (Int32.ofNat (List.length cs)))) h' []) :
    ∀ (n i : Nat) (h : Heap) (s6 : Slot), i + n = cs.length → Sl s6 → Av Z h a .char (List.map Value.int cs) → Av Z h t .byte (List.map Value.int ((cs.take i).map own_b ++ List.replicate n 0)) → Go k h [t] 0 0 3 #[.val (.ref a), .val (.int (Int32.ofNat i)), .val (.ref t), .val (.int (Int32.ofNat i)), .val (.int (Int32.ofNat (List.length cs))), .val (.int (Int32.ofNat i)), s6] [] := by
  intro n
  induction n with
  | zero =>
    intro i h s6 hin hs6 V U
    have hi : i = cs.length := by omega
    subst hi
    have hl := V.lenI
    refine Go.iload C d17_3 rfl ?_
    refine Go.iload C d17_5 rfl ?_
    refine Go.icmpge C d17_7 (fun hc7 => ?_) (fun hc7 => absurd hc7 (by rw [nI_lt hl hl]; omega))
    refine Go.iload C d17_44 rfl ?_
    refine Go.ireturn C d17_46 (Nat.le_of_ble_eq_true rfl) (Nat.le_of_ble_eq_true rfl) (by simp) rfl [] (fun _ hx => nomatch hx) ?_
    exact hQ _ (by simpa using U)
  | succ n ih =>
    intro i h s6 hin hs6 V U
    have hl := V.lenI
    obtain ⟨c, hci⟩ : ∃ c, cs[i]? = some c := ⟨cs[i]'(by omega), List.getElem?_eq_getElem (by omega)⟩
    refine Go.iload C d17_3 rfl ?_
    refine Go.iload C d17_5 rfl ?_
    refine Go.icmpge C d17_7 (fun hc7 => absurd ((nI_lt (by omega) hl).mpr (by omega)) hc7) (fun hc7 => ?_)
    refine Go.aloadN C d17_10 rfl rfl ?_
    refine Go.iloadN C d17_11 rfl ?_
    refine Go.caload C V i (nI_nn (by omega)) (nI_nat (by omega)) (by rw [List.getElem?_map, hci]; rfl) d17_12 ?_
    refine Go.istore C d17_13 (Ls' := #[.val (.ref a), .val (.int (Int32.ofNat i)), .val (.ref t), .val (.int (Int32.ofNat i)), .val (.int (Int32.ofNat (List.length cs))), .val (.int (Int32.ofNat i)), .val (.int c)]) (sto1 rfl hs6 rfl rfl) ?_
    refine Go.iload C d17_15 rfl ?_
    refine Go.sipush C (255 : Int32) d17_17 (by decide) ?_
    refine Go.icmple C d17_20 (fun hc20 => ?_) (fun hc20 => absurd hc20 (hcs c (List.mem_of_getElem? hci)).2)
    refine Go.aloadN C d17_26 rfl rfl ?_
    refine Go.iloadN C d17_27 rfl ?_
    refine Go.iload C d17_28 rfl ?_
    refine Go.i2b C d17_30 ?_
    refine Go.bastore C U (List.mem_of_getElem? (i := 0) rfl) i (nI_nn (by omega)) (nI_nat (by omega)) (by simp; omega) (x' := (own_b c)) (own_b_nar c) (vs' := (List.map Value.int ((cs.take (i + 1)).map own_b ++ List.replicate n 0))) (own_set (by omega) hci) d17_31 (fun h1 K2 U => ?_)
    replace V := V.keep K2 (ninS hne nin0)
    refine Go.iinc C (Int32.ofNat (i + 1)) d17_32 rfl (nI_succ _) (Ls' := #[.val (.ref a), .val (.int (Int32.ofNat (i + 1))), .val (.ref t), .val (.int (Int32.ofNat i)), .val (.int (Int32.ofNat (List.length cs))), .val (.int (Int32.ofNat i)), .val (.int c)]) rfl ?_
    refine Go.iinc C (Int32.ofNat (i + 1)) d17_35 rfl (nI_succ _) (Ls' := #[.val (.ref a), .val (.int (Int32.ofNat (i + 1))), .val (.ref t), .val (.int (Int32.ofNat (i + 1))), .val (.int (Int32.ofNat (List.length cs))), .val (.int (Int32.ofNat i)), .val (.int c)]) rfl ?_
    refine Go.iinc C (Int32.ofNat (i + 1)) d17_38 rfl (nI_succ _) (Ls' := #[.val (.ref a), .val (.int (Int32.ofNat (i + 1))), .val (.ref t), .val (.int (Int32.ofNat (i + 1))), .val (.int (Int32.ofNat (List.length cs))), .val (.int (Int32.ofNat (i + 1))), .val (.int c)]) rfl ?_
    refine Go.goto C d17_41 ?_
    exact ih (i + 1) _ _ (by omega) (Sl.val rfl) V U
def Q17 (Z : State) (h : Heap) (a : Addr) (t : Addr) (cs : List Int32) : QT := fun v h' os' => (v = some (.int (Int32.ofNat (List.length cs)))) ∧ (os' = []) ∧ (Av Z h' t .byte (List.map Value.int (List.map own_b cs)))
set_option maxRecDepth 65536 in
set_option maxHeartbeats 40000000 in
theorem rm17 {l : Launch} {Z : State} {a0 : Array Value} (hW : W0 Z a0) (h : Heap) (a : Addr) (t : Addr) (cs : List Int32) (V : Av Z h a .char (List.map Value.int cs)) (U : Av Z h t .byte (List.map Value.int (List.replicate (List.length cs) (0 : Int32)))) (hcs : own_lat cs) (hne : a ≠ t) :
    Con l Z own_EL true y_0 jdk_52_method_21_code 7 (some .int) ({ frames := 0, cells := 0, slots := 0, locals := 0 } : Room) [] #[(.ref a), (.int (0 : Int32)), (.ref t), (.int (0 : Int32)), (.int (Int32.ofNat (List.length cs)))] h [t] (Q17 Z h a t cs) := by
  refine Con.intro (a0 := a0) (Ls := #[.val (.ref a), .val (.int (0 : Int32)), .val (.ref t), .val (.int (0 : Int32)), .val (.int (Int32.ofNat (List.length cs))), .unset, .unset]) (by decide +kernel) (own_ew hW) (fun m => by first | (simp [entryFrame, mkF, argsToLocals, Value.category]; done) | rfl) ?_
  intro k C
  refine Go.iconst C (0 : Int32) d17_0 (by decide) ?_
  refine Go.istore C d17_1 (Ls' := #[.val (.ref a), .val (.int (0 : Int32)), .val (.ref t), .val (.int (0 : Int32)), .val (.int (Int32.ofNat (List.length cs))), .val (.int (0 : Int32)), .unset]) rfl ?_
  exact own_lp_cmp hW C hcs hne (fun h' q => ⟨rfl, rfl, q⟩) (List.length cs) 0 _ _ (by omega) Sl.u V (by simpa using U)
def Q16 (Z : State) (h : Heap) (a : Addr) (cs : List Int32) : QT := fun v h' os' => ∃ t : Addr, (v = some (.ref t)) ∧ (os' = [t]) ∧ (Av Z h' t .byte (List.map Value.int (List.map own_b cs)))
set_option maxRecDepth 65536 in
set_option maxHeartbeats 40000000 in
theorem rm16 {l : Launch} {Z : State} {a0 : Array Value} (hW : W0 Z a0) (h : Heap) (a : Addr) (cs : List Int32) (V : Av Z h a .char (List.map Value.int cs)) (hcs : own_lat cs) (hcap : (List.length cs) ≤ 5) :
    Con l Z own_EL true y_1 jdk_52_method_16_code 6 (some (.array .byte)) ({ frames := 1, cells := 1, slots := 5, locals := 18 } : Room) [] #[(.ref a), (.int (0 : Int32)), (.int (Int32.ofNat (List.length cs)))] h [] (Q16 Z h a cs) := by
  refine Con.intro (a0 := a0) (Ls := #[.val (.ref a), .val (.int (0 : Int32)), .val (.int (Int32.ofNat (List.length cs))), .unset, .unset, .unset]) (by decide +kernel) (own_ew hW) (fun m => by first | (simp [entryFrame, mkF, argsToLocals, Value.category]; done) | rfl) ?_
  intro k C
  have hl := V.lenI
  refine Go.iloadN C d16_0 rfl ?_
  refine Go.newarray C (aty := .byte) (w_23 hW) d16_1 (nI_nn hl) (List.length cs) (nI_nat hl) (cap := 5) hcap (by decide) (by decide) (by decide) (fun b1 h2 e3 K4 A5 => ?_)
  have A5 : Av Z h2 b1 .byte (List.replicate (List.length cs) (.int (0 : Int32))) := A5
  have ge_b1 : h.size ≤ b1 := Nat.le_trans (Nat.le_refl _) (ge_of e3)
  have n_a_b1 : a ≠ b1 := ne_lt V.lt (ge_of e3)
  replace V := V.k0 K4
  have l_h2 : h.size ≤ h2.size := Nat.le_trans (Nat.le_refl _) K4.1
  replace A5 : Av Z h2 b1 .byte (List.map Value.int (List.replicate (List.length cs) (0 : Int32))) := by rw [List.map_replicate]; exact A5
  refine Go.astoreN C d16_3 rfl (Ls' := #[.val (.ref a), .val (.int (0 : Int32)), .val (.int (Int32.ofNat (List.length cs))), .val (.ref b1), .unset, .unset]) rfl ?_
  refine Go.aloadN C d16_4 rfl rfl ?_
  refine Go.iloadN C d16_5 rfl ?_
  refine Go.aloadN C d16_6 rfl rfl ?_
  refine Go.iconst C (0 : Int32) d16_7 (by decide) ?_
  refine Go.iloadN C d16_8 rfl ?_
  refine Go.callS C (z := y_0) (argsL := [(.ref a), (.int (0 : Int32)), (.ref b1), (.int (0 : Int32)), (.int (Int32.ofNat (List.length cs)))]) (rm17 hW h2 (a) (b1) (cs) V A5 (by assumption) n_a_b1) (w_80 hW) (w_81 hW) (w_78 hW) (w_82 hW) d16_9 pd_0 rfl (by decide) rfl (st := []) rfl (by decide) (Nat.le_of_ble_eq_true rfl) (by decide) (by decide) (List.forall_mem_cons.mpr ⟨(List.mem_of_getElem? (i := 0) rfl), (fun _ hx => nomatch hx)⟩) (fun v6 h7 os8 q9 K10 ho11 => ?_)
  obtain ⟨rfl, rfl, F12⟩ := q9
  replace V := V.keep K10 (ninS n_a_b1 nin0)
  have l_h7 : h.size ≤ h7.size := Nat.le_trans l_h2 K10.1
  show Go k h7 _ _ _ 12 #[.val (.ref a), .val (.int (0 : Int32)), .val (.int (Int32.ofNat (List.length cs))), .val (.ref b1), .unset, .unset] [(.int (Int32.ofNat (List.length cs)))]
  refine Go.istore C d16_12 (Ls' := #[.val (.ref a), .val (.int (0 : Int32)), .val (.int (Int32.ofNat (List.length cs))), .val (.ref b1), .val (.int (Int32.ofNat (List.length cs))), .unset]) rfl ?_
  refine Go.iload C d16_14 rfl ?_
  refine Go.iloadN C d16_16 rfl ?_
  refine Go.icmpeq C d16_17 (fun hc17 => ?_) (fun hc17 => absurd rfl hc17)
  refine Go.aloadN C d16_57 rfl rfl ?_
  refine Go.areturn C d16_58 (Nat.le_of_ble_eq_true rfl) (Nat.le_of_ble_eq_true rfl) rfl rfl [b1] (List.forall_mem_cons.mpr ⟨⟨(List.mem_of_getElem? (i := 0) rfl), ge_b1⟩, (fun _ hx => nomatch hx)⟩) ?_
  exact ⟨_, rfl, rfl, F12⟩
def Q18 (Z : State) (h : Heap) (t : Addr) (bs : List Int32) (n : Int32) : QT := fun v h' os' => (v = some (.int (0 : Int32))) ∧ (os' = []) ∧ (h = h')
set_option maxRecDepth 65536 in
set_option maxHeartbeats 40000000 in
theorem rm18 {l : Launch} {Z : State} {a0 : Array Value} (hW : W0 Z a0) (h : Heap) (t : Addr) (bs : List Int32) (n : Int32) (V : Av Z h t .byte (List.map Value.int bs)) (hn : n = Int32.ofNat (List.length bs)) :
    Con l Z own_EL true y_2 jdk_52_method_15_code 2 (some .byte) ({ frames := 0, cells := 0, slots := 0, locals := 0 } : Room) [] #[(.ref t), (.int n)] h [] (Q18 Z h t bs n) := by
  refine Con.intro (a0 := a0) (Ls := #[.val (.ref t), .val (.int n)]) (by decide +kernel) (own_ew hW) (fun m => by first | (simp [entryFrame, mkF, argsToLocals, Value.category]; done) | rfl) ?_
  intro k C
  refine Go.iloadN C d18_0 rfl ?_
  refine Go.aloadN C d18_1 rfl rfl ?_
  refine Go.arraylength C V (Int32.ofNat (List.length bs)) (by rw [List.length_map]) d18_2 ?_
  refine Go.isub C d18_3 ?_
  refine Go.eqI (x' := (0 : Int32)) (by rw [hn, Int32.sub_self]) ?_
  refine Go.bipush C (31 : Int32) d18_4 (by decide) ?_
  refine Go.iushr C d18_6 ?_
  refine Go.eqI (x' := (0 : Int32)) (by decide) ?_
  refine Go.i2b C d18_7 ?_
  refine Go.eqI (x' := (0 : Int32)) (by decide) ?_
  refine Go.ireturn C d18_8 (Nat.le_of_ble_eq_true rfl) (Nat.le_of_ble_eq_true rfl) (by simp) rfl [] (fun _ hx => nomatch hx) ?_
  exact ⟨rfl, rfl, rfl⟩
def Q4 (Z : State) (h : Heap) (x : Addr) (a : Addr) (cs : List Int32) : QT := fun v h' os' => ∃ t : Addr, (v = none) ∧ (os' = []) ∧ (Str Z h' x t (List.map own_b cs))
set_option maxRecDepth 65536 in
set_option maxHeartbeats 40000000 in
theorem rm4 {l : Launch} {Z : State} {a0 : Array Value} (hW : W0 Z a0) (h : Heap) (x : Addr) (a : Addr) (cs : List Int32) (O : Obj Z h x "java/lang/String" fStr [.null, (.int (0 : Int32))]) (V : Av Z h a .char (List.map Value.int cs)) (hcs : own_lat cs) (hcap : (List.length cs) ≤ 5) (hxa : a ≠ x) :
    Con l Z own_EL true y_3 jdk_42_method_149_code 6 none ({ frames := 2, cells := 4, slots := 8, locals := 35 } : Room) [] #[(.ref x), (.ref a), (.int (0 : Int32)), (.int (Int32.ofNat (List.length cs))), .null] h [x] (Q4 Z h x a cs) := by
  refine Con.intro (a0 := a0) (Ls := #[.val (.ref x), .val (.ref a), .val (.int (0 : Int32)), .val (.int (Int32.ofNat (List.length cs))), .val .null, .unset]) (by decide +kernel) (own_ew hW) (fun m => by first | (simp [entryFrame, mkF, argsToLocals, Value.category]; done) | rfl) ?_
  intro k C
  obtain ⟨cz, Scs, ncz⟩ := own_cs hW
  have hl := V.lenI
  refine Go.aloadN C d4_0 rfl rfl ?_
  refine Go.initO C (w_19 hW) (w_20 hW) (w_21 hW) d4_1 rfl (by decide) (Nat.le_of_ble_eq_true rfl) ?_
  refine Go.iloadN C d4_4 rfl ?_
  refine Go.ifne C d4_5 (fun hc5 => ?_) (fun hc5 => ?_)
  · refine Go.getS C Scs (host := "") (Or.inl (w_49 hW)) Via.refl d4_27 ?_
    refine Go.ifeq C d4_30 (fun hc30 => absurd hc30 ncz) (fun hc30 => ?_)
    refine Go.aloadN C d4_33 rfl rfl ?_
    refine Go.iloadN C d4_34 rfl ?_
    refine Go.iloadN C d4_35 rfl ?_
    refine Go.callS C (z := y_1) (argsL := [(.ref a), (.int (0 : Int32)), (.int (Int32.ofNat (List.length cs)))]) (rm16 hW h (a) (cs) V (by assumption) (by assumption)) (w_76 hW) (w_77 hW) (w_78 hW) (w_79 hW) d4_36 pd_1 rfl (by decide) rfl (st := []) rfl (by decide) (Nat.le_of_ble_eq_true rfl) (by decide) (by decide) ((fun _ hx => nomatch hx)) (fun v15 h16 os17 q18 K19 ho20 => ?_)
    obtain ⟨t21, rfl, rfl, F22⟩ := q18
    have g_t21 : h.size ≤ t21 := (ho20 _ (List.mem_of_getElem? (i := 0) rfl)).1
    have n_x_t21 : x ≠ t21 := ne_lt O.lt g_t21
    have n_a_t21 : a ≠ t21 := ne_lt V.lt g_t21
    replace O := O.k0 K19
    replace V := V.k0 K19
    show Go k h16 _ _ _ 39 #[.val (.ref x), .val (.ref a), .val (.int (0 : Int32)), .val (.int (Int32.ofNat (List.length cs))), .val .null, .unset] [(.ref t21)]
    refine Go.astore C d4_39 rfl (Ls' := #[.val (.ref x), .val (.ref a), .val (.int (0 : Int32)), .val (.int (Int32.ofNat (List.length cs))), .val .null, .val (.ref t21)]) rfl ?_
    refine Go.aloadN C d4_41 rfl rfl ?_
    refine Go.aload C d4_42 rfl rfl ?_
    refine Go.iloadN C d4_44 rfl ?_
    refine Go.callS C (z := y_2) (argsL := [(.ref t21), (.int (Int32.ofNat (List.length cs)))]) (rm18 hW h16 (t21) ((List.map own_b cs)) ((Int32.ofNat (List.length cs))) F22 (by rw [List.length_map])) (w_83 hW) (w_84 hW) (w_78 hW) (w_85 hW) d4_45 pd_2 rfl (by decide) rfl (st := [(.ref x)]) rfl (by decide) (Nat.le_of_ble_eq_true rfl) (by decide) (by decide) ((fun _ hx => nomatch hx)) (fun v23 h24 os25 q26 K27 ho28 => ?_)
    obtain ⟨rfl, rfl, rfl⟩ := q26
    clear K27 ho28
    show Go k h16 _ _ _ 48 #[.val (.ref x), .val (.ref a), .val (.int (0 : Int32)), .val (.int (Int32.ofNat (List.length cs))), .val .null, .val (.ref t21)] [(.int (0 : Int32)), (.ref x)]
    refine Go.putF C O (List.mem_of_getElem? (i := 1) rfl) 1 rfl (w_29 hW) Via.refl (Or.inr ⟨w_25 hW, rfl, rfl⟩) (w_10 hW) (fl_0 hW) nd_0 (ty := .byte) (by decide +kernel) (v' := (.int (0 : Int32))) rfl rfl (vs' := [.null, (.int (0 : Int32))]) rfl d4_48 (fun h29 K30 O => ?_)
    replace V := V.keep K30 (ninS hxa nin0)
    replace F22 := F22.keep K30 (ninS (Ne.symm n_x_t21) nin0)
    refine Go.aloadN C d4_51 rfl rfl ?_
    refine Go.aload C d4_52 rfl rfl ?_
    refine Go.putF C O (List.mem_of_getElem? (i := 1) rfl) 0 rfl (w_28 hW) Via.refl (Or.inr ⟨w_24 hW, rfl, rfl⟩) (w_10 hW) (fl_0 hW) nd_0 (ty := (.array .byte)) (by decide +kernel) (v' := (.ref t21)) rfl rfl (vs' := [(.ref t21), (.int (0 : Int32))]) rfl d4_54 (fun h31 K32 O => ?_)
    replace V := V.keep K32 (ninS hxa nin0)
    replace F22 := F22.keep K32 (ninS (Ne.symm n_x_t21) nin0)
    refine Go.retV C d4_57 (Nat.le_of_ble_eq_true rfl) (Nat.le_of_ble_eq_true rfl) [] (fun _ hx => nomatch hx) ?_
    exact ⟨_, rfl, rfl, ⟨O, F22⟩⟩
  · have hnil := own_nil hl hc5
    refine Go.aloadN C d4_8 rfl rfl ?_
    refine Go.ldcStr C (w_22 hW) (own_sa hW) own_EL_mem_22 (bs := []) own_txt_22 own_tln_22 d4_9 (n := 0) (by decide) (by decide) (by decide) (by decide) (fun a1 t3 h2 K4 F5 nF5 => ?_)
    replace O := O.k0 K4
    replace V := V.k0 K4
    refine Go.getF C F5.1 0 rfl rfl (host := "") (Or.inl (w_28 hW)) Via.refl d4_11 ?_
    refine Go.putF C O (List.mem_of_getElem? (i := 0) rfl) 0 rfl (w_28 hW) Via.refl (Or.inr ⟨w_24 hW, rfl, rfl⟩) (w_10 hW) (fl_0 hW) nd_0 (ty := (.array .byte)) (by decide +kernel) (v' := (.ref t3)) rfl rfl (vs' := [(.ref t3), (.int (0 : Int32))]) rfl d4_14 (fun h6 K7 O => ?_)
    replace V := V.keep K7 (ninS hxa nin0)
    replace F5 := F5.keep K7 (ninS (nF5 x (List.mem_of_getElem? (i := 0) rfl)).1 nin0) (ninS (nF5 x (List.mem_of_getElem? (i := 0) rfl)).2 nin0)
    refine Go.aloadN C d4_17 rfl rfl ?_
    refine Go.ldcStr C (w_22 hW) (own_sa hW) own_EL_mem_22 (bs := []) own_txt_22 own_tln_22 d4_18 (n := 0) (by decide) (by decide) (by decide) (by decide) (fun a8 t10 h9 K11 F12 nF12 => ?_)
    replace O := O.k0 K11
    replace V := V.k0 K11
    replace F5 := F5.k0 K11
    refine Go.getF C F12.1 1 rfl rfl (host := "") (Or.inl (w_29 hW)) Via.refl d4_20 ?_
    refine Go.putF C O (List.mem_of_getElem? (i := 0) rfl) 1 rfl (w_29 hW) Via.refl (Or.inr ⟨w_25 hW, rfl, rfl⟩) (w_10 hW) (fl_0 hW) nd_0 (ty := .byte) (by decide +kernel) (v' := (.int (0 : Int32))) rfl rfl (vs' := [(.ref t3), (.int (0 : Int32))]) rfl d4_23 (fun h13 K14 O => ?_)
    replace V := V.keep K14 (ninS hxa nin0)
    replace F5 := F5.keep K14 (ninS (nF5 x (List.mem_of_getElem? (i := 0) rfl)).1 nin0) (ninS (nF5 x (List.mem_of_getElem? (i := 0) rfl)).2 nin0)
    replace F12 := F12.keep K14 (ninS (nF12 x (List.mem_of_getElem? (i := 0) rfl)).1 nin0) (ninS (nF12 x (List.mem_of_getElem? (i := 0) rfl)).2 nin0)
    refine Go.retV C d4_26 (Nat.le_of_ble_eq_true rfl) (Nat.le_of_ble_eq_true rfl) [] (fun _ hx => nomatch hx) ?_
    exact ⟨_, rfl, rfl, by rw [hnil]; exact ⟨O, F5.2⟩⟩
def Q3 (Z : State) (h : Heap) (x : Addr) (a : Addr) (cs : List Int32) : QT := fun v h' os' => ∃ t : Addr, (v = none) ∧ (os' = []) ∧ (Str Z h' x t (List.map own_b cs))
set_option maxRecDepth 65536 in
set_option maxHeartbeats 40000000 in
theorem rm3 {l : Launch} {Z : State} {a0 : Array Value} (hW : W0 Z a0) (h : Heap) (x : Addr) (a : Addr) (cs : List Int32) (O : Obj Z h x "java/lang/String" fStr [.null, (.int (0 : Int32))]) (V : Av Z h a .char (List.map Value.int cs)) (hcs : own_lat cs) (hcap : (List.length cs) ≤ 5) (hxa : a ≠ x) :
    Con l Z own_EL true y_4 jdk_42_method_3_code 2 none ({ frames := 3, cells := 4, slots := 8, locals := 60 } : Room) [] #[(.ref x), (.ref a)] h [x] (Q3 Z h x a cs) := by
  refine Con.intro (a0 := a0) (Ls := #[.val (.ref x), .val (.ref a)]) (by decide +kernel) (own_ew hW) (fun m => by first | (simp [entryFrame, mkF, argsToLocals, Value.category]; done) | rfl) ?_
  intro k C
  refine Go.aloadN C d3_0 rfl rfl ?_
  refine Go.aloadN C d3_1 rfl rfl ?_
  refine Go.iconst C (0 : Int32) d3_2 (by decide) ?_
  refine Go.aloadN C d3_3 rfl rfl ?_
  refine Go.arraylength C V (Int32.ofNat (List.length cs)) (by rw [List.length_map]) d3_4 ?_
  refine Go.aconstNull C d3_5 ?_
  refine Go.callI C (z := y_3) (a := x) (argsL := [(.ref a), (.int (0 : Int32)), (.int (Int32.ofNat (List.length cs))), .null]) (rm4 hW h (x) (a) (cs) O V (by assumption) (by assumption) (by assumption)) rfl (w_15 hW) (w_16 hW) (w_11 hW) (w_18 hW) d3_6 pd_3 rfl (by decide) rfl (st := []) rfl (by decide) (Nat.le_of_ble_eq_true rfl) (by decide) (by decide) (List.forall_mem_cons.mpr ⟨(List.mem_of_getElem? (i := 0) rfl), (fun _ hx => nomatch hx)⟩) (fun v1 h2 os3 q4 K5 ho6 => ?_)
  obtain ⟨t7, rfl, rfl, F8⟩ := q4
  replace V := V.keep K5 (ninS hxa nin0)
  show Go k h2 _ _ _ 9 #[.val (.ref x), .val (.ref a)] []
  refine Go.retV C d3_9 (Nat.le_of_ble_eq_true rfl) (Nat.le_of_ble_eq_true rfl) [] (fun _ hx => nomatch hx) ?_
  exact ⟨_, rfl, rfl, F8⟩
def Q11 (Z : State) (h : Heap) (a : Addr) (ta : Addr) (xs : List Int32) : QT := fun v h' os' => (v = some (.int (1 : Int32))) ∧ (os' = []) ∧ (h = h')
set_option maxRecDepth 65536 in
set_option maxHeartbeats 40000000 in
theorem rm11 {l : Launch} {Z : State} {a0 : Array Value} (hW : W0 Z a0) (h : Heap) (a : Addr) (ta : Addr) (xs : List Int32) (S : Str Z h a ta xs) :
    Con l Z own_EL true y_5 jdk_42_method_154_code 1 (some .boolean) ({ frames := 0, cells := 0, slots := 0, locals := 0 } : Room) [] #[(.ref a)] h [] (Q11 Z h a ta xs) := by
  refine Con.intro (a0 := a0) (Ls := #[.val (.ref a)]) (by decide +kernel) (own_ew hW) (fun m => by first | (simp [entryFrame, mkF, argsToLocals, Value.category]; done) | rfl) ?_
  intro k C
  obtain ⟨cz, Scs, ncz⟩ := own_cs hW
  refine Go.getS C Scs (host := "") (Or.inl (w_49 hW)) Via.refl d11_0 ?_
  refine Go.ifeq C d11_3 (fun hc3 => absurd hc3 ncz) (fun hc3 => ?_)
  refine Go.aloadN C d11_6 rfl rfl ?_
  refine Go.getF C S.1 1 rfl rfl (host := "") (Or.inl (w_29 hW)) Via.refl d11_7 ?_
  refine Go.ifne C d11_10 (fun hc => absurd hc (by decide)) (fun _ => ?_)
  refine Go.iconst C (1 : Int32) d11_13 (by decide) ?_
  refine Go.goto C d11_14 ?_
  refine Go.ireturn C d11_18 (Nat.le_of_ble_eq_true rfl) (Nat.le_of_ble_eq_true rfl) (by simp) rfl [] (fun _ hx => nomatch hx) ?_
  exact ⟨rfl, rfl, rfl⟩
def Q31 (Z : State) (h : Heap) (i : Int32) (n : Int32) (g : Value) : QT := fun v h' os' => (v = some (.int i)) ∧ (os' = []) ∧ (h = h')
set_option maxRecDepth 65536 in
set_option maxHeartbeats 40000000 in
theorem rm31 {l : Launch} {Z : State} {a0 : Array Value} (hW : W0 Z a0) (h : Heap) (i : Int32) (n : Int32) (g : Value) (hg : g.isRef = true) (hi : ¬ i < 0) (hin : i < n) :
    Con l Z own_EL true y_6 jdk_41_method_11_code 3 (some .int) ({ frames := 0, cells := 0, slots := 0, locals := 0 } : Room) [] #[(.int i), (.int n), g] h [] (Q31 Z h i n g) := by
  refine Con.intro (a0 := a0) (Ls := #[.val (.int i), .val (.int n), .val g]) (by decide +kernel) (own_ew hW) (fun m => by simp [entryFrame, mkF, argsToLocals, catI, catJ, catD, catR, catN, cat_ref hg]) ?_
  intro k C
  refine Go.iloadN C d31_0 rfl ?_
  refine Go.iflt C d31_1 (fun hc1 => absurd hc1 hi) (fun hc1 => ?_)
  refine Go.iloadN C d31_4 rfl ?_
  refine Go.iloadN C d31_5 rfl ?_
  refine Go.icmplt C d31_6 (fun hc6 => ?_) (fun hc6 => absurd hin hc6)
  refine Go.iloadN C d31_16 rfl ?_
  refine Go.ireturn C d31_17 (Nat.le_of_ble_eq_true rfl) (Nat.le_of_ble_eq_true rfl) (by simp) rfl [] (fun _ hx => nomatch hx) ?_
  exact ⟨rfl, rfl, rfl⟩
def Q30 (Z : State) (h : Heap) (i : Int32) (n : Int32) : QT := fun v h' os' => (v = none) ∧ (os' = []) ∧ (h = h')
set_option maxRecDepth 65536 in
set_option maxHeartbeats 40000000 in
theorem rm30 {l : Launch} {Z : State} {a0 : Array Value} (hW : W0 Z a0) (h : Heap) (i : Int32) (n : Int32) (hi : ¬ i < 0) (hin : i < n) :
    Con l Z own_EL true y_7 jdk_42_method_155_code 2 none ({ frames := 1, cells := 0, slots := 0, locals := 14 } : Room) [] #[(.int i), (.int n)] h [] (Q30 Z h i n) := by
  refine Con.intro (a0 := a0) (Ls := #[.val (.int i), .val (.int n)]) (by decide +kernel) (own_ew hW) (fun m => by first | (simp [entryFrame, mkF, argsToLocals, Value.category]; done) | rfl) ?_
  intro k C
  obtain ⟨sf, Ssf, hsf⟩ := own_sf hW
  refine Go.iloadN C d30_0 rfl ?_
  refine Go.iloadN C d30_1 rfl ?_
  refine Go.getS C Ssf (host := "") (Or.inl (w_99 hW)) Via.refl d30_2 ?_
  refine Go.callS C (z := y_6) (argsL := [(.int i), (.int n), sf]) (rm31 hW h (i) (n) (sf) hsf (by assumption) (by assumption)) (w_138 hW) (w_139 hW) (w_100 hW) (w_140 hW) d30_5 pd_4 rfl (by decide) rfl (st := []) rfl (by decide) (Nat.le_of_ble_eq_true rfl) (by decide) (by decide) ((fun _ hx => nomatch hx)) (fun v1 h2 os3 q4 K5 ho6 => ?_)
  obtain ⟨rfl, rfl, rfl⟩ := q4
  clear K5 ho6
  show Go k h _ _ _ 8 #[.val (.int i), .val (.int n)] [(.int i)]
  refine Go.pop C d30_8 rfl ?_
  refine Go.retV C d30_9 (Nat.le_of_ble_eq_true rfl) (Nat.le_of_ble_eq_true rfl) [] (fun _ hx => nomatch hx) ?_
  exact ⟨rfl, rfl, rfl⟩
def Q29 (Z : State) (h : Heap) (t : Addr) (bs : List Int32) (i : Int32) (j : Nat) (b : Int32) : QT := fun v h' os' => (v = some (.int (own_ch b))) ∧ (os' = []) ∧ (h = h')
set_option maxRecDepth 65536 in
set_option maxHeartbeats 40000000 in
theorem rm29 {l : Launch} {Z : State} {a0 : Array Value} (hW : W0 Z a0) (h : Heap) (t : Addr) (bs : List Int32) (i : Int32) (j : Nat) (b : Int32) (V : Av Z h t .byte (List.map Value.int bs)) (hi : ¬ i < 0) (hij : i.toNatClampNeg = j) (hb : bs[j]? = some b) :
    Con l Z own_EL true y_8 jdk_43_method_2_code 2 (some .char) ({ frames := 2, cells := 0, slots := 0, locals := 27 } : Room) [] #[(.ref t), (.int i)] h [] (Q29 Z h t bs i j b) := by
  refine Con.intro (a0 := a0) (Ls := #[.val (.ref t), .val (.int i)]) (by decide +kernel) (own_ew hW) (fun m => by first | (simp [entryFrame, mkF, argsToLocals, Value.category]; done) | rfl) ?_
  intro k C
  have hin := own_ilt hi hij (List.getElem?_eq_some_iff.mp hb).1 V.lenI
  refine Go.iloadN C d29_0 rfl ?_
  refine Go.aloadN C d29_1 rfl rfl ?_
  refine Go.arraylength C V (Int32.ofNat (List.length bs)) (by rw [List.length_map]) d29_2 ?_
  refine Go.callS C (z := y_7) (argsL := [(.int i), (.int (Int32.ofNat (List.length bs)))]) (rm30 hW h (i) ((Int32.ofNat (List.length bs))) hi hin) (w_135 hW) (w_136 hW) (w_11 hW) (w_137 hW) d29_3 pd_5 rfl (by decide) rfl (st := []) rfl (by decide) (Nat.le_of_ble_eq_true rfl) (by decide) (by decide) ((fun _ hx => nomatch hx)) (fun v1 h2 os3 q4 K5 ho6 => ?_)
  obtain ⟨rfl, rfl, rfl⟩ := q4
  clear K5 ho6
  show Go k h _ _ _ 6 #[.val (.ref t), .val (.int i)] []
  refine Go.aloadN C d29_6 rfl rfl ?_
  refine Go.iloadN C d29_7 rfl ?_
  refine Go.baload C V j hi hij (by rw [List.getElem?_map, hb]; rfl) d29_8 ?_
  refine Go.sipush C (255 : Int32) d29_9 (by decide) ?_
  refine Go.iand C d29_12 ?_
  refine Go.i2c C d29_13 ?_
  refine Go.ireturn C d29_14 (Nat.le_of_ble_eq_true rfl) (Nat.le_of_ble_eq_true rfl) (by simp) (own_c_nar _) [] (fun _ hx => nomatch hx) ?_
  exact ⟨rfl, rfl, rfl⟩
def Q28 (Z : State) (h : Heap) (a : Addr) (ta : Addr) (xs : List Int32) (i : Int32) (j : Nat) (b : Int32) : QT := fun v h' os' => (v = some (.int (own_ch b))) ∧ (os' = []) ∧ (h = h')
set_option maxRecDepth 65536 in
set_option maxHeartbeats 40000000 in
theorem rm28 {l : Launch} {Z : State} {a0 : Array Value} (hW : W0 Z a0) (h : Heap) (a : Addr) (ta : Addr) (xs : List Int32) (i : Int32) (j : Nat) (b : Int32) (S : Str Z h a ta xs) (hi : ¬ i < 0) (hij : i.toNatClampNeg = j) (hb : xs[j]? = some b) :
    Con l Z own_EL true y_9 jdk_42_method_56_code 2 (some .char) ({ frames := 3, cells := 0, slots := 0, locals := 40 } : Room) [] #[(.ref a), (.int i)] h [] (Q28 Z h a ta xs i j b) := by
  refine Con.intro (a0 := a0) (Ls := #[.val (.ref a), .val (.int i)]) (by decide +kernel) (own_ew hW) (fun m => by first | (simp [entryFrame, mkF, argsToLocals, Value.category]; done) | rfl) ?_
  intro k C
  have SV := S.2
  refine Go.aloadN C d28_0 rfl rfl ?_
  refine Go.callV C (z := y_5) (zr := y_5) (a := a) (argsL := []) (rm11 hW h (a) (ta) (xs) S) S.exa (w_55 hW) (w_56 hW) (fun hz => notFace_of_selects (args := #[]) (mvT hz (w_58 hW))) (w_58 hW) (w_57 hW) (w_11 hW) (w_59 hW) d28_1 pd_6 rfl (by decide) rfl (st := []) rfl (by decide) (Nat.le_of_ble_eq_true rfl) (by decide) (by decide) ((fun _ hx => nomatch hx)) (fun v1 h2 os3 q4 K5 ho6 => ?_)
  obtain ⟨rfl, rfl, rfl⟩ := q4
  clear K5 ho6
  show Go k h _ _ _ 4 #[.val (.ref a), .val (.int i)] [(.int (1 : Int32))]
  refine Go.ifeq C d28_4 (fun hc => absurd hc (by decide)) (fun _ => ?_)
  refine Go.aloadN C d28_7 rfl rfl ?_
  refine Go.getF C S.1 0 rfl rfl (host := "") (Or.inl (w_28 hW)) Via.refl d28_8 ?_
  refine Go.iloadN C d28_11 rfl ?_
  refine Go.callS C (z := y_8) (argsL := [(.ref ta), (.int i)]) (rm29 hW h (ta) (xs) (i) (j) (b) SV hi hij hb) (w_132 hW) (w_133 hW) (w_62 hW) (w_134 hW) d28_12 pd_7 rfl (by decide) rfl (st := []) rfl (by decide) (Nat.le_of_ble_eq_true rfl) (by decide) (by decide) ((fun _ hx => nomatch hx)) (fun v7 h8 os9 q10 K11 ho12 => ?_)
  obtain ⟨rfl, rfl, rfl⟩ := q10
  clear K11 ho12
  show Go k h _ _ _ 15 #[.val (.ref a), .val (.int i)] [(.int (own_ch b))]
  refine Go.ireturn C d28_15 (Nat.le_of_ble_eq_true rfl) (Nat.le_of_ble_eq_true rfl) (by simp) (own_c_nar _) [] (fun _ hx => nomatch hx) ?_
  exact ⟨rfl, rfl, rfl⟩
def Q9 (Z : State) (h : Heap) (a : Addr) (ta : Addr) (xs : List Int32) : QT := fun v h' os' => (v = some (.int (0 : Int32))) ∧ (os' = []) ∧ (h = h')
set_option maxRecDepth 65536 in
set_option maxHeartbeats 40000000 in
theorem rm9 {l : Launch} {Z : State} {a0 : Array Value} (hW : W0 Z a0) (h : Heap) (a : Addr) (ta : Addr) (xs : List Int32) (S : Str Z h a ta xs) :
    Con l Z own_EL true y_10 jdk_42_method_152_code 1 (some .byte) ({ frames := 0, cells := 0, slots := 0, locals := 0 } : Room) [] #[(.ref a)] h [] (Q9 Z h a ta xs) := by
  refine Con.intro (a0 := a0) (Ls := #[.val (.ref a)]) (by decide +kernel) (own_ew hW) (fun m => by first | (simp [entryFrame, mkF, argsToLocals, Value.category]; done) | rfl) ?_
  intro k C
  obtain ⟨cz, Scs, ncz⟩ := own_cs hW
  refine Go.getS C Scs (host := "") (Or.inl (w_49 hW)) Via.refl d9_0 ?_
  refine Go.ifeq C d9_3 (fun hc3 => absurd hc3 ncz) (fun hc3 => ?_)
  refine Go.aloadN C d9_6 rfl rfl ?_
  refine Go.getF C S.1 1 rfl rfl (host := "") (Or.inl (w_29 hW)) Via.refl d9_7 ?_
  refine Go.goto C d9_10 ?_
  refine Go.ireturn C d9_14 (Nat.le_of_ble_eq_true rfl) (Nat.le_of_ble_eq_true rfl) (by simp) rfl [] (fun _ hx => nomatch hx) ?_
  exact ⟨rfl, rfl, rfl⟩
def Q8 (Z : State) (h : Heap) (a : Addr) (ta : Addr) (xs : List Int32) : QT := fun v h' os' => (v = some (.int (Int32.ofNat (List.length xs)))) ∧ (os' = []) ∧ (h = h')
set_option maxRecDepth 65536 in
set_option maxHeartbeats 40000000 in
theorem rm8 {l : Launch} {Z : State} {a0 : Array Value} (hW : W0 Z a0) (h : Heap) (a : Addr) (ta : Addr) (xs : List Int32) (S : Str Z h a ta xs) :
    Con l Z own_EL true y_11 jdk_42_method_54_code 1 (some .int) ({ frames := 1, cells := 0, slots := 0, locals := 13 } : Room) [] #[(.ref a)] h [] (Q8 Z h a ta xs) := by
  refine Con.intro (a0 := a0) (Ls := #[.val (.ref a)]) (by decide +kernel) (own_ew hW) (fun m => by first | (simp [entryFrame, mkF, argsToLocals, Value.category]; done) | rfl) ?_
  intro k C
  have SV := S.2
  refine Go.aloadN C d8_0 rfl rfl ?_
  refine Go.getF C S.1 0 rfl rfl (host := "") (Or.inl (w_28 hW)) Via.refl d8_1 ?_
  refine Go.arraylength C SV (Int32.ofNat (List.length xs)) (by rw [List.length_map]) d8_4 ?_
  refine Go.aloadN C d8_5 rfl rfl ?_
  refine Go.callV C (z := y_10) (zr := y_10) (a := a) (argsL := []) (rm9 hW h (a) (ta) (xs) S) S.exa (w_44 hW) (w_45 hW) (fun hz => notFace_of_selects (args := #[]) (mvT hz (w_47 hW))) (w_47 hW) (w_46 hW) (w_11 hW) (w_48 hW) d8_6 pd_8 rfl (by decide) rfl (st := [(.int (Int32.ofNat (List.length xs)))]) rfl (by decide) (Nat.le_of_ble_eq_true rfl) (by decide) (by decide) ((fun _ hx => nomatch hx)) (fun v1 h2 os3 q4 K5 ho6 => ?_)
  obtain ⟨rfl, rfl, rfl⟩ := q4
  clear K5 ho6
  show Go k h _ _ _ 9 #[.val (.ref a)] [(.int (0 : Int32)), (.int (Int32.ofNat (List.length xs)))]
  refine Go.ishr C d8_9 ?_
  refine Go.eqI (x' := (Int32.ofNat (List.length xs))) (own_shr0 _) ?_
  refine Go.ireturn C d8_10 (Nat.le_of_ble_eq_true rfl) (Nat.le_of_ble_eq_true rfl) (by simp) rfl [] (fun _ hx => nomatch hx) ?_
  exact ⟨rfl, rfl, rfl⟩
def Q1 (Z : State) (h : Heap) (z : Int32) : QT := fun v h' os' => (v = some (.int (own_chv z))) ∧ (os' = []) ∧ (h = h')
set_option maxRecDepth 65536 in
set_option maxHeartbeats 40000000 in
theorem rm1 {l : Launch} {Z : State} {a0 : Array Value} (hW : W0 Z a0) (h : Heap) (z : Int32) :
    Con l Z own_EL true y_12 method_3_code 1 (some .char) ({ frames := 0, cells := 0, slots := 0, locals := 0 } : Room) [] #[(.int z)] h [] (Q1 Z h z) := by
  refine Con.intro (a0 := a0) (Ls := #[.val (.int z)]) (by decide +kernel) (own_ew hW) (fun m => by first | (simp [entryFrame, mkF, argsToLocals, Value.category]; done) | rfl) ?_
  intro k C
  refine Go.iloadN C d1_0 rfl ?_
  refine Go.sipush C (768 : Int32) d1_1 (by decide) ?_
  refine Go.iand C d1_4 ?_
  refine Go.ifne C d1_5 (fun hc5 => ?_) (fun hc5 => ?_)
  · refine Go.iloadN C d1_11 rfl ?_
    refine Go.sipush C (255 : Int32) d1_12 (by decide) ?_
    refine Go.iand C d1_15 ?_
    refine Go.i2c C d1_16 ?_
    refine Go.ireturn C d1_17 (Nat.le_of_ble_eq_true rfl) (Nat.le_of_ble_eq_true rfl) (by simp) (own_c_nar _) [] (fun _ hx => nomatch hx) ?_
    exact ⟨congrArg (fun z => some (Value.int z)) (if_neg hc5).symm, rfl, rfl⟩
  · refine Go.bipush C (46 : Int32) d1_8 (by decide) ?_
    refine Go.ireturn C d1_10 (Nat.le_of_ble_eq_true rfl) (Nat.le_of_ble_eq_true rfl) (by simp) rfl [] (fun _ hx => nomatch hx) ?_
    exact ⟨congrArg (fun z => some (Value.int z)) (if_pos hc5).symm, rfl, rfl⟩
def Q2 (Z : State) (h : Heap) (n : Int32) (a : Addr) (c0 : Int32) (c1 : Int32) (c2 : Int32) (c3 : Int32) (c4 : Int32) : QT := fun v h' os' => ∃ r : Addr, ∃ t : Addr, (v = some (.ref r)) ∧ (os' = []) ∧ (Str Z h' r t (List.map own_b (own_mk5 n c0 c1 c2 c3 c4)))
set_option maxRecDepth 65536 in
set_option maxHeartbeats 40000000 in
theorem rm2 {l : Launch} {Z : State} {a0 : Array Value} (hW : W0 Z a0) (h : Heap) (n : Int32) (a : Addr) (c0 : Int32) (c1 : Int32) (c2 : Int32) (c3 : Int32) (c4 : Int32) (V : Av Z h a .char [(.int c0), (.int c1), (.int c2), (.int c3), (.int c4)]) (hl : own_lat [c0, c1, c2, c3, c4]) :
    Con l Z own_EL true y_13 method_4_code 2 (some (.object "java/lang/String")) ({ frames := 4, cells := 6, slots := 20, locals := 90 } : Room) [] #[(.int n), (.ref a)] h [] (Q2 Z h n a c0 c1 c2 c3 c4) := by
  refine Con.intro (a0 := a0) (Ls := #[.val (.int n), .val (.ref a)]) (by decide +kernel) (own_ew hW) (fun m => by first | (simp [entryFrame, mkF, argsToLocals, Value.category]; done) | rfl) ?_
  intro k C
  refine Go.iloadN C d2_0 rfl ?_
  refine Go.ifne C d2_1 (fun hc1 => ?_) (fun hc1 => ?_)
  · refine Go.iloadN C d2_15 rfl ?_
    refine Go.iconst C (1 : Int32) d2_16 (by decide) ?_
    refine Go.icmpne C d2_17 (fun hc17 => ?_) (fun hc17 => ?_)
    · refine Go.iloadN C d2_37 rfl ?_
      refine Go.iconst C (2 : Int32) d2_38 (by decide) ?_
      refine Go.icmpne C d2_39 (fun hc39 => ?_) (fun hc39 => ?_)
      · refine Go.iloadN C d2_65 rfl ?_
        refine Go.iconst C (3 : Int32) d2_66 (by decide) ?_
        refine Go.icmpne C d2_67 (fun hc67 => ?_) (fun hc67 => ?_)
        · refine Go.iloadN C d2_99 rfl ?_
          refine Go.iconst C (4 : Int32) d2_100 (by decide) ?_
          refine Go.icmpne C d2_101 (fun hc101 => ?_) (fun hc101 => ?_)
          · refine Go.new C (w_9 hW) (w_10 hW) (w_11 hW) (fl_0 hW) dv_0 d2_139 (by decide) (by decide) (fun b111 h112 e113 K114 O115 => ?_)
            have n_a_b111 : a ≠ b111 := ne_lt V.lt (ge_of e113)
            replace V := V.k0 K114
            refine Go.dup C d2_142 rfl ?_
            refine Go.iconst C (5 : Int32) d2_143 (by decide) ?_
            refine Go.newarray C (aty := .char) (w_1 hW) d2_144 (by decide) 5 rfl (cap := 5) (by decide) (by decide) (by decide) (by decide) (fun b116 h117 e118 K119 A120 => ?_)
            have A120 : Av Z h117 b116 .char [(.int (0 : Int32)), (.int (0 : Int32)), (.int (0 : Int32)), (.int (0 : Int32)), (.int (0 : Int32))] := A120
            have n_a_b116 : a ≠ b116 := ne_lt V.lt (ge_of e118)
            have n_b111_b116 : b111 ≠ b116 := ne_lt O115.lt (ge_of e118)
            replace V := V.k0 K119
            replace O115 := O115.k0 K119
            refine Go.dup C d2_146 rfl ?_
            refine Go.iconst C (0 : Int32) d2_147 (by decide) ?_
            refine Go.aloadN C d2_148 rfl rfl ?_
            refine Go.iconst C (0 : Int32) d2_149 (by decide) ?_
            refine Go.caload C V 0 (by decide) rfl rfl d2_150 ?_
            refine Go.castore C A120 (List.mem_of_getElem? (i := 0) rfl) 0 (by decide) rfl (Nat.le_of_ble_eq_true rfl) (x' := c0) (own_nar_lat (hl c0 (List.mem_of_getElem? (i := 0) rfl))) (vs' := [(.int c0), (.int (0 : Int32)), (.int (0 : Int32)), (.int (0 : Int32)), (.int (0 : Int32))]) rfl d2_151 (fun h121 K122 A120 => ?_)
            replace V := V.keep K122 (ninS n_a_b116 nin0)
            replace O115 := O115.keep K122 (ninS n_b111_b116 nin0)
            refine Go.dup C d2_152 rfl ?_
            refine Go.iconst C (1 : Int32) d2_153 (by decide) ?_
            refine Go.aloadN C d2_154 rfl rfl ?_
            refine Go.iconst C (1 : Int32) d2_155 (by decide) ?_
            refine Go.caload C V 1 (by decide) rfl rfl d2_156 ?_
            refine Go.castore C A120 (List.mem_of_getElem? (i := 0) rfl) 1 (by decide) rfl (Nat.le_of_ble_eq_true rfl) (x' := c1) (own_nar_lat (hl c1 (List.mem_of_getElem? (i := 1) rfl))) (vs' := [(.int c0), (.int c1), (.int (0 : Int32)), (.int (0 : Int32)), (.int (0 : Int32))]) rfl d2_157 (fun h123 K124 A120 => ?_)
            replace V := V.keep K124 (ninS n_a_b116 nin0)
            replace O115 := O115.keep K124 (ninS n_b111_b116 nin0)
            refine Go.dup C d2_158 rfl ?_
            refine Go.iconst C (2 : Int32) d2_159 (by decide) ?_
            refine Go.aloadN C d2_160 rfl rfl ?_
            refine Go.iconst C (2 : Int32) d2_161 (by decide) ?_
            refine Go.caload C V 2 (by decide) rfl rfl d2_162 ?_
            refine Go.castore C A120 (List.mem_of_getElem? (i := 0) rfl) 2 (by decide) rfl (Nat.le_of_ble_eq_true rfl) (x' := c2) (own_nar_lat (hl c2 (List.mem_of_getElem? (i := 2) rfl))) (vs' := [(.int c0), (.int c1), (.int c2), (.int (0 : Int32)), (.int (0 : Int32))]) rfl d2_163 (fun h125 K126 A120 => ?_)
            replace V := V.keep K126 (ninS n_a_b116 nin0)
            replace O115 := O115.keep K126 (ninS n_b111_b116 nin0)
            refine Go.dup C d2_164 rfl ?_
            refine Go.iconst C (3 : Int32) d2_165 (by decide) ?_
            refine Go.aloadN C d2_166 rfl rfl ?_
            refine Go.iconst C (3 : Int32) d2_167 (by decide) ?_
            refine Go.caload C V 3 (by decide) rfl rfl d2_168 ?_
            refine Go.castore C A120 (List.mem_of_getElem? (i := 0) rfl) 3 (by decide) rfl (Nat.le_of_ble_eq_true rfl) (x' := c3) (own_nar_lat (hl c3 (List.mem_of_getElem? (i := 3) rfl))) (vs' := [(.int c0), (.int c1), (.int c2), (.int c3), (.int (0 : Int32))]) rfl d2_169 (fun h127 K128 A120 => ?_)
            replace V := V.keep K128 (ninS n_a_b116 nin0)
            replace O115 := O115.keep K128 (ninS n_b111_b116 nin0)
            refine Go.dup C d2_170 rfl ?_
            refine Go.iconst C (4 : Int32) d2_171 (by decide) ?_
            refine Go.aloadN C d2_172 rfl rfl ?_
            refine Go.iconst C (4 : Int32) d2_173 (by decide) ?_
            refine Go.caload C V 4 (by decide) rfl rfl d2_174 ?_
            refine Go.castore C A120 (List.mem_of_getElem? (i := 0) rfl) 4 (by decide) rfl (Nat.le_of_ble_eq_true rfl) (x' := c4) (own_nar_lat (hl c4 (List.mem_of_getElem? (i := 4) rfl))) (vs' := [(.int c0), (.int c1), (.int c2), (.int c3), (.int c4)]) rfl d2_175 (fun h129 K130 A120 => ?_)
            replace V := V.keep K130 (ninS n_a_b116 nin0)
            replace O115 := O115.keep K130 (ninS n_b111_b116 nin0)
            have A120 : Av Z h129 b116 .char (List.map Value.int ([c0, c1, c2, c3, c4] : List Int32)) := A120
            refine Go.callI C (z := y_4) (a := b111) (argsL := [(.ref b116)]) (rm3 hW h129 (b111) (b116) ([c0, c1, c2, c3, c4]) O115 A120 (own_sub5 hl) (Nat.le_of_ble_eq_true rfl) (Ne.symm n_b111_b116)) rfl (w_12 hW) (w_13 hW) (w_11 hW) (w_14 hW) d2_176 pd_9 rfl (by decide) rfl (st := [(.ref b111)]) rfl (by decide) (Nat.le_of_ble_eq_true rfl) (by decide) (by decide) (List.forall_mem_cons.mpr ⟨(List.mem_of_getElem? (i := 1) rfl), (fun _ hx => nomatch hx)⟩) (fun v131 h132 os133 q134 K135 ho136 => ?_)
            obtain ⟨t137, rfl, rfl, F138⟩ := q134
            replace V := V.keep K135 (ninS n_a_b111 nin0)
            replace A120 := A120.keep K135 (ninS (Ne.symm n_b111_b116) nin0)
            show Go k h132 _ _ _ 179 #[.val (.int n), .val (.ref a)] [(.ref b111)]
            refine Go.areturn C d2_179 (Nat.le_of_ble_eq_true rfl) (Nat.le_of_ble_eq_true rfl) rfl rfl [] (fun _ hx => nomatch hx) ?_
            exact ⟨_, _, rfl, rfl, by rw [own_mk5_5 hc1 hc17 hc39 hc67 hc101]; exact F138⟩
          · refine Go.new C (w_9 hW) (w_10 hW) (w_11 hW) (fl_0 hW) dv_0 d2_104 (by decide) (by decide) (fun b85 h86 e87 K88 O89 => ?_)
            have n_a_b85 : a ≠ b85 := ne_lt V.lt (ge_of e87)
            replace V := V.k0 K88
            refine Go.dup C d2_107 rfl ?_
            refine Go.iconst C (4 : Int32) d2_108 (by decide) ?_
            refine Go.newarray C (aty := .char) (w_1 hW) d2_109 (by decide) 4 rfl (cap := 4) (by decide) (by decide) (by decide) (by decide) (fun b90 h91 e92 K93 A94 => ?_)
            have A94 : Av Z h91 b90 .char [(.int (0 : Int32)), (.int (0 : Int32)), (.int (0 : Int32)), (.int (0 : Int32))] := A94
            have n_a_b90 : a ≠ b90 := ne_lt V.lt (ge_of e92)
            have n_b85_b90 : b85 ≠ b90 := ne_lt O89.lt (ge_of e92)
            replace V := V.k0 K93
            replace O89 := O89.k0 K93
            refine Go.dup C d2_111 rfl ?_
            refine Go.iconst C (0 : Int32) d2_112 (by decide) ?_
            refine Go.aloadN C d2_113 rfl rfl ?_
            refine Go.iconst C (0 : Int32) d2_114 (by decide) ?_
            refine Go.caload C V 0 (by decide) rfl rfl d2_115 ?_
            refine Go.castore C A94 (List.mem_of_getElem? (i := 0) rfl) 0 (by decide) rfl (Nat.le_of_ble_eq_true rfl) (x' := c0) (own_nar_lat (hl c0 (List.mem_of_getElem? (i := 0) rfl))) (vs' := [(.int c0), (.int (0 : Int32)), (.int (0 : Int32)), (.int (0 : Int32))]) rfl d2_116 (fun h95 K96 A94 => ?_)
            replace V := V.keep K96 (ninS n_a_b90 nin0)
            replace O89 := O89.keep K96 (ninS n_b85_b90 nin0)
            refine Go.dup C d2_117 rfl ?_
            refine Go.iconst C (1 : Int32) d2_118 (by decide) ?_
            refine Go.aloadN C d2_119 rfl rfl ?_
            refine Go.iconst C (1 : Int32) d2_120 (by decide) ?_
            refine Go.caload C V 1 (by decide) rfl rfl d2_121 ?_
            refine Go.castore C A94 (List.mem_of_getElem? (i := 0) rfl) 1 (by decide) rfl (Nat.le_of_ble_eq_true rfl) (x' := c1) (own_nar_lat (hl c1 (List.mem_of_getElem? (i := 1) rfl))) (vs' := [(.int c0), (.int c1), (.int (0 : Int32)), (.int (0 : Int32))]) rfl d2_122 (fun h97 K98 A94 => ?_)
            replace V := V.keep K98 (ninS n_a_b90 nin0)
            replace O89 := O89.keep K98 (ninS n_b85_b90 nin0)
            refine Go.dup C d2_123 rfl ?_
            refine Go.iconst C (2 : Int32) d2_124 (by decide) ?_
            refine Go.aloadN C d2_125 rfl rfl ?_
            refine Go.iconst C (2 : Int32) d2_126 (by decide) ?_
            refine Go.caload C V 2 (by decide) rfl rfl d2_127 ?_
            refine Go.castore C A94 (List.mem_of_getElem? (i := 0) rfl) 2 (by decide) rfl (Nat.le_of_ble_eq_true rfl) (x' := c2) (own_nar_lat (hl c2 (List.mem_of_getElem? (i := 2) rfl))) (vs' := [(.int c0), (.int c1), (.int c2), (.int (0 : Int32))]) rfl d2_128 (fun h99 K100 A94 => ?_)
            replace V := V.keep K100 (ninS n_a_b90 nin0)
            replace O89 := O89.keep K100 (ninS n_b85_b90 nin0)
            refine Go.dup C d2_129 rfl ?_
            refine Go.iconst C (3 : Int32) d2_130 (by decide) ?_
            refine Go.aloadN C d2_131 rfl rfl ?_
            refine Go.iconst C (3 : Int32) d2_132 (by decide) ?_
            refine Go.caload C V 3 (by decide) rfl rfl d2_133 ?_
            refine Go.castore C A94 (List.mem_of_getElem? (i := 0) rfl) 3 (by decide) rfl (Nat.le_of_ble_eq_true rfl) (x' := c3) (own_nar_lat (hl c3 (List.mem_of_getElem? (i := 3) rfl))) (vs' := [(.int c0), (.int c1), (.int c2), (.int c3)]) rfl d2_134 (fun h101 K102 A94 => ?_)
            replace V := V.keep K102 (ninS n_a_b90 nin0)
            replace O89 := O89.keep K102 (ninS n_b85_b90 nin0)
            have A94 : Av Z h101 b90 .char (List.map Value.int ([c0, c1, c2, c3] : List Int32)) := A94
            refine Go.callI C (z := y_4) (a := b85) (argsL := [(.ref b90)]) (rm3 hW h101 (b85) (b90) ([c0, c1, c2, c3]) O89 A94 (own_sub4 hl) (Nat.le_of_ble_eq_true rfl) (Ne.symm n_b85_b90)) rfl (w_12 hW) (w_13 hW) (w_11 hW) (w_14 hW) d2_135 pd_9 rfl (by decide) rfl (st := [(.ref b85)]) rfl (by decide) (Nat.le_of_ble_eq_true rfl) (by decide) (by decide) (List.forall_mem_cons.mpr ⟨(List.mem_of_getElem? (i := 1) rfl), (fun _ hx => nomatch hx)⟩) (fun v103 h104 os105 q106 K107 ho108 => ?_)
            obtain ⟨t109, rfl, rfl, F110⟩ := q106
            replace V := V.keep K107 (ninS n_a_b85 nin0)
            replace A94 := A94.keep K107 (ninS (Ne.symm n_b85_b90) nin0)
            show Go k h104 _ _ _ 138 #[.val (.int n), .val (.ref a)] [(.ref b85)]
            refine Go.areturn C d2_138 (Nat.le_of_ble_eq_true rfl) (Nat.le_of_ble_eq_true rfl) rfl rfl [] (fun _ hx => nomatch hx) ?_
            exact ⟨_, _, rfl, rfl, by rw [own_mk5_4 hc1 hc17 hc39 hc67 hc101]; exact F110⟩
        · refine Go.new C (w_9 hW) (w_10 hW) (w_11 hW) (fl_0 hW) dv_0 d2_70 (by decide) (by decide) (fun b61 h62 e63 K64 O65 => ?_)
          have n_a_b61 : a ≠ b61 := ne_lt V.lt (ge_of e63)
          replace V := V.k0 K64
          refine Go.dup C d2_73 rfl ?_
          refine Go.iconst C (3 : Int32) d2_74 (by decide) ?_
          refine Go.newarray C (aty := .char) (w_1 hW) d2_75 (by decide) 3 rfl (cap := 3) (by decide) (by decide) (by decide) (by decide) (fun b66 h67 e68 K69 A70 => ?_)
          have A70 : Av Z h67 b66 .char [(.int (0 : Int32)), (.int (0 : Int32)), (.int (0 : Int32))] := A70
          have n_a_b66 : a ≠ b66 := ne_lt V.lt (ge_of e68)
          have n_b61_b66 : b61 ≠ b66 := ne_lt O65.lt (ge_of e68)
          replace V := V.k0 K69
          replace O65 := O65.k0 K69
          refine Go.dup C d2_77 rfl ?_
          refine Go.iconst C (0 : Int32) d2_78 (by decide) ?_
          refine Go.aloadN C d2_79 rfl rfl ?_
          refine Go.iconst C (0 : Int32) d2_80 (by decide) ?_
          refine Go.caload C V 0 (by decide) rfl rfl d2_81 ?_
          refine Go.castore C A70 (List.mem_of_getElem? (i := 0) rfl) 0 (by decide) rfl (Nat.le_of_ble_eq_true rfl) (x' := c0) (own_nar_lat (hl c0 (List.mem_of_getElem? (i := 0) rfl))) (vs' := [(.int c0), (.int (0 : Int32)), (.int (0 : Int32))]) rfl d2_82 (fun h71 K72 A70 => ?_)
          replace V := V.keep K72 (ninS n_a_b66 nin0)
          replace O65 := O65.keep K72 (ninS n_b61_b66 nin0)
          refine Go.dup C d2_83 rfl ?_
          refine Go.iconst C (1 : Int32) d2_84 (by decide) ?_
          refine Go.aloadN C d2_85 rfl rfl ?_
          refine Go.iconst C (1 : Int32) d2_86 (by decide) ?_
          refine Go.caload C V 1 (by decide) rfl rfl d2_87 ?_
          refine Go.castore C A70 (List.mem_of_getElem? (i := 0) rfl) 1 (by decide) rfl (Nat.le_of_ble_eq_true rfl) (x' := c1) (own_nar_lat (hl c1 (List.mem_of_getElem? (i := 1) rfl))) (vs' := [(.int c0), (.int c1), (.int (0 : Int32))]) rfl d2_88 (fun h73 K74 A70 => ?_)
          replace V := V.keep K74 (ninS n_a_b66 nin0)
          replace O65 := O65.keep K74 (ninS n_b61_b66 nin0)
          refine Go.dup C d2_89 rfl ?_
          refine Go.iconst C (2 : Int32) d2_90 (by decide) ?_
          refine Go.aloadN C d2_91 rfl rfl ?_
          refine Go.iconst C (2 : Int32) d2_92 (by decide) ?_
          refine Go.caload C V 2 (by decide) rfl rfl d2_93 ?_
          refine Go.castore C A70 (List.mem_of_getElem? (i := 0) rfl) 2 (by decide) rfl (Nat.le_of_ble_eq_true rfl) (x' := c2) (own_nar_lat (hl c2 (List.mem_of_getElem? (i := 2) rfl))) (vs' := [(.int c0), (.int c1), (.int c2)]) rfl d2_94 (fun h75 K76 A70 => ?_)
          replace V := V.keep K76 (ninS n_a_b66 nin0)
          replace O65 := O65.keep K76 (ninS n_b61_b66 nin0)
          have A70 : Av Z h75 b66 .char (List.map Value.int ([c0, c1, c2] : List Int32)) := A70
          refine Go.callI C (z := y_4) (a := b61) (argsL := [(.ref b66)]) (rm3 hW h75 (b61) (b66) ([c0, c1, c2]) O65 A70 (own_sub3 hl) (Nat.le_of_ble_eq_true rfl) (Ne.symm n_b61_b66)) rfl (w_12 hW) (w_13 hW) (w_11 hW) (w_14 hW) d2_95 pd_9 rfl (by decide) rfl (st := [(.ref b61)]) rfl (by decide) (Nat.le_of_ble_eq_true rfl) (by decide) (by decide) (List.forall_mem_cons.mpr ⟨(List.mem_of_getElem? (i := 1) rfl), (fun _ hx => nomatch hx)⟩) (fun v77 h78 os79 q80 K81 ho82 => ?_)
          obtain ⟨t83, rfl, rfl, F84⟩ := q80
          replace V := V.keep K81 (ninS n_a_b61 nin0)
          replace A70 := A70.keep K81 (ninS (Ne.symm n_b61_b66) nin0)
          show Go k h78 _ _ _ 98 #[.val (.int n), .val (.ref a)] [(.ref b61)]
          refine Go.areturn C d2_98 (Nat.le_of_ble_eq_true rfl) (Nat.le_of_ble_eq_true rfl) rfl rfl [] (fun _ hx => nomatch hx) ?_
          exact ⟨_, _, rfl, rfl, by rw [own_mk5_3 hc1 hc17 hc39 hc67]; exact F84⟩
      · refine Go.new C (w_9 hW) (w_10 hW) (w_11 hW) (fl_0 hW) dv_0 d2_42 (by decide) (by decide) (fun b39 h40 e41 K42 O43 => ?_)
        have n_a_b39 : a ≠ b39 := ne_lt V.lt (ge_of e41)
        replace V := V.k0 K42
        refine Go.dup C d2_45 rfl ?_
        refine Go.iconst C (2 : Int32) d2_46 (by decide) ?_
        refine Go.newarray C (aty := .char) (w_1 hW) d2_47 (by decide) 2 rfl (cap := 2) (by decide) (by decide) (by decide) (by decide) (fun b44 h45 e46 K47 A48 => ?_)
        have A48 : Av Z h45 b44 .char [(.int (0 : Int32)), (.int (0 : Int32))] := A48
        have n_a_b44 : a ≠ b44 := ne_lt V.lt (ge_of e46)
        have n_b39_b44 : b39 ≠ b44 := ne_lt O43.lt (ge_of e46)
        replace V := V.k0 K47
        replace O43 := O43.k0 K47
        refine Go.dup C d2_49 rfl ?_
        refine Go.iconst C (0 : Int32) d2_50 (by decide) ?_
        refine Go.aloadN C d2_51 rfl rfl ?_
        refine Go.iconst C (0 : Int32) d2_52 (by decide) ?_
        refine Go.caload C V 0 (by decide) rfl rfl d2_53 ?_
        refine Go.castore C A48 (List.mem_of_getElem? (i := 0) rfl) 0 (by decide) rfl (Nat.le_of_ble_eq_true rfl) (x' := c0) (own_nar_lat (hl c0 (List.mem_of_getElem? (i := 0) rfl))) (vs' := [(.int c0), (.int (0 : Int32))]) rfl d2_54 (fun h49 K50 A48 => ?_)
        replace V := V.keep K50 (ninS n_a_b44 nin0)
        replace O43 := O43.keep K50 (ninS n_b39_b44 nin0)
        refine Go.dup C d2_55 rfl ?_
        refine Go.iconst C (1 : Int32) d2_56 (by decide) ?_
        refine Go.aloadN C d2_57 rfl rfl ?_
        refine Go.iconst C (1 : Int32) d2_58 (by decide) ?_
        refine Go.caload C V 1 (by decide) rfl rfl d2_59 ?_
        refine Go.castore C A48 (List.mem_of_getElem? (i := 0) rfl) 1 (by decide) rfl (Nat.le_of_ble_eq_true rfl) (x' := c1) (own_nar_lat (hl c1 (List.mem_of_getElem? (i := 1) rfl))) (vs' := [(.int c0), (.int c1)]) rfl d2_60 (fun h51 K52 A48 => ?_)
        replace V := V.keep K52 (ninS n_a_b44 nin0)
        replace O43 := O43.keep K52 (ninS n_b39_b44 nin0)
        have A48 : Av Z h51 b44 .char (List.map Value.int ([c0, c1] : List Int32)) := A48
        refine Go.callI C (z := y_4) (a := b39) (argsL := [(.ref b44)]) (rm3 hW h51 (b39) (b44) ([c0, c1]) O43 A48 (own_sub2 hl) (Nat.le_of_ble_eq_true rfl) (Ne.symm n_b39_b44)) rfl (w_12 hW) (w_13 hW) (w_11 hW) (w_14 hW) d2_61 pd_9 rfl (by decide) rfl (st := [(.ref b39)]) rfl (by decide) (Nat.le_of_ble_eq_true rfl) (by decide) (by decide) (List.forall_mem_cons.mpr ⟨(List.mem_of_getElem? (i := 1) rfl), (fun _ hx => nomatch hx)⟩) (fun v53 h54 os55 q56 K57 ho58 => ?_)
        obtain ⟨t59, rfl, rfl, F60⟩ := q56
        replace V := V.keep K57 (ninS n_a_b39 nin0)
        replace A48 := A48.keep K57 (ninS (Ne.symm n_b39_b44) nin0)
        show Go k h54 _ _ _ 64 #[.val (.int n), .val (.ref a)] [(.ref b39)]
        refine Go.areturn C d2_64 (Nat.le_of_ble_eq_true rfl) (Nat.le_of_ble_eq_true rfl) rfl rfl [] (fun _ hx => nomatch hx) ?_
        exact ⟨_, _, rfl, rfl, by rw [own_mk5_2 hc1 hc17 hc39]; exact F60⟩
    · refine Go.new C (w_9 hW) (w_10 hW) (w_11 hW) (fl_0 hW) dv_0 d2_20 (by decide) (by decide) (fun b19 h20 e21 K22 O23 => ?_)
      have n_a_b19 : a ≠ b19 := ne_lt V.lt (ge_of e21)
      replace V := V.k0 K22
      refine Go.dup C d2_23 rfl ?_
      refine Go.iconst C (1 : Int32) d2_24 (by decide) ?_
      refine Go.newarray C (aty := .char) (w_1 hW) d2_25 (by decide) 1 rfl (cap := 1) (by decide) (by decide) (by decide) (by decide) (fun b24 h25 e26 K27 A28 => ?_)
      have A28 : Av Z h25 b24 .char [(.int (0 : Int32))] := A28
      have n_a_b24 : a ≠ b24 := ne_lt V.lt (ge_of e26)
      have n_b19_b24 : b19 ≠ b24 := ne_lt O23.lt (ge_of e26)
      replace V := V.k0 K27
      replace O23 := O23.k0 K27
      refine Go.dup C d2_27 rfl ?_
      refine Go.iconst C (0 : Int32) d2_28 (by decide) ?_
      refine Go.aloadN C d2_29 rfl rfl ?_
      refine Go.iconst C (0 : Int32) d2_30 (by decide) ?_
      refine Go.caload C V 0 (by decide) rfl rfl d2_31 ?_
      refine Go.castore C A28 (List.mem_of_getElem? (i := 0) rfl) 0 (by decide) rfl (Nat.le_of_ble_eq_true rfl) (x' := c0) (own_nar_lat (hl c0 (List.mem_of_getElem? (i := 0) rfl))) (vs' := [(.int c0)]) rfl d2_32 (fun h29 K30 A28 => ?_)
      replace V := V.keep K30 (ninS n_a_b24 nin0)
      replace O23 := O23.keep K30 (ninS n_b19_b24 nin0)
      have A28 : Av Z h29 b24 .char (List.map Value.int ([c0] : List Int32)) := A28
      refine Go.callI C (z := y_4) (a := b19) (argsL := [(.ref b24)]) (rm3 hW h29 (b19) (b24) ([c0]) O23 A28 (own_sub1 hl) (Nat.le_of_ble_eq_true rfl) (Ne.symm n_b19_b24)) rfl (w_12 hW) (w_13 hW) (w_11 hW) (w_14 hW) d2_33 pd_9 rfl (by decide) rfl (st := [(.ref b19)]) rfl (by decide) (Nat.le_of_ble_eq_true rfl) (by decide) (by decide) (List.forall_mem_cons.mpr ⟨(List.mem_of_getElem? (i := 1) rfl), (fun _ hx => nomatch hx)⟩) (fun v31 h32 os33 q34 K35 ho36 => ?_)
      obtain ⟨t37, rfl, rfl, F38⟩ := q34
      replace V := V.keep K35 (ninS n_a_b19 nin0)
      replace A28 := A28.keep K35 (ninS (Ne.symm n_b19_b24) nin0)
      show Go k h32 _ _ _ 36 #[.val (.int n), .val (.ref a)] [(.ref b19)]
      refine Go.areturn C d2_36 (Nat.le_of_ble_eq_true rfl) (Nat.le_of_ble_eq_true rfl) rfl rfl [] (fun _ hx => nomatch hx) ?_
      exact ⟨_, _, rfl, rfl, by rw [own_mk5_1 hc1 hc17]; exact F38⟩
  · refine Go.new C (w_9 hW) (w_10 hW) (w_11 hW) (fl_0 hW) dv_0 d2_4 (by decide) (by decide) (fun b1 h2 e3 K4 O5 => ?_)
    have n_a_b1 : a ≠ b1 := ne_lt V.lt (ge_of e3)
    replace V := V.k0 K4
    refine Go.dup C d2_7 rfl ?_
    refine Go.iconst C (0 : Int32) d2_8 (by decide) ?_
    refine Go.newarray C (aty := .char) (w_1 hW) d2_9 (by decide) 0 rfl (cap := 0) (by decide) (by decide) (by decide) (by decide) (fun b6 h7 e8 K9 A10 => ?_)
    have A10 : Av Z h7 b6 .char [] := A10
    have n_a_b6 : a ≠ b6 := ne_lt V.lt (ge_of e8)
    have n_b1_b6 : b1 ≠ b6 := ne_lt O5.lt (ge_of e8)
    replace V := V.k0 K9
    replace O5 := O5.k0 K9
    have A10 : Av Z h7 b6 .char (List.map Value.int ([] : List Int32)) := A10
    refine Go.callI C (z := y_4) (a := b1) (argsL := [(.ref b6)]) (rm3 hW h7 (b1) (b6) ([]) O5 A10 (own_sub0 hl) (Nat.le_of_ble_eq_true rfl) (Ne.symm n_b1_b6)) rfl (w_12 hW) (w_13 hW) (w_11 hW) (w_14 hW) d2_11 pd_9 rfl (by decide) rfl (st := [(.ref b1)]) rfl (by decide) (Nat.le_of_ble_eq_true rfl) (by decide) (by decide) (List.forall_mem_cons.mpr ⟨(List.mem_of_getElem? (i := 1) rfl), (fun _ hx => nomatch hx)⟩) (fun v11 h12 os13 q14 K15 ho16 => ?_)
    obtain ⟨t17, rfl, rfl, F18⟩ := q14
    replace V := V.keep K15 (ninS n_a_b1 nin0)
    replace A10 := A10.keep K15 (ninS (Ne.symm n_b1_b6) nin0)
    show Go k h12 _ _ _ 14 #[.val (.int n), .val (.ref a)] [(.ref b1)]
    refine Go.areturn C d2_14 (Nat.le_of_ble_eq_true rfl) (Nat.le_of_ble_eq_true rfl) rfl rfl [] (fun _ hx => nomatch hx) ?_
    exact ⟨_, _, rfl, rfl, by rw [own_mk5_0 hc1]; exact F18⟩
def Q13 (Z : State) (h : Heap)  : QT := fun v h' os' => (v = some (.int (1 : Int32))) ∧ (os' = []) ∧ (h = h')
set_option maxRecDepth 65536 in
set_option maxHeartbeats 40000000 in
theorem rm13 {l : Launch} {Z : State} {a0 : Array Value} (hW : W0 Z a0) (h : Heap)  :
    Con l Z own_EL true y_14 jdk_43_method_4_code 1 (some .boolean) ({ frames := 0, cells := 0, slots := 0, locals := 0 } : Room) [] #[(.int (46 : Int32))] h [] (Q13 Z h ) := by
  refine Con.intro (a0 := a0) (Ls := #[.val (.int (46 : Int32))]) (by decide +kernel) (own_ew hW) (fun m => by first | (simp [entryFrame, mkF, argsToLocals, Value.category]; done) | rfl) ?_
  intro k C
  refine Go.iloadN C d13_0 rfl ?_
  refine Go.iflt C d13_1 (fun hc => absurd hc (by decide)) (fun _ => ?_)
  refine Go.iloadN C d13_4 rfl ?_
  refine Go.sipush C (255 : Int32) d13_5 (by decide) ?_
  refine Go.icmpgt C d13_8 (fun hc => absurd hc (by decide)) (fun _ => ?_)
  refine Go.iconst C (1 : Int32) d13_11 (by decide) ?_
  refine Go.goto C d13_12 ?_
  refine Go.ireturn C d13_16 (Nat.le_of_ble_eq_true rfl) (Nat.le_of_ble_eq_true rfl) (by simp) rfl [] (fun _ hx => nomatch hx) ?_
  exact ⟨rfl, rfl, rfl⟩
def Q14 (Z : State) (h : Heap) (p : Int32) (q : Int32) : QT := fun v h' os' => (v = some (.int (if q < p then q else p))) ∧ (os' = []) ∧ (h = h')
set_option maxRecDepth 65536 in
set_option maxHeartbeats 40000000 in
theorem rm14 {l : Launch} {Z : State} {a0 : Array Value} (hW : W0 Z a0) (h : Heap) (p : Int32) (q : Int32) :
    Con l Z own_EL true y_15 jdk_29_method_69_code 2 (some .int) ({ frames := 0, cells := 0, slots := 0, locals := 0 } : Room) [] #[(.int p), (.int q)] h [] (Q14 Z h p q) := by
  refine Con.intro (a0 := a0) (Ls := #[.val (.int p), .val (.int q)]) (Jvm.Free.JP.mathPlain rfl (by decide +kernel)) (own_ew hW) (fun m => by first | (simp [entryFrame, mkF, argsToLocals, Value.category]; done) | rfl) ?_
  intro k C
  refine Go.iloadN C d14_0 rfl ?_
  refine Go.iloadN C d14_1 rfl ?_
  refine Go.icmpgt C d14_2 (fun hc2 => ?_) (fun hc2 => ?_)
  · refine Go.iloadN C d14_9 rfl ?_
    refine Go.ireturn C d14_10 (Nat.le_of_ble_eq_true rfl) (Nat.le_of_ble_eq_true rfl) (by simp) rfl [] (fun _ hx => nomatch hx) ?_
    exact ⟨congrArg (fun z => some (Value.int z)) (if_pos hc2).symm, rfl, rfl⟩
  · refine Go.iloadN C d14_5 rfl ?_
    refine Go.goto C d14_6 ?_
    refine Go.ireturn C d14_10 (Nat.le_of_ble_eq_true rfl) (Nat.le_of_ble_eq_true rfl) (by simp) rfl [] (fun _ hx => nomatch hx) ?_
    exact ⟨congrArg (fun z => some (Value.int z)) (if_neg hc2).symm, rfl, rfl⟩
set_option maxRecDepth 65536 in
set_option maxHeartbeats 40000000 in
theorem own_lp_lio {k : KT} {l : Launch} {Z : State} {a0 : Array Value} (hW : W0 Z a0) {h0 : Heap} {t : Addr} {bs : List Int32} {h : Heap} {QQ : QT}
    (C : Ctx k l y_16 jdk_43_method_27_code 4 (some .int) ({ frames := 1, cells := 0, slots := 0, locals := 13 } : Room) Z a0 own_EL true [] h0 QQ) (V : Av Z h t .byte (List.map Value.int bs)) (hQ : ∀ z : Int32, z = own_lio bs (List.length bs) → QQ (some (.int z)) h []) :
    ∀ (m : Nat), m ≤ bs.length → own_lio bs m = own_lio bs (List.length bs) → Go k h [] 0 0 18 #[.val (.ref t), .val (.int (46 : Int32)), .val (.int ((Int32.ofNat (List.length bs)) - (1 : Int32))), .val (.int (own_off m))] [] := by
  intro m
  induction m with
  | zero =>
    intro hm heq
    refine Go.iloadN C d12_18 rfl ?_
    refine Go.iflt C d12_19 (fun hc19 => ?_) (fun hc19 => absurd (by decide) hc19)
    refine Go.iconst C ((-1) : Int32) d12_38 (by decide) ?_
    refine Go.ireturn C d12_39 (Nat.le_of_ble_eq_true rfl) (Nat.le_of_ble_eq_true rfl) (by simp) rfl [] (fun _ hx => nomatch hx) ?_
    exact hQ _ heq
  | succ m ih =>
    intro hm heq
    have hl := V.lenI
    obtain ⟨b, hb⟩ : ∃ b, bs[m]? = some b := ⟨bs[m]'(by omega), List.getElem?_eq_getElem (by omega)⟩
    refine Go.iloadN C d12_18 rfl ?_
    refine Go.iflt C d12_19 (fun hc19 => absurd hc19 (own_off_nn (by omega))) (fun hc19 => ?_)
    refine Go.aloadN C d12_22 rfl rfl ?_
    refine Go.iloadN C d12_23 rfl ?_
    refine Go.baload C V m (own_off_nn (by omega)) (own_off_nat (by omega)) (by rw [List.getElem?_map, hb]; rfl) d12_24 ?_
    refine Go.iloadN C d12_25 rfl ?_
    refine Go.i2b C d12_26 ?_
    refine Go.eqI (x' := (46 : Int32)) (by decide) ?_
    refine Go.icmpne C d12_27 (fun hc27 => ?_) (fun hc27 => ?_)
    · refine Go.iinc C (own_off m) d12_32 rfl (own_off_dec m) (Ls' := #[.val (.ref t), .val (.int (46 : Int32)), .val (.int ((Int32.ofNat (List.length bs)) - (1 : Int32))), .val (.int (own_off m))]) rfl ?_
      refine Go.goto C d12_35 ?_
      exact ih (by omega) ((own_lio_miss hb hc27).symm.trans heq)
    · refine Go.iloadN C d12_30 rfl ?_
      refine Go.ireturn C d12_31 (Nat.le_of_ble_eq_true rfl) (Nat.le_of_ble_eq_true rfl) (by simp) rfl [] (fun _ hx => nomatch hx) ?_
      exact hQ _ ((own_lio_hit hb hc27).symm.trans heq)
def Q12 (Z : State) (h : Heap) (t : Addr) (bs : List Int32) : QT := fun v h' os' => (v = some (.int (own_lio bs (List.length bs)))) ∧ (os' = []) ∧ (h = h')
set_option maxRecDepth 65536 in
set_option maxHeartbeats 40000000 in
theorem rm12 {l : Launch} {Z : State} {a0 : Array Value} (hW : W0 Z a0) (h : Heap) (t : Addr) (bs : List Int32) (V : Av Z h t .byte (List.map Value.int bs)) :
    Con l Z own_EL true y_16 jdk_43_method_27_code 4 (some .int) ({ frames := 1, cells := 0, slots := 0, locals := 13 } : Room) [] #[(.ref t), (.int (46 : Int32)), (.int ((Int32.ofNat (List.length bs)) - (1 : Int32)))] h [] (Q12 Z h t bs) := by
  refine Con.intro (a0 := a0) (Ls := #[.val (.ref t), .val (.int (46 : Int32)), .val (.int ((Int32.ofNat (List.length bs)) - (1 : Int32))), .unset]) (by decide +kernel) (own_ew hW) (fun m => by first | (simp [entryFrame, mkF, argsToLocals, Value.category]; done) | rfl) ?_
  intro k C
  refine Go.iloadN C d12_0 rfl ?_
  refine Go.callS C (z := y_14) (argsL := [(.int (46 : Int32))]) (rm13 hW h ) (w_64 hW) (w_65 hW) (w_62 hW) (w_66 hW) d12_1 pd_10 rfl (by decide) rfl (st := []) rfl (by decide) (Nat.le_of_ble_eq_true rfl) (by decide) (by decide) ((fun _ hx => nomatch hx)) (fun v1 h2 os3 q4 K5 ho6 => ?_)
  obtain ⟨rfl, rfl, rfl⟩ := q4
  clear K5 ho6
  show Go k h _ _ _ 4 #[.val (.ref t), .val (.int (46 : Int32)), .val (.int ((Int32.ofNat (List.length bs)) - (1 : Int32))), .unset] [(.int (1 : Int32))]
  refine Go.ifne C d12_4 (fun _ => ?_) (fun hc => absurd hc (by decide)) 
  refine Go.iloadN C d12_9 rfl ?_
  refine Go.aloadN C d12_10 rfl rfl ?_
  refine Go.arraylength C V (Int32.ofNat (List.length bs)) (by rw [List.length_map]) d12_11 ?_
  refine Go.iconst C (1 : Int32) d12_12 (by decide) ?_
  refine Go.isub C d12_13 ?_
  refine Go.callS C (z := y_15) (argsL := [(.int ((Int32.ofNat (List.length bs)) - (1 : Int32))), (.int ((Int32.ofNat (List.length bs)) - (1 : Int32)))]) (rm14 hW h (((Int32.ofNat (List.length bs)) - (1 : Int32))) (((Int32.ofNat (List.length bs)) - (1 : Int32)))) (w_67 hW) (w_68 hW) (w_69 hW) (w_70 hW) d12_14 pd_11 rfl (by decide) rfl (st := []) rfl (by decide) (Nat.le_of_ble_eq_true rfl) (by decide) (by decide) ((fun _ hx => nomatch hx)) (fun v7 h8 os9 q10 K11 ho12 => ?_)
  obtain ⟨rfl, rfl, rfl⟩ := q10
  clear K11 ho12
  show Go k h _ _ _ 17 #[.val (.ref t), .val (.int (46 : Int32)), .val (.int ((Int32.ofNat (List.length bs)) - (1 : Int32))), .unset] [(.int (if ((Int32.ofNat (List.length bs)) - (1 : Int32)) < ((Int32.ofNat (List.length bs)) - (1 : Int32)) then ((Int32.ofNat (List.length bs)) - (1 : Int32)) else ((Int32.ofNat (List.length bs)) - (1 : Int32))))]
  refine Go.eqI (x' := (own_off (List.length bs))) (ite_self _) ?_
  refine Go.istoreN C d12_17 (Ls' := #[.val (.ref t), .val (.int (46 : Int32)), .val (.int ((Int32.ofNat (List.length bs)) - (1 : Int32))), .val (.int (own_off (List.length bs)))]) rfl ?_
  exact own_lp_lio hW C V (fun z e => ⟨congrArg (fun z => some (Value.int z)) e, rfl, rfl⟩) (List.length bs) (Nat.le_refl _) rfl
def Q10 (Z : State) (h : Heap) (a : Addr) (ta : Addr) (xs : List Int32) : QT := fun v h' os' => (v = some (.int (own_lio xs (List.length xs)))) ∧ (os' = []) ∧ (h = h')
set_option maxRecDepth 65536 in
set_option maxHeartbeats 40000000 in
theorem rm10 {l : Launch} {Z : State} {a0 : Array Value} (hW : W0 Z a0) (h : Heap) (a : Addr) (ta : Addr) (xs : List Int32) (S : Str Z h a ta xs) :
    Con l Z own_EL true y_17 jdk_42_method_83_code 3 (some .int) ({ frames := 2, cells := 0, slots := 0, locals := 28 } : Room) [] #[(.ref a), (.int (46 : Int32)), (.int ((Int32.ofNat (List.length xs)) - (1 : Int32)))] h [] (Q10 Z h a ta xs) := by
  refine Con.intro (a0 := a0) (Ls := #[.val (.ref a), .val (.int (46 : Int32)), .val (.int ((Int32.ofNat (List.length xs)) - (1 : Int32)))]) (by decide +kernel) (own_ew hW) (fun m => by first | (simp [entryFrame, mkF, argsToLocals, Value.category]; done) | rfl) ?_
  intro k C
  have SV := S.2
  refine Go.aloadN C d10_0 rfl rfl ?_
  refine Go.callV C (z := y_5) (zr := y_5) (a := a) (argsL := []) (rm11 hW h (a) (ta) (xs) S) S.exa (w_55 hW) (w_56 hW) (fun hz => notFace_of_selects (args := #[]) (mvT hz (w_58 hW))) (w_58 hW) (w_57 hW) (w_11 hW) (w_59 hW) d10_1 pd_6 rfl (by decide) rfl (st := []) rfl (by decide) (Nat.le_of_ble_eq_true rfl) (by decide) (by decide) ((fun _ hx => nomatch hx)) (fun v1 h2 os3 q4 K5 ho6 => ?_)
  obtain ⟨rfl, rfl, rfl⟩ := q4
  clear K5 ho6
  show Go k h _ _ _ 4 #[.val (.ref a), .val (.int (46 : Int32)), .val (.int ((Int32.ofNat (List.length xs)) - (1 : Int32)))] [(.int (1 : Int32))]
  refine Go.ifeq C d10_4 (fun hc => absurd hc (by decide)) (fun _ => ?_)
  refine Go.aloadN C d10_7 rfl rfl ?_
  refine Go.getF C S.1 0 rfl rfl (host := "") (Or.inl (w_28 hW)) Via.refl d10_8 ?_
  refine Go.iloadN C d10_11 rfl ?_
  refine Go.iloadN C d10_12 rfl ?_
  refine Go.callS C (z := y_16) (argsL := [(.ref ta), (.int (46 : Int32)), (.int ((Int32.ofNat (List.length xs)) - (1 : Int32)))]) (rm12 hW h (ta) (xs) SV) (w_60 hW) (w_61 hW) (w_62 hW) (w_63 hW) d10_13 pd_12 rfl (by decide) rfl (st := []) rfl (by decide) (Nat.le_of_ble_eq_true rfl) (by decide) (by decide) ((fun _ hx => nomatch hx)) (fun v7 h8 os9 q10 K11 ho12 => ?_)
  obtain ⟨rfl, rfl, rfl⟩ := q10
  clear K11 ho12
  show Go k h _ _ _ 16 #[.val (.ref a), .val (.int (46 : Int32)), .val (.int ((Int32.ofNat (List.length xs)) - (1 : Int32)))] [(.int (own_lio xs (List.length xs)))]
  refine Go.goto C d10_16 ?_
  refine Go.ireturn C d10_28 (Nat.le_of_ble_eq_true rfl) (Nat.le_of_ble_eq_true rfl) (by simp) rfl [] (fun _ hx => nomatch hx) ?_
  exact ⟨rfl, rfl, rfl⟩
def Q7 (Z : State) (h : Heap) (a : Addr) (ta : Addr) (xs : List Int32) : QT := fun v h' os' => (v = some (.int (own_lio xs (List.length xs)))) ∧ (os' = []) ∧ (h = h')
set_option maxRecDepth 65536 in
set_option maxHeartbeats 40000000 in
theorem rm7 {l : Launch} {Z : State} {a0 : Array Value} (hW : W0 Z a0) (h : Heap) (a : Addr) (ta : Addr) (xs : List Int32) (S : Str Z h a ta xs) :
    Con l Z own_EL true y_18 jdk_42_method_82_code 2 (some .int) ({ frames := 3, cells := 0, slots := 0, locals := 42 } : Room) [] #[(.ref a), (.int (46 : Int32))] h [] (Q7 Z h a ta xs) := by
  refine Con.intro (a0 := a0) (Ls := #[.val (.ref a), .val (.int (46 : Int32))]) (by decide +kernel) (own_ew hW) (fun m => by first | (simp [entryFrame, mkF, argsToLocals, Value.category]; done) | rfl) ?_
  intro k C
  refine Go.aloadN C d7_0 rfl rfl ?_
  refine Go.iloadN C d7_1 rfl ?_
  refine Go.aloadN C d7_2 rfl rfl ?_
  refine Go.callV C (z := y_11) (zr := y_11) (a := a) (argsL := []) (rm8 hW h (a) (ta) (xs) S) S.exa (w_39 hW) (w_40 hW) (fun hz => notFace_of_selects (args := #[]) (mvT hz (w_42 hW))) (w_42 hW) (w_41 hW) (w_11 hW) (w_43 hW) d7_3 pd_13 rfl (by decide) rfl (st := [(.int (46 : Int32)), (.ref a)]) rfl (by decide) (Nat.le_of_ble_eq_true rfl) (by decide) (by decide) ((fun _ hx => nomatch hx)) (fun v1 h2 os3 q4 K5 ho6 => ?_)
  obtain ⟨rfl, rfl, rfl⟩ := q4
  clear K5 ho6
  show Go k h _ _ _ 6 #[.val (.ref a), .val (.int (46 : Int32))] [(.int (Int32.ofNat (List.length xs))), (.int (46 : Int32)), (.ref a)]
  refine Go.iconst C (1 : Int32) d7_6 (by decide) ?_
  refine Go.isub C d7_7 ?_
  refine Go.callV C (z := y_17) (zr := y_17) (a := a) (argsL := [(.int (46 : Int32)), (.int ((Int32.ofNat (List.length xs)) - (1 : Int32)))]) (rm10 hW h (a) (ta) (xs) S) S.exa (w_50 hW) (w_51 hW) (fun hz => notFace_of_selects (args := #[]) (mvT hz (w_53 hW))) (w_53 hW) (w_52 hW) (w_11 hW) (w_54 hW) d7_8 pd_11 rfl (by decide) rfl (st := []) rfl (by decide) (Nat.le_of_ble_eq_true rfl) (by decide) (by decide) ((fun _ hx => nomatch hx)) (fun v7 h8 os9 q10 K11 ho12 => ?_)
  obtain ⟨rfl, rfl, rfl⟩ := q10
  clear K11 ho12
  show Go k h _ _ _ 11 #[.val (.ref a), .val (.int (46 : Int32))] [(.int (own_lio xs (List.length xs)))]
  refine Go.ireturn C d7_11 (Nat.le_of_ble_eq_true rfl) (Nat.le_of_ble_eq_true rfl) (by simp) rfl [] (fun _ hx => nomatch hx) ?_
  exact ⟨rfl, rfl, rfl⟩
def Q26 (Z : State) (h : Heap) (p : Int32) (q : Int32) : QT := fun v h' os' => (v = none) ∧ (os' = []) ∧ (h = h')
set_option maxRecDepth 65536 in
set_option maxHeartbeats 40000000 in
theorem rm26 {l : Launch} {Z : State} {a0 : Array Value} (hW : W0 Z a0) (h : Heap) (p : Int32) (q : Int32) (hpq : ¬ q < p) :
    Con l Z own_EL true y_19 jdk_65_method_131_code 2 none ({ frames := 0, cells := 0, slots := 0, locals := 0 } : Room) [] #[(.int p), (.int q)] h [] (Q26 Z h p q) := by
  refine Con.intro (a0 := a0) (Ls := #[.val (.int p), .val (.int q)]) (by decide +kernel) (own_ew hW) (fun m => by first | (simp [entryFrame, mkF, argsToLocals, Value.category]; done) | rfl) ?_
  intro k C
  refine Go.iloadN C d26_0 rfl ?_
  refine Go.iloadN C d26_1 rfl ?_
  refine Go.icmpge C d26_2 (fun hc2 => ?_) (fun hc2 => absurd hc2 hpq)
  refine Go.retV C d26_37 (Nat.le_of_ble_eq_true rfl) (Nat.le_of_ble_eq_true rfl) [] (fun _ hx => nomatch hx) ?_
  exact ⟨rfl, rfl, rfl⟩
def Q25 (Z : State) (h : Heap) (t : Addr) (bs : List Int32) (j : Nat) : QT := fun v h' os' => ∃ b : Addr, (v = some (.ref b)) ∧ (os' = [b]) ∧ (Av Z h' b .byte (List.map Value.int (List.drop j bs)))
set_option maxRecDepth 65536 in
set_option maxHeartbeats 40000000 in
theorem rm25 {l : Launch} {Z : State} {a0 : Array Value} (hW : W0 Z a0) (h : Heap) (t : Addr) (bs : List Int32) (j : Nat) (V : Av Z h t .byte (List.map Value.int bs)) (hj : j ≤ (List.length bs)) (hcap : (List.length bs) ≤ 5) :
    Con l Z own_EL true y_20 jdk_65_method_133_code 5 (some (.array .byte)) ({ frames := 1, cells := 1, slots := 5, locals := 40 } : Room) [] #[(.ref t), (.int (Int32.ofNat j)), (.int (Int32.ofNat (List.length bs)))] h [] (Q25 Z h t bs j) := by
  refine Con.intro (a0 := a0) (Ls := #[.val (.ref t), .val (.int (Int32.ofNat j)), .val (.int (Int32.ofNat (List.length bs))), .unset, .unset]) (by decide +kernel) (own_ew hW) (fun m => by first | (simp [entryFrame, mkF, argsToLocals, Value.category]; done) | rfl) ?_
  intro k C
  have hl := V.lenI
  refine Go.iloadN C d25_0 rfl ?_
  refine Go.iloadN C d25_1 rfl ?_
  refine Go.callS C (z := y_19) (argsL := [(.int (Int32.ofNat j)), (.int (Int32.ofNat (List.length bs)))]) (rm26 hW h ((Int32.ofNat j)) ((Int32.ofNat (List.length bs))) (by rw [nI_lt hl (by omega)]; omega)) (w_116 hW) (w_117 hW) (w_111 hW) (w_118 hW) d25_2 pd_5 rfl (by decide) rfl (st := []) rfl (by decide) (Nat.le_of_ble_eq_true rfl) (by decide) (by decide) ((fun _ hx => nomatch hx)) (fun v1 h2 os3 q4 K5 ho6 => ?_)
  obtain ⟨rfl, rfl, rfl⟩ := q4
  clear K5 ho6
  show Go k h _ _ _ 5 #[.val (.ref t), .val (.int (Int32.ofNat j)), .val (.int (Int32.ofNat (List.length bs))), .unset, .unset] []
  refine Go.iloadN C d25_5 rfl ?_
  refine Go.iloadN C d25_6 rfl ?_
  refine Go.isub C d25_7 ?_
  refine Go.eqI (x' := (Int32.ofNat ((List.length bs) - j))) (own_subn hj) ?_
  refine Go.istoreN C d25_8 (Ls' := #[.val (.ref t), .val (.int (Int32.ofNat j)), .val (.int (Int32.ofNat (List.length bs))), .val (.int (Int32.ofNat ((List.length bs) - j))), .unset]) rfl ?_
  refine Go.iloadN C d25_9 rfl ?_
  refine Go.newarray C (aty := .byte) (w_23 hW) d25_10 (nI_nn (by omega)) ((List.length bs) - j) (nI_nat (by omega)) (cap := 5) (by omega) (by decide) (by decide) (by decide) (fun b7 h8 e9 K10 A11 => ?_)
  have A11 : Av Z h8 b7 .byte (List.replicate ((List.length bs) - j) (.int (0 : Int32))) := A11
  have ge_b7 : h.size ≤ b7 := Nat.le_trans (Nat.le_refl _) (ge_of e9)
  have n_t_b7 : t ≠ b7 := ne_lt V.lt (ge_of e9)
  replace V := V.k0 K10
  have l_h8 : h.size ≤ h8.size := Nat.le_trans (Nat.le_refl _) K10.1
  refine Go.astore C d25_12 rfl (Ls' := #[.val (.ref t), .val (.int (Int32.ofNat j)), .val (.int (Int32.ofNat (List.length bs))), .val (.int (Int32.ofNat ((List.length bs) - j))), .val (.ref b7)]) rfl ?_
  refine Go.aloadN C d25_14 rfl rfl ?_
  refine Go.iloadN C d25_15 rfl ?_
  refine Go.aload C d25_16 rfl rfl ?_
  refine Go.iconst C (0 : Int32) d25_18 (by decide) ?_
  refine Go.aloadN C d25_19 rfl rfl ?_
  refine Go.arraylength C V (Int32.ofNat (List.length bs)) (by rw [List.length_map]) d25_20 ?_
  refine Go.iloadN C d25_21 rfl ?_
  refine Go.isub C d25_22 ?_
  refine Go.eqI (x' := (Int32.ofNat ((List.length bs) - j))) (own_subn hj) ?_
  refine Go.iloadN C d25_23 rfl ?_
  refine Go.callS C (z := y_15) (argsL := [(.int (Int32.ofNat ((List.length bs) - j))), (.int (Int32.ofNat ((List.length bs) - j)))]) (rm14 hW h8 ((Int32.ofNat ((List.length bs) - j))) ((Int32.ofNat ((List.length bs) - j)))) (w_119 hW) (w_68 hW) (w_69 hW) (w_70 hW) d25_24 pd_11 rfl (by decide) rfl (st := [(.int (0 : Int32)), (.ref b7), (.int (Int32.ofNat j)), (.ref t)]) rfl (by decide) (Nat.le_of_ble_eq_true rfl) (by decide) (by decide) ((fun _ hx => nomatch hx)) (fun v12 h13 os14 q15 K16 ho17 => ?_)
  obtain ⟨rfl, rfl, rfl⟩ := q15
  clear K16 ho17
  show Go k h8 _ _ _ 27 #[.val (.ref t), .val (.int (Int32.ofNat j)), .val (.int (Int32.ofNat (List.length bs))), .val (.int (Int32.ofNat ((List.length bs) - j))), .val (.ref b7)] [(.int (if (Int32.ofNat ((List.length bs) - j)) < (Int32.ofNat ((List.length bs) - j)) then (Int32.ofNat ((List.length bs) - j)) else (Int32.ofNat ((List.length bs) - j)))), (.int (0 : Int32)), (.ref b7), (.int (Int32.ofNat j)), (.ref t)]
  refine Go.eqI (x' := (Int32.ofNat ((List.length bs) - j))) (ite_self _) ?_
  refine Go.arraycopy C V A11 (List.mem_of_getElem? (i := 0) rfl) rfl (w_120 hW) (w_123 hW) (w_121 hW) (w_122 hW) (nI_nn (by omega)) (by decide) (nI_nn (by omega)) j 0 ((List.length bs) - j) (nI_nat (by omega)) rfl (nI_nat (by omega)) (by rw [List.length_map]; omega) (by rw [List.length_replicate]; omega) (vd' := (List.map Value.int (List.drop j bs))) (own_cpd hj) d25_27 rfl (by decide) (Nat.le_of_ble_eq_true rfl) (fun h18 K19 A11 => ?_)
  replace V := V.keep K19 (ninS n_t_b7 nin0)
  have l_h18 : h.size ≤ h18.size := Nat.le_trans l_h8 K19.1
  refine Go.aload C d25_30 rfl rfl ?_
  refine Go.areturn C d25_32 (Nat.le_of_ble_eq_true rfl) (Nat.le_of_ble_eq_true rfl) rfl rfl [b7] (List.forall_mem_cons.mpr ⟨⟨(List.mem_of_getElem? (i := 0) rfl), ge_b7⟩, (fun _ hx => nomatch hx)⟩) ?_
  exact ⟨_, rfl, rfl, A11⟩
def Q24 (Z : State) (h : Heap) (t : Addr) (bs : List Int32) (j : Nat) : QT := fun v h' os' => ∃ b : Addr, (v = some (.ref b)) ∧ (os' = [b]) ∧ (Av Z h' b .byte (List.map Value.int (List.drop j bs)))
set_option maxRecDepth 65536 in
set_option maxHeartbeats 40000000 in
theorem rm24 {l : Launch} {Z : State} {a0 : Array Value} (hW : W0 Z a0) (h : Heap) (t : Addr) (bs : List Int32) (j : Nat) (V : Av Z h t .byte (List.map Value.int bs)) (hj : j ≤ (List.length bs)) (hj0 : 0 < j) (hcap : (List.length bs) ≤ 5) :
    Con l Z own_EL true y_21 jdk_65_method_132_code 3 (some (.array .byte)) ({ frames := 2, cells := 1, slots := 5, locals := 60 } : Room) [] #[(.ref t), (.int (Int32.ofNat j)), (.int (Int32.ofNat (List.length bs)))] h [] (Q24 Z h t bs j) := by
  refine Con.intro (a0 := a0) (Ls := #[.val (.ref t), .val (.int (Int32.ofNat j)), .val (.int (Int32.ofNat (List.length bs)))]) (by decide +kernel) (own_ew hW) (fun m => by first | (simp [entryFrame, mkF, argsToLocals, Value.category]; done) | rfl) ?_
  intro k C
  have hl := V.lenI
  refine Go.iloadN C d24_0 rfl ?_
  refine Go.ifne C d24_1 (fun hc1 => ?_) (fun hc1 => absurd hc1 (own_ofn0 hj0 (by omega)))
  refine Go.aloadN C d24_10 rfl rfl ?_
  refine Go.iloadN C d24_11 rfl ?_
  refine Go.iloadN C d24_12 rfl ?_
  refine Go.callS C (z := y_20) (argsL := [(.ref t), (.int (Int32.ofNat j)), (.int (Int32.ofNat (List.length bs)))]) (rm25 hW h (t) (bs) (j) V (by assumption) (by assumption)) (w_113 hW) (w_114 hW) (w_111 hW) (w_115 hW) d24_13 pd_14 rfl (by decide) rfl (st := []) rfl (by decide) (Nat.le_of_ble_eq_true rfl) (by decide) (by decide) ((fun _ hx => nomatch hx)) (fun v1 h2 os3 q4 K5 ho6 => ?_)
  obtain ⟨b7, rfl, rfl, F8⟩ := q4
  have g_b7 : h.size ≤ b7 := (ho6 _ (List.mem_of_getElem? (i := 0) rfl)).1
  have ge_b7 : h.size ≤ b7 := Nat.le_trans (Nat.le_refl _) g_b7
  have n_t_b7 : t ≠ b7 := ne_lt V.lt g_b7
  replace V := V.k0 K5
  have l_h2 : h.size ≤ h2.size := Nat.le_trans (Nat.le_refl _) K5.1
  show Go k h2 _ _ _ 16 #[.val (.ref t), .val (.int (Int32.ofNat j)), .val (.int (Int32.ofNat (List.length bs)))] [(.ref b7)]
  refine Go.areturn C d24_16 (Nat.le_of_ble_eq_true rfl) (Nat.le_of_ble_eq_true rfl) rfl rfl [b7] (List.forall_mem_cons.mpr ⟨⟨(List.mem_of_getElem? (i := 0) rfl), ge_b7⟩, (fun _ hx => nomatch hx)⟩) ?_
  exact ⟨_, rfl, rfl, F8⟩
def Q27 (Z : State) (h : Heap) (x : Addr) (t : Addr) : QT := fun v h' os' => (v = none) ∧ (os' = []) ∧ (Obj Z h' x "java/lang/String" fStr [(.ref t), (.int (0 : Int32))])
set_option maxRecDepth 65536 in
set_option maxHeartbeats 40000000 in
theorem rm27 {l : Launch} {Z : State} {a0 : Array Value} (hW : W0 Z a0) (h : Heap) (x : Addr) (t : Addr) (O : Obj Z h x "java/lang/String" fStr [.null, (.int (0 : Int32))]) :
    Con l Z own_EL true y_22 jdk_42_method_151_code 3 none ({ frames := 1, cells := 0, slots := 0, locals := 12 } : Room) [] #[(.ref x), (.ref t), (.int (0 : Int32))] h [x] (Q27 Z h x t) := by
  refine Con.intro (a0 := a0) (Ls := #[.val (.ref x), .val (.ref t), .val (.int (0 : Int32))]) (by decide +kernel) (own_ew hW) (fun m => by first | (simp [entryFrame, mkF, argsToLocals, Value.category]; done) | rfl) ?_
  intro k C
  refine Go.aloadN C d27_0 rfl rfl ?_
  refine Go.initO C (w_19 hW) (w_20 hW) (w_21 hW) d27_1 rfl (by decide) (Nat.le_of_ble_eq_true rfl) ?_
  refine Go.aloadN C d27_4 rfl rfl ?_
  refine Go.aloadN C d27_5 rfl rfl ?_
  refine Go.putF C O (List.mem_of_getElem? (i := 0) rfl) 0 rfl (w_28 hW) Via.refl (Or.inr ⟨w_24 hW, rfl, rfl⟩) (w_10 hW) (fl_0 hW) nd_0 (ty := (.array .byte)) (by decide +kernel) (v' := (.ref t)) rfl rfl (vs' := [(.ref t), (.int (0 : Int32))]) rfl d27_6 (fun h1 K2 O => ?_)
  refine Go.aloadN C d27_9 rfl rfl ?_
  refine Go.iloadN C d27_10 rfl ?_
  refine Go.putF C O (List.mem_of_getElem? (i := 0) rfl) 1 rfl (w_29 hW) Via.refl (Or.inr ⟨w_25 hW, rfl, rfl⟩) (w_10 hW) (fl_0 hW) nd_0 (ty := .byte) (by decide +kernel) (v' := (.int (0 : Int32))) rfl rfl (vs' := [(.ref t), (.int (0 : Int32))]) rfl d27_11 (fun h3 K4 O => ?_)
  refine Go.retV C d27_14 (Nat.le_of_ble_eq_true rfl) (Nat.le_of_ble_eq_true rfl) [] (fun _ hx => nomatch hx) ?_
  exact ⟨rfl, rfl, O⟩
def Q23 (Z : State) (h : Heap) (t : Addr) (bs : List Int32) (j : Nat) : QT := fun v h' os' => ∃ r : Addr, ∃ u : Addr, (v = some (.ref r)) ∧ (os' = []) ∧ (Str Z h' r u (List.drop j bs))
set_option maxRecDepth 65536 in
set_option maxHeartbeats 40000000 in
theorem rm23 {l : Launch} {Z : State} {a0 : Array Value} (hW : W0 Z a0) (h : Heap) (t : Addr) (bs : List Int32) (j : Nat) (V : Av Z h t .byte (List.map Value.int bs)) (hj : j ≤ (List.length bs)) (hj0 : 0 < j) (hcap : (List.length bs) ≤ 5) :
    Con l Z own_EL true y_23 jdk_43_method_47_code 3 (some (.object "java/lang/String")) ({ frames := 3, cells := 2, slots := 16, locals := 90 } : Room) [] #[(.ref t), (.int (Int32.ofNat j)), (.int (Int32.ofNat ((List.length bs) - j)))] h [] (Q23 Z h t bs j) := by
  refine Con.intro (a0 := a0) (Ls := #[.val (.ref t), .val (.int (Int32.ofNat j)), .val (.int (Int32.ofNat ((List.length bs) - j)))]) (by decide +kernel) (own_ew hW) (fun m => by first | (simp [entryFrame, mkF, argsToLocals, Value.category]; done) | rfl) ?_
  intro k C
  have hl := V.lenI
  refine Go.iloadN C d23_0 rfl ?_
  refine Go.ifne C d23_1 (fun hc1 => ?_) (fun hc1 => ?_)
  · refine Go.new C (w_108 hW) (w_10 hW) (w_11 hW) (fl_0 hW) dv_0 d23_7 (by decide) (by decide) (fun b6 h7 e8 K9 O10 => ?_)
    have n_t_b6 : t ≠ b6 := ne_lt V.lt (ge_of e8)
    replace V := V.k0 K9
    refine Go.dup C d23_10 rfl ?_
    refine Go.aloadN C d23_11 rfl rfl ?_
    refine Go.iloadN C d23_12 rfl ?_
    refine Go.iloadN C d23_13 rfl ?_
    refine Go.iloadN C d23_14 rfl ?_
    refine Go.iadd C d23_15 ?_
    refine Go.eqI (x' := (Int32.ofNat (List.length bs))) (own_addsub hj) ?_
    refine Go.callS C (z := y_21) (argsL := [(.ref t), (.int (Int32.ofNat j)), (.int (Int32.ofNat (List.length bs)))]) (rm24 hW h7 (t) (bs) (j) V (by assumption) (by assumption) (by assumption)) (w_109 hW) (w_110 hW) (w_111 hW) (w_112 hW) d23_16 pd_14 rfl (by decide) rfl (st := [(.ref b6), (.ref b6)]) rfl (by decide) (Nat.le_of_ble_eq_true rfl) (by decide) (by decide) ((fun _ hx => nomatch hx)) (fun v11 h12 os13 q14 K15 ho16 => ?_)
    obtain ⟨b17, rfl, rfl, F18⟩ := q14
    have g_b17 : h7.size ≤ b17 := (ho16 _ (List.mem_of_getElem? (i := 0) rfl)).1
    have n_t_b17 : t ≠ b17 := ne_lt V.lt g_b17
    have n_b6_b17 : b6 ≠ b17 := ne_lt O10.lt g_b17
    replace V := V.k0 K15
    replace O10 := O10.k0 K15
    show Go k h12 _ _ _ 19 #[.val (.ref t), .val (.int (Int32.ofNat j)), .val (.int (Int32.ofNat ((List.length bs) - j)))] [(.ref b17), (.ref b6), (.ref b6)]
    refine Go.iconst C (0 : Int32) d23_19 (by decide) ?_
    refine Go.callI C (z := y_22) (a := b6) (argsL := [(.ref b17), (.int (0 : Int32))]) (rm27 hW h12 (b6) (b17) O10) rfl (w_124 hW) (w_125 hW) (w_11 hW) (w_126 hW) d23_20 pd_15 rfl (by decide) rfl (st := [(.ref b6)]) rfl (by decide) (Nat.le_of_ble_eq_true rfl) (by decide) (by decide) (List.forall_mem_cons.mpr ⟨(List.mem_of_getElem? (i := 1) rfl), (fun _ hx => nomatch hx)⟩) (fun v19 h20 os21 q22 K23 ho24 => ?_)
    obtain ⟨rfl, rfl, F25⟩ := q22
    replace V := V.keep K23 (ninS n_t_b6 nin0)
    replace F18 := F18.keep K23 (ninS (Ne.symm n_b6_b17) nin0)
    show Go k h20 _ _ _ 23 #[.val (.ref t), .val (.int (Int32.ofNat j)), .val (.int (Int32.ofNat ((List.length bs) - j)))] [(.ref b6)]
    refine Go.areturn C d23_23 (Nat.le_of_ble_eq_true rfl) (Nat.le_of_ble_eq_true rfl) rfl rfl [] (fun _ hx => nomatch hx) ?_
    exact ⟨_, _, rfl, rfl, ⟨F25, F18⟩⟩
  · refine Go.ldcStr C (w_107 hW) (own_sa hW) own_EL_mem_107 (bs := []) own_txt_107 own_tln_107 d23_4 (n := 0) (by decide) (by decide) (by decide) (by decide) (fun a1 t3 h2 K4 F5 nF5 => ?_)
    replace V := V.k0 K4
    refine Go.areturn C d23_6 (Nat.le_of_ble_eq_true rfl) (Nat.le_of_ble_eq_true rfl) rfl rfl [] (fun _ hx => nomatch hx) ?_
    exact ⟨_, _, rfl, rfl, by rw [own_dropall hj hl hc1]; exact F5⟩
def Q22 (Z : State) (h : Heap) (i : Int32) (j : Int32) (n : Int32) (g : Value) : QT := fun v h' os' => (v = some (.int i)) ∧ (os' = []) ∧ (h = h')
set_option maxRecDepth 65536 in
set_option maxHeartbeats 40000000 in
theorem rm22 {l : Launch} {Z : State} {a0 : Array Value} (hW : W0 Z a0) (h : Heap) (i : Int32) (j : Int32) (n : Int32) (g : Value) (hg : g.isRef = true) (h1 : ¬ i < 0) (h2 : ¬ j < i) (h3 : ¬ n < j) :
    Con l Z own_EL true y_24 jdk_41_method_12_code 4 (some .int) ({ frames := 0, cells := 0, slots := 0, locals := 0 } : Room) [] #[(.int i), (.int j), (.int n), g] h [] (Q22 Z h i j n g) := by
  refine Con.intro (a0 := a0) (Ls := #[.val (.int i), .val (.int j), .val (.int n), .val g]) (by decide +kernel) (own_ew hW) (fun m => by simp [entryFrame, mkF, argsToLocals, catI, catJ, catD, catR, catN, cat_ref hg]) ?_
  intro k C
  refine Go.iloadN C d22_0 rfl ?_
  refine Go.iflt C d22_1 (fun hc1 => absurd hc1 h1) (fun hc1 => ?_)
  refine Go.iloadN C d22_4 rfl ?_
  refine Go.iloadN C d22_5 rfl ?_
  refine Go.icmpgt C d22_6 (fun hc6 => absurd hc6 h2) (fun hc6 => ?_)
  refine Go.iloadN C d22_9 rfl ?_
  refine Go.iloadN C d22_10 rfl ?_
  refine Go.icmple C d22_11 (fun hc11 => ?_) (fun hc11 => absurd hc11 h3)
  refine Go.iloadN C d22_22 rfl ?_
  refine Go.ireturn C d22_23 (Nat.le_of_ble_eq_true rfl) (Nat.le_of_ble_eq_true rfl) (by simp) rfl [] (fun _ hx => nomatch hx) ?_
  exact ⟨rfl, rfl, rfl⟩
def Q21 (Z : State) (h : Heap) (i : Int32) (j : Int32) (n : Int32) : QT := fun v h' os' => (v = none) ∧ (os' = []) ∧ (h = h')
set_option maxRecDepth 65536 in
set_option maxHeartbeats 40000000 in
theorem rm21 {l : Launch} {Z : State} {a0 : Array Value} (hW : W0 Z a0) (h : Heap) (i : Int32) (j : Int32) (n : Int32) (h1 : ¬ i < 0) (h2 : ¬ j < i) (h3 : ¬ n < j) :
    Con l Z own_EL true y_25 jdk_42_method_158_code 3 none ({ frames := 1, cells := 0, slots := 0, locals := 15 } : Room) [] #[(.int i), (.int j), (.int n)] h [] (Q21 Z h i j n) := by
  refine Con.intro (a0 := a0) (Ls := #[.val (.int i), .val (.int j), .val (.int n)]) (by decide +kernel) (own_ew hW) (fun m => by first | (simp [entryFrame, mkF, argsToLocals, Value.category]; done) | rfl) ?_
  intro k C
  obtain ⟨sf, Ssf, hsf⟩ := own_sf hW
  refine Go.iloadN C d21_0 rfl ?_
  refine Go.iloadN C d21_1 rfl ?_
  refine Go.iloadN C d21_2 rfl ?_
  refine Go.getS C Ssf (host := "") (Or.inl (w_99 hW)) Via.refl d21_3 ?_
  refine Go.callS C (z := y_24) (argsL := [(.int i), (.int j), (.int n), sf]) (rm22 hW h (i) (j) (n) (sf) hsf h1 h2 h3) (w_101 hW) (w_102 hW) (w_100 hW) (w_103 hW) d21_6 pd_16 rfl (by decide) rfl (st := []) rfl (by decide) (Nat.le_of_ble_eq_true rfl) (by decide) (by decide) ((fun _ hx => nomatch hx)) (fun v1 h2 os3 q4 K5 ho6 => ?_)
  obtain ⟨rfl, rfl, rfl⟩ := q4
  clear K5 ho6
  show Go k h _ _ _ 9 #[.val (.int i), .val (.int j), .val (.int n)] [(.int i)]
  refine Go.pop C d21_9 rfl ?_
  refine Go.retV C d21_10 (Nat.le_of_ble_eq_true rfl) (Nat.le_of_ble_eq_true rfl) [] (fun _ hx => nomatch hx) ?_
  exact ⟨rfl, rfl, rfl⟩
def Q20 (Z : State) (h : Heap) (a : Addr) (ta : Addr) (xs : List Int32) (j : Nat) : QT := fun v h' os' => ∃ r : Addr, ∃ u : Addr, (v = some (.ref r)) ∧ (os' = []) ∧ (Str Z h' r u (List.drop j xs))
set_option maxRecDepth 65536 in
set_option maxHeartbeats 40000000 in
theorem rm20 {l : Launch} {Z : State} {a0 : Array Value} (hW : W0 Z a0) (h : Heap) (a : Addr) (ta : Addr) (xs : List Int32) (j : Nat) (S : Str Z h a ta xs) (hj : j ≤ (List.length xs)) (hj0 : 0 < j) (hcap : (List.length xs) ≤ 5) :
    Con l Z own_EL true y_26 jdk_42_method_92_code 5 (some (.object "java/lang/String")) ({ frames := 4, cells := 2, slots := 16, locals := 130 } : Room) [] #[(.ref a), (.int (Int32.ofNat j)), (.int (Int32.ofNat (List.length xs)))] h [] (Q20 Z h a ta xs j) := by
  refine Con.intro (a0 := a0) (Ls := #[.val (.ref a), .val (.int (Int32.ofNat j)), .val (.int (Int32.ofNat (List.length xs))), .unset, .unset]) (by decide +kernel) (own_ew hW) (fun m => by first | (simp [entryFrame, mkF, argsToLocals, Value.category]; done) | rfl) ?_
  intro k C
  have SV := S.2
  have hl := SV.lenI
  refine Go.aloadN C d20_0 rfl rfl ?_
  refine Go.callV C (z := y_11) (zr := y_11) (a := a) (argsL := []) (rm8 hW h (a) (ta) (xs) S) S.exa (w_39 hW) (w_40 hW) (fun hz => notFace_of_selects (args := #[]) (mvT hz (w_42 hW))) (w_42 hW) (w_41 hW) (w_11 hW) (w_43 hW) d20_1 pd_13 rfl (by decide) rfl (st := []) rfl (by decide) (Nat.le_of_ble_eq_true rfl) (by decide) (by decide) ((fun _ hx => nomatch hx)) (fun v1 h2 os3 q4 K5 ho6 => ?_)
  obtain ⟨rfl, rfl, rfl⟩ := q4
  clear K5 ho6
  show Go k h _ _ _ 4 #[.val (.ref a), .val (.int (Int32.ofNat j)), .val (.int (Int32.ofNat (List.length xs))), .unset, .unset] [(.int (Int32.ofNat (List.length xs)))]
  refine Go.istoreN C d20_4 (Ls' := #[.val (.ref a), .val (.int (Int32.ofNat j)), .val (.int (Int32.ofNat (List.length xs))), .val (.int (Int32.ofNat (List.length xs))), .unset]) rfl ?_
  refine Go.iloadN C d20_5 rfl ?_
  refine Go.iloadN C d20_6 rfl ?_
  refine Go.iloadN C d20_7 rfl ?_
  refine Go.callS C (z := y_25) (argsL := [(.int (Int32.ofNat j)), (.int (Int32.ofNat (List.length xs))), (.int (Int32.ofNat (List.length xs)))]) (rm21 hW h ((Int32.ofNat j)) ((Int32.ofNat (List.length xs))) ((Int32.ofNat (List.length xs))) (nI_nn (by omega)) (by rw [nI_lt hl (by omega)]; omega) (by rw [nI_lt hl hl]; omega)) (w_96 hW) (w_97 hW) (w_11 hW) (w_98 hW) d20_8 pd_17 rfl (by decide) rfl (st := []) rfl (by decide) (Nat.le_of_ble_eq_true rfl) (by decide) (by decide) ((fun _ hx => nomatch hx)) (fun v7 h8 os9 q10 K11 ho12 => ?_)
  obtain ⟨rfl, rfl, rfl⟩ := q10
  clear K11 ho12
  show Go k h _ _ _ 11 #[.val (.ref a), .val (.int (Int32.ofNat j)), .val (.int (Int32.ofNat (List.length xs))), .val (.int (Int32.ofNat (List.length xs))), .unset] []
  refine Go.iloadN C d20_11 rfl ?_
  refine Go.ifne C d20_12 (fun hc12 => ?_) (fun hc12 => absurd hc12 (own_ofn0 hj0 (by omega)))
  refine Go.iloadN C d20_22 rfl ?_
  refine Go.iloadN C d20_23 rfl ?_
  refine Go.isub C d20_24 ?_
  refine Go.eqI (x' := (Int32.ofNat ((List.length xs) - j))) (own_subn hj) ?_
  refine Go.istore C d20_25 (Ls' := #[.val (.ref a), .val (.int (Int32.ofNat j)), .val (.int (Int32.ofNat (List.length xs))), .val (.int (Int32.ofNat (List.length xs))), .val (.int (Int32.ofNat ((List.length xs) - j)))]) rfl ?_
  refine Go.aloadN C d20_27 rfl rfl ?_
  refine Go.callV C (z := y_5) (zr := y_5) (a := a) (argsL := []) (rm11 hW h (a) (ta) (xs) S) S.exa (w_55 hW) (w_56 hW) (fun hz => notFace_of_selects (args := #[]) (mvT hz (w_58 hW))) (w_58 hW) (w_57 hW) (w_11 hW) (w_59 hW) d20_28 pd_6 rfl (by decide) rfl (st := []) rfl (by decide) (Nat.le_of_ble_eq_true rfl) (by decide) (by decide) ((fun _ hx => nomatch hx)) (fun v13 h14 os15 q16 K17 ho18 => ?_)
  obtain ⟨rfl, rfl, rfl⟩ := q16
  clear K17 ho18
  show Go k h _ _ _ 31 #[.val (.ref a), .val (.int (Int32.ofNat j)), .val (.int (Int32.ofNat (List.length xs))), .val (.int (Int32.ofNat (List.length xs))), .val (.int (Int32.ofNat ((List.length xs) - j)))] [(.int (1 : Int32))]
  refine Go.ifeq C d20_31 (fun hc => absurd hc (by decide)) (fun _ => ?_)
  refine Go.aloadN C d20_34 rfl rfl ?_
  refine Go.getF C S.1 0 rfl rfl (host := "") (Or.inl (w_28 hW)) Via.refl d20_35 ?_
  refine Go.iloadN C d20_38 rfl ?_
  refine Go.iload C d20_39 rfl ?_
  refine Go.callS C (z := y_23) (argsL := [(.ref ta), (.int (Int32.ofNat j)), (.int (Int32.ofNat ((List.length xs) - j)))]) (rm23 hW h (ta) (xs) (j) SV hj hj0 hcap) (w_104 hW) (w_105 hW) (w_62 hW) (w_106 hW) d20_41 pd_18 rfl (by decide) rfl (st := []) rfl (by decide) (Nat.le_of_ble_eq_true rfl) (by decide) (by decide) ((fun _ hx => nomatch hx)) (fun v19 h20 os21 q22 K23 ho24 => ?_)
  obtain ⟨r25, u26, rfl, rfl, F27⟩ := q22
  replace S := S.k0 K23
  replace SV := SV.k0 K23
  show Go k h20 _ _ _ 44 #[.val (.ref a), .val (.int (Int32.ofNat j)), .val (.int (Int32.ofNat (List.length xs))), .val (.int (Int32.ofNat (List.length xs))), .val (.int (Int32.ofNat ((List.length xs) - j)))] [(.ref r25)]
  refine Go.goto C d20_44 ?_
  refine Go.areturn C d20_57 (Nat.le_of_ble_eq_true rfl) (Nat.le_of_ble_eq_true rfl) rfl rfl [] (fun _ hx => nomatch hx) ?_
  exact ⟨_, _, rfl, rfl, F27⟩
def Q19 (Z : State) (h : Heap) (a : Addr) (ta : Addr) (xs : List Int32) (j : Nat) : QT := fun v h' os' => ∃ r : Addr, ∃ u : Addr, (v = some (.ref r)) ∧ (os' = []) ∧ (Str Z h' r u (List.drop j xs))
set_option maxRecDepth 65536 in
set_option maxHeartbeats 40000000 in
theorem rm19 {l : Launch} {Z : State} {a0 : Array Value} (hW : W0 Z a0) (h : Heap) (a : Addr) (ta : Addr) (xs : List Int32) (j : Nat) (S : Str Z h a ta xs) (hj : j ≤ (List.length xs)) (hj0 : 0 < j) (hcap : (List.length xs) ≤ 5) :
    Con l Z own_EL true y_27 jdk_42_method_91_code 2 (some (.object "java/lang/String")) ({ frames := 5, cells := 2, slots := 16, locals := 150 } : Room) [] #[(.ref a), (.int (Int32.ofNat j))] h [] (Q19 Z h a ta xs j) := by
  refine Con.intro (a0 := a0) (Ls := #[.val (.ref a), .val (.int (Int32.ofNat j))]) (by decide +kernel) (own_ew hW) (fun m => by first | (simp [entryFrame, mkF, argsToLocals, Value.category]; done) | rfl) ?_
  intro k C
  refine Go.aloadN C d19_0 rfl rfl ?_
  refine Go.iloadN C d19_1 rfl ?_
  refine Go.aloadN C d19_2 rfl rfl ?_
  refine Go.callV C (z := y_11) (zr := y_11) (a := a) (argsL := []) (rm8 hW h (a) (ta) (xs) S) S.exa (w_39 hW) (w_40 hW) (fun hz => notFace_of_selects (args := #[]) (mvT hz (w_42 hW))) (w_42 hW) (w_41 hW) (w_11 hW) (w_43 hW) d19_3 pd_13 rfl (by decide) rfl (st := [(.int (Int32.ofNat j)), (.ref a)]) rfl (by decide) (Nat.le_of_ble_eq_true rfl) (by decide) (by decide) ((fun _ hx => nomatch hx)) (fun v1 h2 os3 q4 K5 ho6 => ?_)
  obtain ⟨rfl, rfl, rfl⟩ := q4
  clear K5 ho6
  show Go k h _ _ _ 6 #[.val (.ref a), .val (.int (Int32.ofNat j))] [(.int (Int32.ofNat (List.length xs))), (.int (Int32.ofNat j)), (.ref a)]
  refine Go.callV C (z := y_26) (zr := y_26) (a := a) (argsL := [(.int (Int32.ofNat j)), (.int (Int32.ofNat (List.length xs)))]) (rm20 hW h (a) (ta) (xs) (j) S hj hj0 hcap) S.exa (w_91 hW) (w_92 hW) (fun hz => notFace_of_selects (args := #[]) (mvT hz (w_94 hW))) (w_94 hW) (w_93 hW) (w_11 hW) (w_95 hW) d19_6 pd_19 rfl (by decide) rfl (st := []) rfl (by decide) (Nat.le_of_ble_eq_true rfl) (by decide) (by decide) ((fun _ hx => nomatch hx)) (fun v7 h8 os9 q10 K11 ho12 => ?_)
  obtain ⟨r13, u14, rfl, rfl, F15⟩ := q10
  replace S := S.k0 K11
  show Go k h8 _ _ _ 9 #[.val (.ref a), .val (.int (Int32.ofNat j))] [(.ref r13)]
  refine Go.areturn C d19_9 (Nat.le_of_ble_eq_true rfl) (Nat.le_of_ble_eq_true rfl) rfl rfl [] (fun _ hx => nomatch hx) ?_
  exact ⟨_, _, rfl, rfl, F15⟩
def Q6 (Z : State) (h : Heap) (a : Addr) (ta : Addr) (xs : List Int32) : QT := fun v h' os' => ∃ r : Addr, ∃ u : Addr, (v = some (.ref r)) ∧ (os' = []) ∧ (Str Z h' r u (own_ext xs))
set_option maxRecDepth 65536 in
set_option maxHeartbeats 40000000 in
theorem rm6 {l : Launch} {Z : State} {a0 : Array Value} (hW : W0 Z a0) (h : Heap) (a : Addr) (ta : Addr) (xs : List Int32) (S : Str Z h a ta xs) (hcap : (List.length xs) ≤ 5) :
    Con l Z own_EL true y_28 prog_16_method_3_code 2 (some (.object "java/lang/String")) ({ frames := 6, cells := 2, slots := 16, locals := 170 } : Room) [] #[(.ref a)] h [] (Q6 Z h a ta xs) := by
  refine Con.intro (a0 := a0) (Ls := #[.val (.ref a), .unset]) (by decide +kernel) (own_ew hW) (fun m => by first | (simp [entryFrame, mkF, argsToLocals, Value.category]; done) | rfl) ?_
  intro k C
  refine Go.aloadN C d6_0 rfl rfl ?_
  refine Go.bipush C (46 : Int32) d6_1 (by decide) ?_
  refine Go.callV C (z := y_18) (zr := y_18) (a := a) (argsL := [(.int (46 : Int32))]) (rm7 hW h (a) (ta) (xs) S) S.exa (w_34 hW) (w_35 hW) (fun hz => notFace_of_selects (args := #[]) (mvT hz (w_37 hW))) (w_37 hW) (w_36 hW) (w_11 hW) (w_38 hW) d6_3 pd_20 rfl (by decide) rfl (st := []) rfl (by decide) (Nat.le_of_ble_eq_true rfl) (by decide) (by decide) ((fun _ hx => nomatch hx)) (fun v1 h2 os3 q4 K5 ho6 => ?_)
  obtain ⟨rfl, rfl, rfl⟩ := q4
  clear K5 ho6
  show Go k h _ _ _ 6 #[.val (.ref a), .unset] [(.int (own_lio xs (List.length xs)))]
  refine Go.istoreN C d6_6 (Ls' := #[.val (.ref a), .val (.int (own_lio xs (List.length xs)))]) rfl ?_
  refine Go.iloadN C d6_7 rfl ?_
  refine Go.ifgt C d6_8 (fun hc8 => ?_) (fun hc8 => ?_)
  · obtain ⟨d, hd1, hd2, hd3⟩ := own_lio_pos hc8
    refine Go.aloadN C d6_16 rfl rfl ?_
    refine Go.iloadN C d6_17 rfl ?_
    refine Go.iconst C (1 : Int32) d6_18 (by decide) ?_
    refine Go.iadd C d6_19 ?_
    refine Go.eqI (x' := (Int32.ofNat (d + 1))) (by rw [hd1]; exact (Int32.ofNat_add d 1).symm) ?_
    refine Go.callV C (z := y_27) (zr := y_27) (a := a) (argsL := [(.int (Int32.ofNat (d + 1)))]) (rm19 hW h (a) (ta) (xs) ((d + 1)) S (by omega) (by omega) hcap) S.exa (w_86 hW) (w_87 hW) (fun hz => notFace_of_selects (args := #[]) (mvT hz (w_89 hW))) (w_89 hW) (w_88 hW) (w_11 hW) (w_90 hW) d6_20 pd_21 rfl (by decide) rfl (st := []) rfl (by decide) (Nat.le_of_ble_eq_true rfl) (by decide) (by decide) ((fun _ hx => nomatch hx)) (fun v12 h13 os14 q15 K16 ho17 => ?_)
    obtain ⟨r18, u19, rfl, rfl, F20⟩ := q15
    replace S := S.k0 K16
    show Go k h13 _ _ _ 23 #[.val (.ref a), .val (.int (own_lio xs (List.length xs)))] [(.ref r18)]
    refine Go.areturn C d6_23 (Nat.le_of_ble_eq_true rfl) (Nat.le_of_ble_eq_true rfl) rfl rfl [] (fun _ hx => nomatch hx) ?_
    exact ⟨_, _, rfl, rfl, by rw [own_ext1 hc8 hd1 (by omega)]; exact F20⟩
  · refine Go.ldcStr C (w_71 hW) (own_sa hW) own_EL_mem_71 (bs := []) own_txt_71 own_tln_71 d6_11 (n := 0) (by decide) (by decide) (by decide) (by decide) (fun a7 t9 h8 K10 F11 nF11 => ?_)
    replace S := S.k0 K10
    refine Go.goto C d6_13 ?_
    refine Go.areturn C d6_23 (Nat.le_of_ble_eq_true rfl) (Nat.le_of_ble_eq_true rfl) rfl rfl [] (fun _ hx => nomatch hx) ?_
    exact ⟨_, _, rfl, rfl, by rw [own_ext0 hc8]; exact F11⟩
def Q15 (Z : State) (h : Heap) (r : Addr) (u : Addr) (ys : List Int32) (a : Addr) (c0 : Int32) (c1 : Int32) (c2 : Int32) (c3 : Int32) (c4 : Int32) (d : Int32) (kk : Int32) (e : Int32) : QT := fun v h' os' => (v = some (.int (1 : Int32))) ∧ (os' = []) ∧ (h = h')
set_option maxRecDepth 65536 in
set_option maxHeartbeats 40000000 in
theorem rm15 {l : Launch} {Z : State} {a0 : Array Value} (hW : W0 Z a0) (h : Heap) (r : Addr) (u : Addr) (ys : List Int32) (a : Addr) (c0 : Int32) (c1 : Int32) (c2 : Int32) (c3 : Int32) (c4 : Int32) (d : Int32) (kk : Int32) (e : Int32) (S : Str Z h r u ys) (V : Av Z h a .char [(.int c0), (.int c1), (.int c2), (.int c3), (.int c4)]) (hq : own_at ys [c0, c1, c2, c3, c4] d kk e) :
    Con l Z own_EL true y_29 method_5_code 5 (some .boolean) ({ frames := 4, cells := 0, slots := 0, locals := 53 } : Room) [] #[(.ref r), (.ref a), (.int d), (.int kk), (.int e)] h [] (Q15 Z h r u ys a c0 c1 c2 c3 c4 d kk e) := by
  refine Con.intro (a0 := a0) (Ls := #[.val (.ref r), .val (.ref a), .val (.int d), .val (.int kk), .val (.int e)]) (by decide +kernel) (own_ew hW) (fun m => by first | (simp [entryFrame, mkF, argsToLocals, Value.category]; done) | rfl) ?_
  intro k C
  refine Go.iloadN C d15_0 rfl ?_
  refine Go.iload C d15_1 rfl ?_
  refine Go.icmpge C d15_3 (fun hc3 => ?_) (fun hc3 => ?_)
  · refine Go.iconst C (1 : Int32) d15_21 (by decide) ?_
    refine Go.goto C d15_22 ?_
    refine Go.ireturn C d15_26 (Nat.le_of_ble_eq_true rfl) (Nat.le_of_ble_eq_true rfl) (by simp) rfl [] (fun _ hx => nomatch hx) ?_
    exact ⟨rfl, rfl, rfl⟩
  · obtain ⟨j, b, i, q1, q2, q3, q4, q5, q6⟩ := hq hc3
    refine Go.aloadN C d15_6 rfl rfl ?_
    refine Go.iloadN C d15_7 rfl ?_
    refine Go.callV C (z := y_9) (zr := y_9) (a := r) (argsL := [(.int kk)]) (rm28 hW h (r) (u) (ys) (kk) (j) (b) S q1 q2 q3) S.exa (w_127 hW) (w_128 hW) (fun hz => notFace_of_selects (args := #[]) (mvT hz (w_130 hW))) (w_130 hW) (w_129 hW) (w_11 hW) (w_131 hW) d15_8 pd_22 rfl (by decide) rfl (st := []) rfl (by decide) (Nat.le_of_ble_eq_true rfl) (by decide) (by decide) ((fun _ hx => nomatch hx)) (fun v1 h2 os3 q4 K5 ho6 => ?_)
    obtain ⟨rfl, rfl, rfl⟩ := q4
    clear K5 ho6
    show Go k h _ _ _ 11 #[.val (.ref r), .val (.ref a), .val (.int d), .val (.int kk), .val (.int e)] [(.int (own_ch b))]
    refine Go.aloadN C d15_11 rfl rfl ?_
    refine Go.iloadN C d15_12 rfl ?_
    refine Go.iconst C (1 : Int32) d15_13 (by decide) ?_
    refine Go.iadd C d15_14 ?_
    refine Go.iloadN C d15_15 rfl ?_
    refine Go.iadd C d15_16 ?_
    refine Go.caload C V i q4 q5 (own_atv q6) d15_17 ?_
    refine Go.icmpne C d15_18 (fun hc18 => absurd rfl hc18) (fun hc18 => ?_)
    refine Go.iconst C (1 : Int32) d15_21 (by decide) ?_
    refine Go.goto C d15_22 ?_
    refine Go.ireturn C d15_26 (Nat.le_of_ble_eq_true rfl) (Nat.le_of_ble_eq_true rfl) (by simp) rfl [] (fun _ hx => nomatch hx) ?_
    exact ⟨rfl, rfl, rfl⟩
def Q0 (Z : State) (h : Heap) (p0 : Int32) (p1 : Int32) (p2 : Int32) (p3 : Int32) (p4 : Int32) (p5 : Int32) : QT := fun v h' os' => (v = some (.int (1 : Int32))) ∧ (os' = [])
set_option maxRecDepth 65536 in
set_option maxHeartbeats 40000000 in
theorem rm0 {l : Launch} {Z : State} {a0 : Array Value} (hW : W0 Z a0) (h : Heap) (p0 : Int32) (p1 : Int32) (p2 : Int32) (p3 : Int32) (p4 : Int32) (p5 : Int32) :
    Con l Z own_EL true x code 12 (some .boolean) room_1 tables_1 #[(.int p0), (.int p1), (.int p2), (.int p3), (.int p4), (.int p5)] h [] (Q0 Z h p0 p1 p2 p3 p4 p5) := by
  refine Con.intro (a0 := a0) (Ls := #[.val (.int p0), .val (.int p1), .val (.int p2), .val (.int p3), .val (.int p4), .val (.int p5), .unset, .unset, .unset, .unset, .unset, .unset]) (by decide +kernel) (own_ew hW) (fun m => by first | (simp [entryFrame, mkF, argsToLocals, Value.category, maxLocals]; done) | rfl) ?_
  intro k C
  refine Go.iloadN C d0_0 rfl ?_
  refine Go.ldcI C (w_0 hW) d0_1 ?_
  refine Go.iand C d0_3 ?_
  refine Go.bipush C (6 : Int32) d0_4 (by decide) ?_
  refine Go.irem C d0_6 (by decide) ?_
  generalize e_n : ((p0 &&& (2147483647 : Int32)) % (6 : Int32)) = n
  have h_n := own_m6 e_n
  refine Go.istore C d0_7 (Ls' := #[.val (.int p0), .val (.int p1), .val (.int p2), .val (.int p3), .val (.int p4), .val (.int p5), .val (.int n), .unset, .unset, .unset, .unset, .unset]) rfl ?_
  refine Go.iconst C (5 : Int32) d0_9 (by decide) ?_
  refine Go.newarray C (aty := .char) (w_1 hW) d0_10 (by decide) 5 rfl (cap := 5) (by decide) (by decide) (by decide) (by decide) (fun b1 h2 e3 K4 A5 => ?_)
  have A5 : Av Z h2 b1 .char [(.int (0 : Int32)), (.int (0 : Int32)), (.int (0 : Int32)), (.int (0 : Int32)), (.int (0 : Int32))] := A5
  refine Go.dup C d0_12 rfl ?_
  refine Go.iconst C (0 : Int32) d0_13 (by decide) ?_
  refine Go.iloadN C d0_14 rfl ?_
  refine Go.callS C (z := y_12) (argsL := [(.int p1)]) (rm1 hW h2 (p1)) (w_2 hW) (w_3 hW) (w_4 hW) (w_5 hW) d0_15 pd_22 rfl (by decide) rfl (st := [(.int (0 : Int32)), (.ref b1), (.ref b1)]) rfl (by decide) (Nat.le_of_ble_eq_true rfl) (by decide) (by decide) ((fun _ hx => nomatch hx)) (fun v6 h7 os8 q9 K10 ho11 => ?_)
  obtain ⟨rfl, rfl, rfl⟩ := q9
  clear K10 ho11
  show Go k h2 _ _ _ 18 #[.val (.int p0), .val (.int p1), .val (.int p2), .val (.int p3), .val (.int p4), .val (.int p5), .val (.int n), .unset, .unset, .unset, .unset, .unset] [(.int (own_chv p1)), (.int (0 : Int32)), (.ref b1), (.ref b1)]
  generalize e_c0 : (own_chv p1) = c0
  have h_c0 := own_chv_L e_c0
  refine Go.castore C A5 (List.mem_of_getElem? (i := 0) rfl) 0 (by decide) rfl (Nat.le_of_ble_eq_true rfl) (x' := c0) (own_nar_lat h_c0) (vs' := [(.int c0), (.int (0 : Int32)), (.int (0 : Int32)), (.int (0 : Int32)), (.int (0 : Int32))]) rfl d0_18 (fun h12 K13 A5 => ?_)
  refine Go.dup C d0_19 rfl ?_
  refine Go.iconst C (1 : Int32) d0_20 (by decide) ?_
  refine Go.iloadN C d0_21 rfl ?_
  refine Go.callS C (z := y_12) (argsL := [(.int p2)]) (rm1 hW h12 (p2)) (w_2 hW) (w_3 hW) (w_4 hW) (w_5 hW) d0_22 pd_22 rfl (by decide) rfl (st := [(.int (1 : Int32)), (.ref b1), (.ref b1)]) rfl (by decide) (Nat.le_of_ble_eq_true rfl) (by decide) (by decide) ((fun _ hx => nomatch hx)) (fun v14 h15 os16 q17 K18 ho19 => ?_)
  obtain ⟨rfl, rfl, rfl⟩ := q17
  clear K18 ho19
  show Go k h12 _ _ _ 25 #[.val (.int p0), .val (.int p1), .val (.int p2), .val (.int p3), .val (.int p4), .val (.int p5), .val (.int n), .unset, .unset, .unset, .unset, .unset] [(.int (own_chv p2)), (.int (1 : Int32)), (.ref b1), (.ref b1)]
  generalize e_c1 : (own_chv p2) = c1
  have h_c1 := own_chv_L e_c1
  refine Go.castore C A5 (List.mem_of_getElem? (i := 0) rfl) 1 (by decide) rfl (Nat.le_of_ble_eq_true rfl) (x' := c1) (own_nar_lat h_c1) (vs' := [(.int c0), (.int c1), (.int (0 : Int32)), (.int (0 : Int32)), (.int (0 : Int32))]) rfl d0_25 (fun h20 K21 A5 => ?_)
  refine Go.dup C d0_26 rfl ?_
  refine Go.iconst C (2 : Int32) d0_27 (by decide) ?_
  refine Go.iloadN C d0_28 rfl ?_
  refine Go.callS C (z := y_12) (argsL := [(.int p3)]) (rm1 hW h20 (p3)) (w_2 hW) (w_3 hW) (w_4 hW) (w_5 hW) d0_29 pd_22 rfl (by decide) rfl (st := [(.int (2 : Int32)), (.ref b1), (.ref b1)]) rfl (by decide) (Nat.le_of_ble_eq_true rfl) (by decide) (by decide) ((fun _ hx => nomatch hx)) (fun v22 h23 os24 q25 K26 ho27 => ?_)
  obtain ⟨rfl, rfl, rfl⟩ := q25
  clear K26 ho27
  show Go k h20 _ _ _ 32 #[.val (.int p0), .val (.int p1), .val (.int p2), .val (.int p3), .val (.int p4), .val (.int p5), .val (.int n), .unset, .unset, .unset, .unset, .unset] [(.int (own_chv p3)), (.int (2 : Int32)), (.ref b1), (.ref b1)]
  generalize e_c2 : (own_chv p3) = c2
  have h_c2 := own_chv_L e_c2
  refine Go.castore C A5 (List.mem_of_getElem? (i := 0) rfl) 2 (by decide) rfl (Nat.le_of_ble_eq_true rfl) (x' := c2) (own_nar_lat h_c2) (vs' := [(.int c0), (.int c1), (.int c2), (.int (0 : Int32)), (.int (0 : Int32))]) rfl d0_32 (fun h28 K29 A5 => ?_)
  refine Go.dup C d0_33 rfl ?_
  refine Go.iconst C (3 : Int32) d0_34 (by decide) ?_
  refine Go.iload C d0_35 rfl ?_
  refine Go.callS C (z := y_12) (argsL := [(.int p4)]) (rm1 hW h28 (p4)) (w_2 hW) (w_3 hW) (w_4 hW) (w_5 hW) d0_37 pd_22 rfl (by decide) rfl (st := [(.int (3 : Int32)), (.ref b1), (.ref b1)]) rfl (by decide) (Nat.le_of_ble_eq_true rfl) (by decide) (by decide) ((fun _ hx => nomatch hx)) (fun v30 h31 os32 q33 K34 ho35 => ?_)
  obtain ⟨rfl, rfl, rfl⟩ := q33
  clear K34 ho35
  show Go k h28 _ _ _ 40 #[.val (.int p0), .val (.int p1), .val (.int p2), .val (.int p3), .val (.int p4), .val (.int p5), .val (.int n), .unset, .unset, .unset, .unset, .unset] [(.int (own_chv p4)), (.int (3 : Int32)), (.ref b1), (.ref b1)]
  generalize e_c3 : (own_chv p4) = c3
  have h_c3 := own_chv_L e_c3
  refine Go.castore C A5 (List.mem_of_getElem? (i := 0) rfl) 3 (by decide) rfl (Nat.le_of_ble_eq_true rfl) (x' := c3) (own_nar_lat h_c3) (vs' := [(.int c0), (.int c1), (.int c2), (.int c3), (.int (0 : Int32))]) rfl d0_40 (fun h36 K37 A5 => ?_)
  refine Go.dup C d0_41 rfl ?_
  refine Go.iconst C (4 : Int32) d0_42 (by decide) ?_
  refine Go.iload C d0_43 rfl ?_
  refine Go.callS C (z := y_12) (argsL := [(.int p5)]) (rm1 hW h36 (p5)) (w_2 hW) (w_3 hW) (w_4 hW) (w_5 hW) d0_45 pd_22 rfl (by decide) rfl (st := [(.int (4 : Int32)), (.ref b1), (.ref b1)]) rfl (by decide) (Nat.le_of_ble_eq_true rfl) (by decide) (by decide) ((fun _ hx => nomatch hx)) (fun v38 h39 os40 q41 K42 ho43 => ?_)
  obtain ⟨rfl, rfl, rfl⟩ := q41
  clear K42 ho43
  show Go k h36 _ _ _ 48 #[.val (.int p0), .val (.int p1), .val (.int p2), .val (.int p3), .val (.int p4), .val (.int p5), .val (.int n), .unset, .unset, .unset, .unset, .unset] [(.int (own_chv p5)), (.int (4 : Int32)), (.ref b1), (.ref b1)]
  generalize e_c4 : (own_chv p5) = c4
  have h_c4 := own_chv_L e_c4
  refine Go.castore C A5 (List.mem_of_getElem? (i := 0) rfl) 4 (by decide) rfl (Nat.le_of_ble_eq_true rfl) (x' := c4) (own_nar_lat h_c4) (vs' := [(.int c0), (.int c1), (.int c2), (.int c3), (.int c4)]) rfl d0_48 (fun h44 K45 A5 => ?_)
  have hl := own_lat5 h_c0 h_c1 h_c2 h_c3 h_c4
  refine Go.astore C d0_49 rfl (Ls' := #[.val (.int p0), .val (.int p1), .val (.int p2), .val (.int p3), .val (.int p4), .val (.int p5), .val (.int n), .val (.ref b1), .unset, .unset, .unset, .unset]) rfl ?_
  refine Go.iload C d0_51 rfl ?_
  refine Go.aload C d0_53 rfl rfl ?_
  refine Go.callS C (z := y_13) (argsL := [(.int n), (.ref b1)]) (rm2 hW h44 (n) (b1) (c0) (c1) (c2) (c3) (c4) A5 hl) (w_6 hW) (w_7 hW) (w_4 hW) (w_8 hW) d0_55 pd_23 rfl (by decide) rfl (st := []) rfl (by decide) (Nat.le_of_ble_eq_true rfl) (by decide) (by decide) ((fun _ hx => nomatch hx)) (fun v46 h47 os48 q49 K50 ho51 => ?_)
  obtain ⟨r52, t53, rfl, rfl, F54⟩ := q49
  replace A5 := A5.k0 K50
  show Go k h47 _ _ _ 58 #[.val (.int p0), .val (.int p1), .val (.int p2), .val (.int p3), .val (.int p4), .val (.int p5), .val (.int n), .val (.ref b1), .unset, .unset, .unset, .unset] [(.ref r52)]
  refine Go.astore C d0_58 rfl (Ls' := #[.val (.int p0), .val (.int p1), .val (.int p2), .val (.int p3), .val (.int p4), .val (.int p5), .val (.int n), .val (.ref b1), .val (.ref r52), .unset, .unset, .unset]) rfl ?_
  refine Go.aload C d0_60 rfl rfl ?_
  refine Go.callS C (z := y_28) (argsL := [(.ref r52)]) (rm6 hW h47 (r52) (t53) ((List.map own_b (own_mk5 n c0 c1 c2 c3 c4))) F54 (own_len5 _ _ _ _ _ _)) (w_30 hW) (w_31 hW) (w_32 hW) (w_33 hW) d0_62 pd_24 rfl (by decide) rfl (st := []) rfl (by decide) (Nat.le_of_ble_eq_true rfl) (by decide) (by decide) ((fun _ hx => nomatch hx)) (fun v55 h56 os57 q58 K59 ho60 => ?_)
  obtain ⟨r61, u62, rfl, rfl, F63⟩ := q58
  replace A5 := A5.k0 K59
  replace F54 := F54.k0 K59
  show Go k h56 _ _ _ 65 #[.val (.int p0), .val (.int p1), .val (.int p2), .val (.int p3), .val (.int p4), .val (.int p5), .val (.int n), .val (.ref b1), .val (.ref r52), .unset, .unset, .unset] [(.ref r61)]
  refine Go.astore C d0_65 rfl (Ls' := #[.val (.int p0), .val (.int p1), .val (.int p2), .val (.int p3), .val (.int p4), .val (.int p5), .val (.int n), .val (.ref b1), .val (.ref r52), .val (.ref r61), .unset, .unset]) rfl ?_
  refine Go.iconst C ((-1) : Int32) d0_67 (by decide) ?_
  refine Go.istore C d0_68 (Ls' := #[.val (.int p0), .val (.int p1), .val (.int p2), .val (.int p3), .val (.int p4), .val (.int p5), .val (.int n), .val (.ref b1), .val (.ref r52), .val (.ref r61), .val (.int (-1 : Int32)), .unset]) rfl ?_
  have hd_0 : (-1 : Int32) = -1 := rfl
  refine Go.iload C d0_70 rfl ?_
  suffices J72 : ∀ d0 : Int32, d0 = (if ((0 : Int32) < n ∧ c0 = 46) then (0 : Int32) else (-1 : Int32)) → Go k h56 [b1] 9 41 87 #[.val (.int p0), .val (.int p1), .val (.int p2), .val (.int p3), .val (.int p4), .val (.int p5), .val (.int n), .val (.ref b1), .val (.ref r52), .val (.ref r61), .val (.int d0), .unset] [] by
    refine Go.ifle C d0_72 (fun hc72 => ?_) (fun hc72 => ?_)
    · exact J72 _ (if_neg (fun q => hc72 q.1)).symm
    · refine Go.aload C d0_75 rfl rfl ?_
      refine Go.iconst C (0 : Int32) d0_77 (by decide) ?_
      refine Go.caload C A5 0 (by decide) rfl rfl d0_78 ?_
      refine Go.bipush C (46 : Int32) d0_79 (by decide) ?_
      refine Go.icmpne C d0_81 (fun hc81 => ?_) (fun hc81 => ?_)
      · exact J72 _ (if_neg (fun q => hc81 q.2)).symm
      · refine Go.iconst C (0 : Int32) d0_84 (by decide) ?_
        refine Go.istore C d0_85 (Ls' := #[.val (.int p0), .val (.int p1), .val (.int p2), .val (.int p3), .val (.int p4), .val (.int p5), .val (.int n), .val (.ref b1), .val (.ref r52), .val (.ref r61), .val (.int (0 : Int32)), .unset]) rfl ?_
        exact J72 _ (if_pos ⟨hc72, hc81⟩).symm
  intro d0 hd0
  refine Go.iload C d0_87 rfl ?_
  refine Go.iconst C (1 : Int32) d0_89 (by decide) ?_
  suffices J90 : ∀ d1 : Int32, d1 = (if ((1 : Int32) < n ∧ c1 = 46) then (1 : Int32) else d0) → Go k h56 [b1] 9 41 105 #[.val (.int p0), .val (.int p1), .val (.int p2), .val (.int p3), .val (.int p4), .val (.int p5), .val (.int n), .val (.ref b1), .val (.ref r52), .val (.ref r61), .val (.int d1), .unset] [] by
    refine Go.icmple C d0_90 (fun hc90 => ?_) (fun hc90 => ?_)
    · exact J90 _ (if_neg (fun q => hc90 q.1)).symm
    · refine Go.aload C d0_93 rfl rfl ?_
      refine Go.iconst C (1 : Int32) d0_95 (by decide) ?_
      refine Go.caload C A5 1 (by decide) rfl rfl d0_96 ?_
      refine Go.bipush C (46 : Int32) d0_97 (by decide) ?_
      refine Go.icmpne C d0_99 (fun hc99 => ?_) (fun hc99 => ?_)
      · exact J90 _ (if_neg (fun q => hc99 q.2)).symm
      · refine Go.iconst C (1 : Int32) d0_102 (by decide) ?_
        refine Go.istore C d0_103 (Ls' := #[.val (.int p0), .val (.int p1), .val (.int p2), .val (.int p3), .val (.int p4), .val (.int p5), .val (.int n), .val (.ref b1), .val (.ref r52), .val (.ref r61), .val (.int (1 : Int32)), .unset]) rfl ?_
        exact J90 _ (if_pos ⟨hc90, hc99⟩).symm
  intro d1 hd1
  refine Go.iload C d0_105 rfl ?_
  refine Go.iconst C (2 : Int32) d0_107 (by decide) ?_
  suffices J108 : ∀ d2 : Int32, d2 = (if ((2 : Int32) < n ∧ c2 = 46) then (2 : Int32) else d1) → Go k h56 [b1] 9 41 123 #[.val (.int p0), .val (.int p1), .val (.int p2), .val (.int p3), .val (.int p4), .val (.int p5), .val (.int n), .val (.ref b1), .val (.ref r52), .val (.ref r61), .val (.int d2), .unset] [] by
    refine Go.icmple C d0_108 (fun hc108 => ?_) (fun hc108 => ?_)
    · exact J108 _ (if_neg (fun q => hc108 q.1)).symm
    · refine Go.aload C d0_111 rfl rfl ?_
      refine Go.iconst C (2 : Int32) d0_113 (by decide) ?_
      refine Go.caload C A5 2 (by decide) rfl rfl d0_114 ?_
      refine Go.bipush C (46 : Int32) d0_115 (by decide) ?_
      refine Go.icmpne C d0_117 (fun hc117 => ?_) (fun hc117 => ?_)
      · exact J108 _ (if_neg (fun q => hc117 q.2)).symm
      · refine Go.iconst C (2 : Int32) d0_120 (by decide) ?_
        refine Go.istore C d0_121 (Ls' := #[.val (.int p0), .val (.int p1), .val (.int p2), .val (.int p3), .val (.int p4), .val (.int p5), .val (.int n), .val (.ref b1), .val (.ref r52), .val (.ref r61), .val (.int (2 : Int32)), .unset]) rfl ?_
        exact J108 _ (if_pos ⟨hc108, hc117⟩).symm
  intro d2 hd2
  refine Go.iload C d0_123 rfl ?_
  refine Go.iconst C (3 : Int32) d0_125 (by decide) ?_
  suffices J126 : ∀ d3 : Int32, d3 = (if ((3 : Int32) < n ∧ c3 = 46) then (3 : Int32) else d2) → Go k h56 [b1] 9 41 141 #[.val (.int p0), .val (.int p1), .val (.int p2), .val (.int p3), .val (.int p4), .val (.int p5), .val (.int n), .val (.ref b1), .val (.ref r52), .val (.ref r61), .val (.int d3), .unset] [] by
    refine Go.icmple C d0_126 (fun hc126 => ?_) (fun hc126 => ?_)
    · exact J126 _ (if_neg (fun q => hc126 q.1)).symm
    · refine Go.aload C d0_129 rfl rfl ?_
      refine Go.iconst C (3 : Int32) d0_131 (by decide) ?_
      refine Go.caload C A5 3 (by decide) rfl rfl d0_132 ?_
      refine Go.bipush C (46 : Int32) d0_133 (by decide) ?_
      refine Go.icmpne C d0_135 (fun hc135 => ?_) (fun hc135 => ?_)
      · exact J126 _ (if_neg (fun q => hc135 q.2)).symm
      · refine Go.iconst C (3 : Int32) d0_138 (by decide) ?_
        refine Go.istore C d0_139 (Ls' := #[.val (.int p0), .val (.int p1), .val (.int p2), .val (.int p3), .val (.int p4), .val (.int p5), .val (.int n), .val (.ref b1), .val (.ref r52), .val (.ref r61), .val (.int (3 : Int32)), .unset]) rfl ?_
        exact J126 _ (if_pos ⟨hc126, hc135⟩).symm
  intro d3 hd3
  refine Go.iload C d0_141 rfl ?_
  refine Go.iconst C (4 : Int32) d0_143 (by decide) ?_
  suffices J144 : ∀ d4 : Int32, d4 = (if ((4 : Int32) < n ∧ c4 = 46) then (4 : Int32) else d3) → Go k h56 [b1] 9 41 159 #[.val (.int p0), .val (.int p1), .val (.int p2), .val (.int p3), .val (.int p4), .val (.int p5), .val (.int n), .val (.ref b1), .val (.ref r52), .val (.ref r61), .val (.int d4), .unset] [] by
    refine Go.icmple C d0_144 (fun hc144 => ?_) (fun hc144 => ?_)
    · exact J144 _ (if_neg (fun q => hc144 q.1)).symm
    · refine Go.aload C d0_147 rfl rfl ?_
      refine Go.iconst C (4 : Int32) d0_149 (by decide) ?_
      refine Go.caload C A5 4 (by decide) rfl rfl d0_150 ?_
      refine Go.bipush C (46 : Int32) d0_151 (by decide) ?_
      refine Go.icmpne C d0_153 (fun hc153 => ?_) (fun hc153 => ?_)
      · exact J144 _ (if_neg (fun q => hc153 q.2)).symm
      · refine Go.iconst C (4 : Int32) d0_156 (by decide) ?_
        refine Go.istore C d0_157 (Ls' := #[.val (.int p0), .val (.int p1), .val (.int p2), .val (.int p3), .val (.int p4), .val (.int p5), .val (.int n), .val (.ref b1), .val (.ref r52), .val (.ref r61), .val (.int (4 : Int32)), .unset]) rfl ?_
        exact J144 _ (if_pos ⟨hc144, hc153⟩).symm
  intro d4 hd4
  refine Go.iload C d0_159 rfl ?_
  suffices J161 : ∀ e : Int32, e = (if 0 < d4 then n - d4 - 1 else (0 : Int32)) → Go k h56 [b1] 9 41 175 #[.val (.int p0), .val (.int p1), .val (.int p2), .val (.int p3), .val (.int p4), .val (.int p5), .val (.int n), .val (.ref b1), .val (.ref r52), .val (.ref r61), .val (.int d4), .unset] [(.int e)] by
    refine Go.ifgt C d0_161 (fun hc161 => ?_) (fun hc161 => ?_)
    · refine Go.iload C d0_168 rfl ?_
      refine Go.iload C d0_170 rfl ?_
      refine Go.isub C d0_172 ?_
      refine Go.iconst C (1 : Int32) d0_173 (by decide) ?_
      refine Go.isub C d0_174 ?_
      exact J161 _ (if_pos hc161).symm
    · refine Go.iconst C (0 : Int32) d0_164 (by decide) ?_
      refine Go.goto C d0_165 ?_
      exact J161 _ (if_neg hc161).symm
  intro e he
  obtain ⟨hlen, hat⟩ := own_law h_n hl hd0 hd1 hd2 hd3 hd4 he
  refine Go.istore C d0_175 (Ls' := #[.val (.int p0), .val (.int p1), .val (.int p2), .val (.int p3), .val (.int p4), .val (.int p5), .val (.int n), .val (.ref b1), .val (.ref r52), .val (.ref r61), .val (.int d4), .val (.int e)]) rfl ?_
  refine Go.aload C d0_177 rfl rfl ?_
  refine Go.ifnullN C d0_179 ?_
  refine Go.aload C d0_182 rfl rfl ?_
  refine Go.callV C (z := y_11) (zr := y_11) (a := r61) (argsL := []) (rm8 hW h56 (r61) (u62) ((own_ext (List.map own_b (own_mk5 n c0 c1 c2 c3 c4)))) F63) F63.exa (w_72 hW) (w_40 hW) (fun hz => notFace_of_selects (args := #[]) (mvT hz (w_42 hW))) (w_42 hW) (w_41 hW) (w_11 hW) (w_43 hW) d0_184 pd_13 rfl (by decide) rfl (st := []) rfl (by decide) (Nat.le_of_ble_eq_true rfl) (by decide) (by decide) ((fun _ hx => nomatch hx)) (fun v64 h65 os66 q67 K68 ho69 => ?_)
  obtain ⟨rfl, rfl, rfl⟩ := q67
  clear K68 ho69
  show Go k h56 _ _ _ 187 #[.val (.int p0), .val (.int p1), .val (.int p2), .val (.int p3), .val (.int p4), .val (.int p5), .val (.int n), .val (.ref b1), .val (.ref r52), .val (.ref r61), .val (.int d4), .val (.int e)] [(.int (Int32.ofNat (List.length (own_ext (List.map own_b (own_mk5 n c0 c1 c2 c3 c4))))))]
  refine Go.iload C d0_187 rfl ?_
  refine Go.icmpeq C d0_189 (fun hc189 => ?_) (fun hc189 => absurd hlen hc189)
  refine Go.aload C d0_194 rfl rfl ?_
  refine Go.aload C d0_196 rfl rfl ?_
  refine Go.iload C d0_198 rfl ?_
  refine Go.iconst C (0 : Int32) d0_200 (by decide) ?_
  refine Go.iload C d0_201 rfl ?_
  refine Go.callS C (z := y_29) (argsL := [(.ref r61), (.ref b1), (.int d4), (.int (0 : Int32)), (.int e)]) (rm15 hW h56 (r61) (u62) ((own_ext (List.map own_b (own_mk5 n c0 c1 c2 c3 c4)))) (b1) (c0) (c1) (c2) (c3) (c4) (d4) ((0 : Int32)) (e) F63 A5 (hat _ (by decide))) (w_73 hW) (w_74 hW) (w_4 hW) (w_75 hW) d0_203 pd_25 rfl (by decide) rfl (st := []) rfl (by decide) (Nat.le_of_ble_eq_true rfl) (by decide) (by decide) ((fun _ hx => nomatch hx)) (fun v70 h71 os72 q73 K74 ho75 => ?_)
  obtain ⟨rfl, rfl, rfl⟩ := q73
  clear K74 ho75
  show Go k h56 _ _ _ 206 #[.val (.int p0), .val (.int p1), .val (.int p2), .val (.int p3), .val (.int p4), .val (.int p5), .val (.int n), .val (.ref b1), .val (.ref r52), .val (.ref r61), .val (.int d4), .val (.int e)] [(.int (1 : Int32))]
  refine Go.ifeq C d0_206 (fun hc => absurd hc (by decide)) (fun _ => ?_)
  refine Go.aload C d0_209 rfl rfl ?_
  refine Go.aload C d0_211 rfl rfl ?_
  refine Go.iload C d0_213 rfl ?_
  refine Go.iconst C (1 : Int32) d0_215 (by decide) ?_
  refine Go.iload C d0_216 rfl ?_
  refine Go.callS C (z := y_29) (argsL := [(.ref r61), (.ref b1), (.int d4), (.int (1 : Int32)), (.int e)]) (rm15 hW h56 (r61) (u62) ((own_ext (List.map own_b (own_mk5 n c0 c1 c2 c3 c4)))) (b1) (c0) (c1) (c2) (c3) (c4) (d4) ((1 : Int32)) (e) F63 A5 (hat _ (by decide))) (w_73 hW) (w_74 hW) (w_4 hW) (w_75 hW) d0_218 pd_25 rfl (by decide) rfl (st := []) rfl (by decide) (Nat.le_of_ble_eq_true rfl) (by decide) (by decide) ((fun _ hx => nomatch hx)) (fun v76 h77 os78 q79 K80 ho81 => ?_)
  obtain ⟨rfl, rfl, rfl⟩ := q79
  clear K80 ho81
  show Go k h56 _ _ _ 221 #[.val (.int p0), .val (.int p1), .val (.int p2), .val (.int p3), .val (.int p4), .val (.int p5), .val (.int n), .val (.ref b1), .val (.ref r52), .val (.ref r61), .val (.int d4), .val (.int e)] [(.int (1 : Int32))]
  refine Go.ifeq C d0_221 (fun hc => absurd hc (by decide)) (fun _ => ?_)
  refine Go.aload C d0_224 rfl rfl ?_
  refine Go.aload C d0_226 rfl rfl ?_
  refine Go.iload C d0_228 rfl ?_
  refine Go.iconst C (2 : Int32) d0_230 (by decide) ?_
  refine Go.iload C d0_231 rfl ?_
  refine Go.callS C (z := y_29) (argsL := [(.ref r61), (.ref b1), (.int d4), (.int (2 : Int32)), (.int e)]) (rm15 hW h56 (r61) (u62) ((own_ext (List.map own_b (own_mk5 n c0 c1 c2 c3 c4)))) (b1) (c0) (c1) (c2) (c3) (c4) (d4) ((2 : Int32)) (e) F63 A5 (hat _ (by decide))) (w_73 hW) (w_74 hW) (w_4 hW) (w_75 hW) d0_233 pd_25 rfl (by decide) rfl (st := []) rfl (by decide) (Nat.le_of_ble_eq_true rfl) (by decide) (by decide) ((fun _ hx => nomatch hx)) (fun v82 h83 os84 q85 K86 ho87 => ?_)
  obtain ⟨rfl, rfl, rfl⟩ := q85
  clear K86 ho87
  show Go k h56 _ _ _ 236 #[.val (.int p0), .val (.int p1), .val (.int p2), .val (.int p3), .val (.int p4), .val (.int p5), .val (.int n), .val (.ref b1), .val (.ref r52), .val (.ref r61), .val (.int d4), .val (.int e)] [(.int (1 : Int32))]
  refine Go.ifeq C d0_236 (fun hc => absurd hc (by decide)) (fun _ => ?_)
  refine Go.aload C d0_239 rfl rfl ?_
  refine Go.aload C d0_241 rfl rfl ?_
  refine Go.iload C d0_243 rfl ?_
  refine Go.iconst C (3 : Int32) d0_245 (by decide) ?_
  refine Go.iload C d0_246 rfl ?_
  refine Go.callS C (z := y_29) (argsL := [(.ref r61), (.ref b1), (.int d4), (.int (3 : Int32)), (.int e)]) (rm15 hW h56 (r61) (u62) ((own_ext (List.map own_b (own_mk5 n c0 c1 c2 c3 c4)))) (b1) (c0) (c1) (c2) (c3) (c4) (d4) ((3 : Int32)) (e) F63 A5 (hat _ (by decide))) (w_73 hW) (w_74 hW) (w_4 hW) (w_75 hW) d0_248 pd_25 rfl (by decide) rfl (st := []) rfl (by decide) (Nat.le_of_ble_eq_true rfl) (by decide) (by decide) ((fun _ hx => nomatch hx)) (fun v88 h89 os90 q91 K92 ho93 => ?_)
  obtain ⟨rfl, rfl, rfl⟩ := q91
  clear K92 ho93
  show Go k h56 _ _ _ 251 #[.val (.int p0), .val (.int p1), .val (.int p2), .val (.int p3), .val (.int p4), .val (.int p5), .val (.int n), .val (.ref b1), .val (.ref r52), .val (.ref r61), .val (.int d4), .val (.int e)] [(.int (1 : Int32))]
  refine Go.ifeq C d0_251 (fun hc => absurd hc (by decide)) (fun _ => ?_)
  refine Go.iconst C (1 : Int32) d0_254 (by decide) ?_
  refine Go.goto C d0_255 ?_
  refine Go.ireturn C d0_259 (Nat.le_of_ble_eq_true rfl) (Nat.le_of_ble_eq_true rfl) (by simp) rfl [] (fun _ hx => nomatch hx) ?_
  exact ⟨rfl, rfl⟩
set_option maxRecDepth 65536 in
set_option maxHeartbeats 40000000 in
theorem comes_1 {Post : Tables → Env → Array Value → State → Outcome → State → Prop} (hpost : ∀ tb e args s v u, (limb_1_1.after args s (.returned v) u = true ∧ limb_1_2.after args s (.returned v) u = true ∧ True) → ReturnedEndW s (.returned v) u (Jvm.fieldLocs frame_1_writes args s ++ Jvm.arrayLocs frame_1_arrays args s ++ Jvm.staticLocs frame_1_statics s) 32 3200 → Post tb e args s (.returned v) u) :
    ArmFor flags0 classFile x code maxLocals ret World_1 tables_1 room_1 Calls_1 rest_1 Pre_1 Post := by
  intro l hfl _ _ p e ha hc hk s m args below hf hA hF happ hP
  obtain ⟨hcalls, hrest, hpre⟩ := hP
  obtain ⟨-, -, -, hnamed, -, -, -, hat⟩ := (Spec.applies_iff hf).mp happ
  obtain ⟨hg, hn⟩ := and_e (Cond.before_iff.mp (show (Jvm.Cond.and given_1 narrow_1).before args s = true from hpre))
  obtain ⟨g1, g2⟩ := and_e hg
  obtain ⟨g3, g4⟩ := and_e g2
  obtain ⟨g5, g6⟩ := and_e g4
  obtain ⟨g7, g8⟩ := and_e g6
  obtain ⟨g9, g10⟩ := and_e g8
  obtain ⟨g11, g12⟩ := and_e g10
  obtain ⟨w0, w1, w2, w3, w4, w5, rfl⟩ : ∃ w0 w1 w2 w3 w4 w5 : Value, args = #[w0, w1, w2, w3, w4, w5] := by
    have hs : args.size = 6 := by simpa [Cond.value, given_1] using g1
    obtain ⟨L⟩ := args
    match L, hs with
    | [w0, w1, w2, w3, w4, w5], _ => exact ⟨w0, w1, w2, w3, w4, w5, rfl⟩
  have hw := fun d (hd : d ∈ tables_1) => atoms_spec (ws := Jvm.Cond.code x code maxLocals ret :: tables_1) hat d (List.mem_cons_of_mem _ hd)
  have hfit : Fit s := fun {y c} hc i hi => by
    obtain ⟨ha, rfl⟩ := Array.getElem?_eq_some_iff.mp hc
    have q := List.all_eq_true.mp ((Array.all_eq_true_iff_forall_mem.mp hF) _ (Array.getElem_mem ha)) i (List.mem_range.mpr hi)
    simpa [Array.getElem?_eq_getElem hi] using q
  obtain ⟨hsets, hown0⟩ := atoms_of _ (rest_1_c_eq ▸ (show rest_1_c.before _ s = true from hrest))
  have hW : W0 s _ := ⟨hw, hsets⟩
  obtain ⟨i0, ei0⟩ := is_v g3
  obtain rfl : w0 = (.int i0) := Option.some.inj ei0
  obtain ⟨i1, ei1⟩ := is_v g5
  obtain rfl : w1 = (.int i1) := Option.some.inj ei1
  obtain ⟨i2, ei2⟩ := is_v g7
  obtain rfl : w2 = (.int i2) := Option.some.inj ei2
  obtain ⟨i3, ei3⟩ := is_v g9
  obtain rfl : w3 = (.int i3) := Option.some.inj ei3
  obtain ⟨i4, ei4⟩ := is_v g11
  obtain rfl : w4 = (.int i4) := Option.some.inj ei4
  obtain ⟨i5, ei5⟩ := is_v g12
  obtain rfl : w5 = (.int i5) := Option.some.inj ei5
  obtain ⟨n, o, h1, h2, h3, v, L, os, rfl, hQ, -, -, N, -, hq, hq2⟩ := (rm0 (l := l) hW s.heap i0 i1 i2 i3 i4 i5 : Con l s own_EL true x code maxLocals ret room_1 tables_1 _ _ _ _) p e ha hc hk s m _ below hf ((Spec.applies_iff_loose hf).mp happ).1 ⟨rfl, State.Warmed39.refl s, rfl, CHv.start (own_ew hW) (fun p hp => hcalls.1 p hp) (s_2 hW) (w_23 hW) (w_10 hW), ⟨Nat.le_refl _, fun _ _ q => q⟩, (fun _ q => nomatch q)⟩ trivial
  obtain ⟨rfl, -⟩ := hQ
  refine ⟨n, _, h1, h2, h3, hpost _ _ _ _ _ _ ⟨Cond.after_iff.mpr rfl, Cond.after_iff.mpr (eq_i res_at (Term.int_eval (1)) rfl), trivial⟩ ⟨hq.1, hq.2.1, hq.2.2.1, (hq.2.2.2.sift fun y hy => Or.inr (N y hy)).mono (by decide) (by decide)⟩⟩
theorem main_1_1 : Claimed_1_1 := comes_1 fun _ _ _ _ _ _ h hF => ⟨h.1, hF⟩
theorem main_1_2 : Claimed_1_2 := comes_1 fun _ _ _ _ _ _ h hF => ⟨h.2.1, hF⟩
end Jvm.Pilot.@@N@@
namespace Jvm.Pilot.@@N@@
open Jvm Jvm.ClassFile Sem Op Lib Jvm.Free Jvm.Stand Jvm.Pilot.@@N@@.Jvm.D
/-! MADE BY PROGRAM (witnessworld.py) out of the Statement's table words and the real class files: 23 classes; the members and pool entries that the words name. The judged class is class 1, her method 1. -/
namespace start1
open Jvm.ClassFile
def u (s : String) : CpInfo := .utf8 (stringToUtf16 s)
/-- a pool by its gaps: so many unusable entries, then the entry; so many at the end -/
def gap : Nat → List CpInfo → List CpInfo
  | 0, r => r
  | n + 1, r => .unusable :: gap n r
def poolList (es : List (Nat × CpInfo)) (last : Nat) : List CpInfo := es.foldr (fun e r => gap e.1 (e.2 :: r)) (gap last [])
def pool (es : List (Nat × CpInfo)) (last : Nat) : Array CpInfo := ⟨poolList es last⟩
def fileOf (pool : Array CpInfo) (this : Nat) (attrs : Array Attribute := #[]) (ms : Array MethodInfo := #[]) (fl : Nat := 33) (sup : Nat := 0) (ifs : Array Nat := #[]) (fds : Array FieldInfo := #[]) : ClassFile where
  minorVersion := 0
  majorVersion := 65
  constantPool := pool
  accessFlags := fl
  thisClass := this
  superClass := sup
  interfaces := ifs
  fields := fds
  methods := ms
  attributes := attrs
def plain (name : String) (sup : Option ClassId) : Class where
  name := name
  kind := .ordinary
  loader := none
  accessFlags := 33
  super := sup
  interfaces := #[]
  cf := none
  fields := #[]
  methods := #[]
  instanceTypes := #[]
  staticTypes := #[]
  resolved := #[]
  callSites := []
  init := .initialized
  statics := none
  mirror := none

def pool0 : Array CpInfo := pool [(5, u "<init>"), (0, u "()V"), (1, .class_ 10), (1, u "java/lang/Object")] 113

def k0c0 : Code := { maxStack := 0, maxLocals := 1, code := object_method_1_code, exceptionTable := #[], attributes := #[] }
def k0m0 : Method := { name := "<init>", desc := "()V", sig := { parameters := [], returnType := none }, accessFlags := 1, code := some k0c0 }
/-- java/lang/Object -/
def k0 : Class := { plain "java/lang/Object" none with
  accessFlags := 33
  interfaces := #[]
  cf := some (fileOf pool0 8 #[] #[{ accessFlags := 1, nameIndex := 5, descriptorIndex := 6, attributes := #[] }] 33 0 #[] #[])
  fields := #[]
  methods := #[k0m0]
  instanceTypes := #[]
  staticTypes := #[]
  resolved := Array.replicate 124 none
  statics := none }

def pool1 : Array CpInfo := pool [(2, .class_ 4), (1, u "java/lang/Object"), (0, u "<init>"), (0, u "()V"), (0, .integer 2147483647), (0, .methodref 9 10), (0, .class_ 11), (0, .nameAndType 12 13), (0, u "com/example/dossier_relay/dossierrelay/bundle/FilePathsExtensionOfPinLaw"), (0, u "ch"), (0, u "(I)C"), (0, .methodref 9 15), (0, .nameAndType 16 17), (0, u "make"), (0, u "(I[C)Ljava/lang/String;"), (0, .methodref 19 20), (0, .class_ 21), (0, .nameAndType 22 23), (0, u "com/example/dossier_relay/dossierrelay/bundle/FilePaths"), (0, u "extensionOf"), (0, u "(Ljava/lang/String;)Ljava/lang/String;"), (0, .methodref 25 26), (0, .class_ 27), (0, .nameAndType 28 29), (0, u "java/lang/String"), (0, u "length"), (0, u "()I"), (0, .methodref 9 31), (0, .nameAndType 32 33), (0, u "same"), (0, u "(Ljava/lang/String;[CIII)Z"), (0, .methodref 25 35), (0, .nameAndType 5 36), (0, u "([C)V"), (0, .methodref 25 38), (0, .nameAndType 39 13), (0, u "charAt"), (2, u "law"), (0, u "(IIIIII)Z")] 5

def k1m0 : Method := { name := "<init>", desc := "()V", sig := { parameters := [], returnType := none }, accessFlags := 1, code := none }
def k1c1 : Code := { maxStack := 5, maxLocals := 12, code := code, exceptionTable := #[], attributes := #[] }
def k1m1 : Method := { name := "law", desc := "(IIIIII)Z", sig := { parameters := [.int, .int, .int, .int, .int, .int], returnType := some .boolean }, accessFlags := 9, code := some k1c1 }
def k1c2 : Code := { maxStack := 2, maxLocals := 1, code := method_3_code, exceptionTable := #[], attributes := #[] }
def k1m2 : Method := { name := "ch", desc := "(I)C", sig := { parameters := [.int], returnType := some .char }, accessFlags := 10, code := some k1c2 }
def k1c3 : Code := { maxStack := 7, maxLocals := 2, code := method_4_code, exceptionTable := #[], attributes := #[] }
def k1m3 : Method := { name := "make", desc := "(I[C)Ljava/lang/String;", sig := { parameters := [.int, (.array .char)], returnType := some (.object "java/lang/String") }, accessFlags := 10, code := some k1c3 }
def k1c4 : Code := { maxStack := 4, maxLocals := 5, code := method_5_code, exceptionTable := #[], attributes := #[] }
def k1m4 : Method := { name := "same", desc := "(Ljava/lang/String;[CIII)Z", sig := { parameters := [(.object "java/lang/String"), (.array .char), .int, .int, .int], returnType := some .boolean }, accessFlags := 10, code := some k1c4 }
/-- com/example/dossier_relay/dossierrelay/bundle/FilePathsExtensionOfPinLaw -/
def k1 : Class := { plain "com/example/dossier_relay/dossierrelay/bundle/FilePathsExtensionOfPinLaw" (some 0) with
  accessFlags := 49
  interfaces := #[]
  cf := some (fileOf pool1 9 #[] #[{ accessFlags := 1, nameIndex := 5, descriptorIndex := 6, attributes := #[] }, { accessFlags := 9, nameIndex := 42, descriptorIndex := 43, attributes := #[] }, { accessFlags := 10, nameIndex := 12, descriptorIndex := 13, attributes := #[] }, { accessFlags := 10, nameIndex := 16, descriptorIndex := 17, attributes := #[] }, { accessFlags := 10, nameIndex := 32, descriptorIndex := 33, attributes := #[] }] 49 2 #[] #[])
  fields := #[]
  methods := #[k1m0, k1m1, k1m2, k1m3, k1m4]
  instanceTypes := #[]
  staticTypes := #[]
  resolved := Array.replicate 49 none
  statics := none }

def pool2 : Array CpInfo := pool [(1, .class_ 2), (0, u "java/io/Serializable"), (0, .class_ 4), (0, u "java/lang/Object")] 2

/-- java/io/Serializable -/
def k2 : Class := { plain "java/io/Serializable" (some 0) with
  accessFlags := 1537
  interfaces := #[]
  cf := some (fileOf pool2 1 #[] #[] 1537 3 #[] #[])
  fields := #[]
  methods := #[]
  instanceTypes := #[]
  staticTypes := #[]
  resolved := Array.replicate 7 none
  statics := none }

def pool3 : Array CpInfo := pool [(1, .class_ 2), (0, u "java/lang/Comparable"), (0, .class_ 4), (0, u "java/lang/Object")] 7

/-- java/lang/Comparable -/
def k3 : Class := { plain "java/lang/Comparable" (some 0) with
  accessFlags := 1537
  interfaces := #[]
  cf := some (fileOf pool3 1 #[] #[] 1537 3 #[] #[])
  fields := #[]
  methods := #[]
  instanceTypes := #[]
  staticTypes := #[]
  resolved := Array.replicate 12 none
  statics := none }

def pool4 : Array CpInfo := pool [(2, .class_ 4), (1, u "java/lang/CharSequence"), (42, .class_ 48), (0, u "java/lang/CharSequence$1CodePointIterator"), (10, .class_ 60), (0, u "java/lang/CharSequence$1CharIterator"), (5, .class_ 67), (0, u "java/lang/Object")] 63

/-- java/lang/CharSequence -/
def k4 : Class := { plain "java/lang/CharSequence" (some 0) with
  accessFlags := 1537
  interfaces := #[]
  cf := some (fileOf pool4 2 #[.nestMembers #[47, 59]] #[] 1537 66 #[] #[])
  fields := #[]
  methods := #[]
  instanceTypes := #[]
  staticTypes := #[]
  resolved := Array.replicate 131 none
  statics := none }

def pool5 : Array CpInfo := pool [(1, .class_ 2), (0, u "java/lang/constant/Constable"), (0, .class_ 4), (0, u "java/lang/Object")] 6

/-- java/lang/constant/Constable -/
def k5 : Class := { plain "java/lang/constant/Constable" (some 0) with
  accessFlags := 1537
  interfaces := #[]
  cf := some (fileOf pool5 1 #[] #[] 1537 3 #[] #[])
  fields := #[]
  methods := #[]
  instanceTypes := #[]
  staticTypes := #[]
  resolved := Array.replicate 11 none
  statics := none }

def pool6 : Array CpInfo := pool [(1, .class_ 2), (0, u "java/lang/constant/ConstantDesc"), (0, .class_ 4), (0, u "java/lang/Object")] 32

/-- java/lang/constant/ConstantDesc -/
def k6 : Class := { plain "java/lang/constant/ConstantDesc" (some 0) with
  accessFlags := 1537
  interfaces := #[]
  cf := some (fileOf pool6 1 #[] #[] 1537 3 #[] #[])
  fields := #[]
  methods := #[]
  instanceTypes := #[]
  staticTypes := #[]
  resolved := Array.replicate 37 none
  statics := none }

def pool7 : Array CpInfo := pool [(1, .methodref 2 3), (0, .class_ 4), (0, .nameAndType 5 6), (0, u "java/lang/Object"), (0, u "<init>"), (0, u "()V"), (0, .string 8), (0, u ""), (0, .fieldref 10 11), (0, .class_ 12), (0, .nameAndType 13 14), (0, u "java/lang/String"), (0, u "value"), (0, u "[B"), (0, .fieldref 10 16), (0, .nameAndType 17 18), (0, u "coder"), (0, u "B"), (2, u "hash"), (0, u "I"), (2, u "hashIsZero"), (0, u "Z"), (0, .methodref 10 28), (0, .nameAndType 5 29), (0, u "([CIILjava/lang/Void;)V"), (8, .fieldref 10 39), (0, .nameAndType 40 26), (0, u "COMPACT_STRINGS"), (1, .class_ 44), (1, u "java/lang/StringUTF16"), (0, u "compress"), (1, .methodref 42 48), (0, .nameAndType 49 50), (0, u "coderFromArrayLen"), (0, u "([BI)B"), (46, u "([BII)I"), (9, .class_ 109), (1, u "java/lang/StringLatin1"), (32, u "()Z"), (34, .methodref 42 178), (0, .nameAndType 45 179), (0, u "([CII)[B"), (31, u "([BB)V"), (122, u "()I"), (0, .methodref 10 336), (0, .nameAndType 17 337), (0, u "()B"), (25, u "([BI)C"), (27, u "(II)V"), (35, u "(I)C"), (64, .methodref 10 493), (0, .nameAndType 494 142), (0, u "isLatin1"), (0, .methodref 107 496), (0, .nameAndType 497 363), (0, u "charAt"), (3, u "checkIndex"), (3, .methodref 10 506), (0, .nameAndType 507 334), (0, u "length"), (5, u "checkFromToIndex"), (7, .methodref 10 522), (0, .nameAndType 523 524), (0, u "checkBoundsBeginEnd"), (0, u "(III)V"), (50, .class_ 576), (0, u "java/lang/CharSequence"), (22, u "CASE_INSENSITIVE_ORDER"), (0, u "Ljava/util/Comparator;"), (35, u "(II)I"), (4, .methodref 10 642), (0, .nameAndType 643 636), (0, u "lastIndexOf"), (0, .methodref 107 645), (0, .nameAndType 643 97), (35, .methodref 10 682), (0, .nameAndType 683 684), (0, u "substring"), (0, u "(II)Ljava/lang/String;"), (0, .methodref 107 686), (0, .nameAndType 687 688), (0, u "newString"), (0, u "([BII)Ljava/lang/String;"), (76, u "(I)I"), (126, u "(I)Ljava/lang/String;"), (117, u "([C)V"), (42, .fieldref 1054 1055), (0, .class_ 1056), (0, .nameAndType 1057 1058), (0, u "jdk/internal/util/Preconditions"), (0, u "SIOOBE_FORMATTER"), (0, u "Ljava/util/function/BiFunction;"), (0, .methodref 1054 1060), (0, .nameAndType 501 1061), (0, u "(IILjava/util/function/BiFunction;)I"), (0, .methodref 1054 1063), (0, .nameAndType 513 1064), (0, u "(IIILjava/util/function/BiFunction;)I"), (36, u "serialPersistentFields"), (0, u "[Ljava/io/ObjectStreamField;"), (0, .class_ 1104), (0, u "java/lang/String$CaseInsensitiveComparator"), (1, .class_ 1107), (0, u "java/io/Serializable"), (0, .class_ 1109), (0, u "java/lang/Comparable"), (0, .class_ 1111), (0, u "java/lang/constant/Constable"), (0, .class_ 1113), (0, u "java/lang/constant/ConstantDesc"), (2, u "serialVersionUID"), (0, u "J"), (3, u "REPL"), (0, u "C"), (2, u "LATIN1"), (1, u "UTF16")] 323

def k7m0 : Method := { name := "<init>", desc := "()V", sig := { parameters := [], returnType := none }, accessFlags := 1, code := none }
def k7c1 : Code := { maxStack := 5, maxLocals := 2, code := jdk_42_method_3_code, exceptionTable := #[], attributes := #[] }
def k7m1 : Method := { name := "<init>", desc := "([C)V", sig := { parameters := [(.array .char)], returnType := none }, accessFlags := 1, code := some k7c1 }
def k7c2 : Code := { maxStack := 2, maxLocals := 1, code := jdk_42_method_54_code, exceptionTable := #[], attributes := #[] }
def k7m2 : Method := { name := "length", desc := "()I", sig := { parameters := [], returnType := some .int }, accessFlags := 1, code := some k7c2 }
def k7c3 : Code := { maxStack := 2, maxLocals := 2, code := jdk_42_method_56_code, exceptionTable := #[], attributes := #[] }
def k7m3 : Method := { name := "charAt", desc := "(I)C", sig := { parameters := [.int], returnType := some .char }, accessFlags := 1, code := some k7c3 }
def k7c4 : Code := { maxStack := 4, maxLocals := 2, code := jdk_42_method_82_code, exceptionTable := #[], attributes := #[] }
def k7m4 : Method := { name := "lastIndexOf", desc := "(I)I", sig := { parameters := [.int], returnType := some .int }, accessFlags := 1, code := some k7c4 }
def k7c5 : Code := { maxStack := 3, maxLocals := 3, code := jdk_42_method_83_code, exceptionTable := #[], attributes := #[] }
def k7m5 : Method := { name := "lastIndexOf", desc := "(II)I", sig := { parameters := [.int, .int], returnType := some .int }, accessFlags := 1, code := some k7c5 }
def k7c6 : Code := { maxStack := 3, maxLocals := 2, code := jdk_42_method_91_code, exceptionTable := #[], attributes := #[] }
def k7m6 : Method := { name := "substring", desc := "(I)Ljava/lang/String;", sig := { parameters := [.int], returnType := some (.object "java/lang/String") }, accessFlags := 1, code := some k7c6 }
def k7c7 : Code := { maxStack := 3, maxLocals := 5, code := jdk_42_method_92_code, exceptionTable := #[], attributes := #[] }
def k7m7 : Method := { name := "substring", desc := "(II)Ljava/lang/String;", sig := { parameters := [.int, .int], returnType := some (.object "java/lang/String") }, accessFlags := 1, code := some k7c7 }
def k7c8 : Code := { maxStack := 4, maxLocals := 6, code := jdk_42_method_149_code, exceptionTable := #[], attributes := #[] }
def k7m8 : Method := { name := "<init>", desc := "([CIILjava/lang/Void;)V", sig := { parameters := [(.array .char), .int, .int, (.object "java/lang/Void")], returnType := none }, accessFlags := 2, code := some k7c8 }
def k7c9 : Code := { maxStack := 2, maxLocals := 3, code := jdk_42_method_151_code, exceptionTable := #[], attributes := #[] }
def k7m9 : Method := { name := "<init>", desc := "([BB)V", sig := { parameters := [(.array .byte), .byte], returnType := none }, accessFlags := 0, code := some k7c9 }
def k7c10 : Code := { maxStack := 1, maxLocals := 1, code := jdk_42_method_152_code, exceptionTable := #[], attributes := #[] }
def k7m10 : Method := { name := "coder", desc := "()B", sig := { parameters := [], returnType := some .byte }, accessFlags := 0, code := some k7c10 }
def k7c11 : Code := { maxStack := 1, maxLocals := 1, code := jdk_42_method_154_code, exceptionTable := #[], attributes := #[] }
def k7m11 : Method := { name := "isLatin1", desc := "()Z", sig := { parameters := [], returnType := some .boolean }, accessFlags := 0, code := some k7c11 }
def k7c12 : Code := { maxStack := 3, maxLocals := 2, code := jdk_42_method_155_code, exceptionTable := #[], attributes := #[] }
def k7m12 : Method := { name := "checkIndex", desc := "(II)V", sig := { parameters := [.int, .int], returnType := none }, accessFlags := 8, code := some k7c12 }
def k7c13 : Code := { maxStack := 4, maxLocals := 3, code := jdk_42_method_158_code, exceptionTable := #[], attributes := #[] }
def k7m13 : Method := { name := "checkBoundsBeginEnd", desc := "(III)V", sig := { parameters := [.int, .int, .int], returnType := none }, accessFlags := 8, code := some k7c13 }
/-- java/lang/String -/
def k7 : Class := { plain "java/lang/String" (some 0) with
  accessFlags := 49
  interfaces := #[2, 3, 4, 5, 6]
  cf := some (fileOf pool7 10 #[.nestMembers #[1103]] #[{ accessFlags := 1, nameIndex := 5, descriptorIndex := 6, attributes := #[] }, { accessFlags := 1, nameIndex := 5, descriptorIndex := 1010, attributes := #[] }, { accessFlags := 1, nameIndex := 507, descriptorIndex := 334, attributes := #[] }, { accessFlags := 1, nameIndex := 497, descriptorIndex := 427, attributes := #[] }, { accessFlags := 1, nameIndex := 643, descriptorIndex := 765, attributes := #[] }, { accessFlags := 1, nameIndex := 643, descriptorIndex := 636, attributes := #[] }, { accessFlags := 1, nameIndex := 683, descriptorIndex := 892, attributes := #[] }, { accessFlags := 1, nameIndex := 683, descriptorIndex := 684, attributes := #[] }, { accessFlags := 2, nameIndex := 5, descriptorIndex := 29, attributes := #[] }, { accessFlags := 0, nameIndex := 5, descriptorIndex := 211, attributes := #[] }, { accessFlags := 0, nameIndex := 17, descriptorIndex := 337, attributes := #[] }, { accessFlags := 0, nameIndex := 494, descriptorIndex := 142, attributes := #[] }, { accessFlags := 8, nameIndex := 501, descriptorIndex := 391, attributes := #[] }, { accessFlags := 8, nameIndex := 523, descriptorIndex := 524, attributes := #[] }] 49 2 #[1106, 1108, 575, 1110, 1112] #[{ accessFlags := 18, nameIndex := 13, descriptorIndex := 14, attributes := #[] }, { accessFlags := 18, nameIndex := 17, descriptorIndex := 18, attributes := #[] }, { accessFlags := 2, nameIndex := 21, descriptorIndex := 22, attributes := #[] }, { accessFlags := 2, nameIndex := 25, descriptorIndex := 26, attributes := #[] }, { accessFlags := 26, nameIndex := 1116, descriptorIndex := 1117, attributes := #[] }, { accessFlags := 24, nameIndex := 40, descriptorIndex := 26, attributes := #[] }, { accessFlags := 26, nameIndex := 1101, descriptorIndex := 1102, attributes := #[] }, { accessFlags := 26, nameIndex := 1121, descriptorIndex := 1122, attributes := #[] }, { accessFlags := 25, nameIndex := 599, descriptorIndex := 600, attributes := #[] }, { accessFlags := 24, nameIndex := 1125, descriptorIndex := 18, attributes := #[] }, { accessFlags := 24, nameIndex := 1127, descriptorIndex := 18, attributes := #[] }])
  fields := #[{ name := "value", type := (.array .byte), accessFlags := 18, slot := 0, constantValue := 0 }, { name := "coder", type := .byte, accessFlags := 18, slot := 1, constantValue := 0 }, { name := "hash", type := .int, accessFlags := 2, slot := 2, constantValue := 0 }, { name := "hashIsZero", type := .boolean, accessFlags := 2, slot := 3, constantValue := 0 }, { name := "serialVersionUID", type := .long, accessFlags := 26, slot := 0, constantValue := 0 }, { name := "COMPACT_STRINGS", type := .boolean, accessFlags := 24, slot := 1, constantValue := 0 }, { name := "serialPersistentFields", type := (.array (.object "java/io/ObjectStreamField")), accessFlags := 26, slot := 2, constantValue := 0 }, { name := "REPL", type := .char, accessFlags := 26, slot := 3, constantValue := 0 }, { name := "CASE_INSENSITIVE_ORDER", type := (.object "java/util/Comparator"), accessFlags := 25, slot := 4, constantValue := 0 }, { name := "LATIN1", type := .byte, accessFlags := 24, slot := 5, constantValue := 0 }, { name := "UTF16", type := .byte, accessFlags := 24, slot := 6, constantValue := 0 }]
  methods := #[k7m0, k7m1, k7m2, k7m3, k7m4, k7m5, k7m6, k7m7, k7m8, k7m9, k7m10, k7m11, k7m12, k7m13]
  instanceTypes := #[(.array .byte), .byte, .int, .boolean]
  staticTypes := #[.long, .boolean, (.array (.object "java/io/ObjectStreamField")), .char, (.object "java/util/Comparator"), .byte, .byte]
  resolved := Array.replicate 1451 none
  statics := some 0 }

def pool8 : Array CpInfo := pool [(2, .class_ 4), (1, u "java/lang/Object"), (0, u "<init>"), (0, u "()V"), (5, .class_ 14), (1, u "java/lang/String"), (2, .class_ 18), (0, u "com/example/dossier_relay/dossierrelay/bundle/FilePaths"), (12, .methodref 12 32), (0, .nameAndType 33 34), (0, u "lastIndexOf"), (0, u "(I)I"), (0, .string 36), (0, u ""), (0, .methodref 12 38), (0, .nameAndType 39 40), (0, u "substring"), (0, u "(I)Ljava/lang/String;"), (2, u "FORBIDDEN_EXTENSIONS"), (0, u "Ljava/util/Set;"), (67, u "BYTE_ORDER"), (0, u "Ljava/util/Comparator;"), (10, u "MAX_LENGTH"), (0, u "I"), (9, u "extensionOf"), (0, u "(Ljava/lang/String;)Ljava/lang/String;")] 26

def k8m0 : Method := { name := "<init>", desc := "()V", sig := { parameters := [], returnType := none }, accessFlags := 2, code := none }
def k8c1 : Code := { maxStack := 3, maxLocals := 2, code := prog_16_method_3_code, exceptionTable := #[], attributes := #[] }
def k8m1 : Method := { name := "extensionOf", desc := "(Ljava/lang/String;)Ljava/lang/String;", sig := { parameters := [(.object "java/lang/String")], returnType := some (.object "java/lang/String") }, accessFlags := 9, code := some k8c1 }
/-- com/example/dossier_relay/dossierrelay/bundle/FilePaths -/
def k8 : Class := { plain "com/example/dossier_relay/dossierrelay/bundle/FilePaths" (some 0) with
  accessFlags := 49
  interfaces := #[]
  cf := some (fileOf pool8 17 #[] #[{ accessFlags := 2, nameIndex := 5, descriptorIndex := 6, attributes := #[] }, { accessFlags := 9, nameIndex := 135, descriptorIndex := 136, attributes := #[] }] 49 2 #[] #[{ accessFlags := 25, nameIndex := 124, descriptorIndex := 125, attributes := #[] }, { accessFlags := 24, nameIndex := 112, descriptorIndex := 113, attributes := #[] }, { accessFlags := 26, nameIndex := 43, descriptorIndex := 44, attributes := #[] }])
  fields := #[{ name := "MAX_LENGTH", type := .int, accessFlags := 25, slot := 0, constantValue := 0 }, { name := "BYTE_ORDER", type := (.object "java/util/Comparator"), accessFlags := 24, slot := 1, constantValue := 0 }, { name := "FORBIDDEN_EXTENSIONS", type := (.object "java/util/Set"), accessFlags := 26, slot := 2, constantValue := 0 }]
  methods := #[k8m0, k8m1]
  instanceTypes := #[]
  staticTypes := #[.int, (.object "java/util/Comparator"), (.object "java/util/Set")]
  resolved := Array.replicate 163 none
  statics := none }

def pool9 : Array CpInfo := pool [(1, .class_ 2), (0, u "java/lang/String"), (1, .class_ 6), (1, u "java/lang/Object"), (0, u "<init>"), (0, u "()V"), (0, .methodref 1 10), (0, .nameAndType 11 12), (0, u "checkIndex"), (0, u "(II)V"), (1, .class_ 16), (1, u "java/lang/StringLatin1"), (21, .methodref 39 40), (0, .class_ 41), (0, .nameAndType 42 43), (0, u "java/lang/Math"), (0, u "min"), (0, u "(II)I"), (9, u "([BI)C"), (34, .methodref 14 89), (0, .nameAndType 90 91), (0, u "canEncode"), (0, u "(I)Z"), (20, .methodref 1 113), (0, .nameAndType 7 114), (0, u "([BB)V"), (6, u "$assertionsDisabled"), (0, u "Z"), (8, .class_ 133), (1, u "java/util/Arrays"), (17, .string 152), (0, u ""), (43, u "newString"), (0, u "([BII)Ljava/lang/String;"), (23, .class_ 223), (1, u "java/lang/StringLatin1$LinesSpliterator"), (8, .methodref 131 233), (0, .nameAndType 234 235), (0, u "copyOfRange"), (0, u "([BII)[B"), (16, u "charAt"), (8, u "([BII)I"), (47, u "lastIndexOf"), (80, .class_ 391), (0, u "java/lang/StringLatin1$CharsSpliterator")] 3

def k9m0 : Method := { name := "<init>", desc := "()V", sig := { parameters := [], returnType := none }, accessFlags := 0, code := none }
def k9c1 : Code := { maxStack := 2, maxLocals := 2, code := jdk_43_method_2_code, exceptionTable := #[], attributes := #[] }
def k9m1 : Method := { name := "charAt", desc := "([BI)C", sig := { parameters := [(.array .byte), .int], returnType := some .char }, accessFlags := 9, code := some k9c1 }
def k9c2 : Code := { maxStack := 2, maxLocals := 1, code := jdk_43_method_4_code, exceptionTable := #[], attributes := #[] }
def k9m2 : Method := { name := "canEncode", desc := "(I)Z", sig := { parameters := [.int], returnType := some .boolean }, accessFlags := 9, code := some k9c2 }
def k9c3 : Code := { maxStack := 3, maxLocals := 4, code := jdk_43_method_27_code, exceptionTable := #[], attributes := #[] }
def k9m3 : Method := { name := "lastIndexOf", desc := "([BII)I", sig := { parameters := [(.array .byte), .int, .int], returnType := some .int }, accessFlags := 9, code := some k9c3 }
def k9c4 : Code := { maxStack := 6, maxLocals := 3, code := jdk_43_method_47_code, exceptionTable := #[], attributes := #[] }
def k9m4 : Method := { name := "newString", desc := "([BII)Ljava/lang/String;", sig := { parameters := [(.array .byte), .int, .int], returnType := some (.object "java/lang/String") }, accessFlags := 9, code := some k9c4 }
/-- java/lang/StringLatin1 -/
def k9 : Class := { plain "java/lang/StringLatin1" (some 0) with
  accessFlags := 48
  interfaces := #[]
  cf := some (fileOf pool9 14 #[.nestMembers #[390, 221]] #[{ accessFlags := 0, nameIndex := 7, descriptorIndex := 8, attributes := #[] }, { accessFlags := 9, nameIndex := 252, descriptorIndex := 53, attributes := #[] }, { accessFlags := 9, nameIndex := 90, descriptorIndex := 91, attributes := #[] }, { accessFlags := 9, nameIndex := 309, descriptorIndex := 261, attributes := #[] }, { accessFlags := 9, nameIndex := 196, descriptorIndex := 197, attributes := #[] }] 48 4 #[] #[{ accessFlags := 4120, nameIndex := 121, descriptorIndex := 122, attributes := #[] }])
  fields := #[{ name := "$assertionsDisabled", type := .boolean, accessFlags := 4120, slot := 0, constantValue := 0 }]
  methods := #[k9m0, k9m1, k9m2, k9m3, k9m4]
  instanceTypes := #[]
  staticTypes := #[.boolean]
  resolved := Array.replicate 395 none
  statics := none }

def pool10 : Array CpInfo := pool [(1, .class_ 2), (0, u "java/lang/Math"), (1, .class_ 6), (1, u "java/lang/Object"), (0, u "<init>"), (0, u "()V"), (89, .class_ 100), (1, u "java/lang/Math$RandomNumberGeneratorHolder"), (71, u "negativeZeroFloatBits"), (0, u "J"), (2, u "negativeZeroDoubleBits"), (24, u "min"), (43, u "$assertionsDisabled"), (0, u "Z"), (88, u "(II)I"), (2, u "twoToTheDoubleScaleDown"), (0, u "D"), (4, u "twoToTheDoubleScaleUp"), (9, u "E"), (3, u "PI"), (2, u "TAU"), (2, u "DEGREES_TO_RADIANS"), (0, u "RADIANS_TO_DEGREES")] 94

def k10m0 : Method := { name := "<init>", desc := "()V", sig := { parameters := [], returnType := none }, accessFlags := 2, code := none }
def k10c1 : Code := { maxStack := 2, maxLocals := 2, code := jdk_29_method_69_code, exceptionTable := #[], attributes := #[] }
def k10m1 : Method := { name := "min", desc := "(II)I", sig := { parameters := [.int, .int], returnType := some .int }, accessFlags := 9, code := some k10c1 }
/-- java/lang/Math -/
def k10 : Class := { plain "java/lang/Math" (some 0) with
  accessFlags := 49
  interfaces := #[]
  cf := some (fileOf pool10 1 #[.nestMembers #[98]] #[{ accessFlags := 2, nameIndex := 7, descriptorIndex := 8, attributes := #[] }, { accessFlags := 9, nameIndex := 201, descriptorIndex := 335, attributes := #[] }] 49 4 #[] #[{ accessFlags := 25, nameIndex := 354, descriptorIndex := 339, attributes := #[] }, { accessFlags := 25, nameIndex := 358, descriptorIndex := 339, attributes := #[] }, { accessFlags := 25, nameIndex := 361, descriptorIndex := 339, attributes := #[] }, { accessFlags := 26, nameIndex := 364, descriptorIndex := 339, attributes := #[] }, { accessFlags := 26, nameIndex := 365, descriptorIndex := 339, attributes := #[] }, { accessFlags := 26, nameIndex := 172, descriptorIndex := 173, attributes := #[] }, { accessFlags := 26, nameIndex := 176, descriptorIndex := 173, attributes := #[] }, { accessFlags := 8, nameIndex := 344, descriptorIndex := 339, attributes := #[] }, { accessFlags := 8, nameIndex := 338, descriptorIndex := 339, attributes := #[] }, { accessFlags := 4120, nameIndex := 245, descriptorIndex := 246, attributes := #[] }])
  fields := #[{ name := "E", type := .double, accessFlags := 25, slot := 0, constantValue := 0 }, { name := "PI", type := .double, accessFlags := 25, slot := 1, constantValue := 0 }, { name := "TAU", type := .double, accessFlags := 25, slot := 2, constantValue := 0 }, { name := "DEGREES_TO_RADIANS", type := .double, accessFlags := 26, slot := 3, constantValue := 0 }, { name := "RADIANS_TO_DEGREES", type := .double, accessFlags := 26, slot := 4, constantValue := 0 }, { name := "negativeZeroFloatBits", type := .long, accessFlags := 26, slot := 5, constantValue := 0 }, { name := "negativeZeroDoubleBits", type := .long, accessFlags := 26, slot := 6, constantValue := 0 }, { name := "twoToTheDoubleScaleUp", type := .double, accessFlags := 8, slot := 7, constantValue := 0 }, { name := "twoToTheDoubleScaleDown", type := .double, accessFlags := 8, slot := 8, constantValue := 0 }, { name := "$assertionsDisabled", type := .boolean, accessFlags := 4120, slot := 9, constantValue := 0 }]
  methods := #[k10m0, k10m1]
  instanceTypes := #[]
  staticTypes := #[.double, .double, .double, .double, .double, .long, .long, .double, .double, .boolean]
  resolved := Array.replicate 460 none
  statics := none }

def pool11 : Array CpInfo := pool [(6, .class_ 8), (1, u "java/lang/Object"), (0, u "<init>"), (0, u "()V"), (1, .class_ 14), (1, u "java/lang/StringUTF16"), (31, u "$assertionsDisabled"), (0, u "Z"), (13, u "HI_BYTE_SHIFT"), (0, u "I"), (2, u "LO_BYTE_SHIFT"), (49, .methodref 12 116), (0, .nameAndType 117 118), (0, u "compress"), (0, u "([CI[BII)I"), (3, u "([CII)[B"), (138, u "coderFromArrayLen"), (0, u "([BI)B"), (106, .class_ 371), (1, u "java/lang/StringUTF16$LinesSpliterator"), (58, u "MAX_LENGTH"), (196, .class_ 628), (0, u "java/lang/StringUTF16$CodePointsSpliterator"), (0, .class_ 630), (0, u "java/lang/StringUTF16$CharsSpliterator")] 4

def k11m0 : Method := { name := "<init>", desc := "()V", sig := { parameters := [], returnType := none }, accessFlags := 0, code := none }
def k11c1 : Code := { maxStack := 2, maxLocals := 2, code := jdk_52_method_15_code, exceptionTable := #[], attributes := #[] }
def k11m1 : Method := { name := "coderFromArrayLen", desc := "([BI)B", sig := { parameters := [(.array .byte), .int], returnType := some .byte }, accessFlags := 8, code := some k11c1 }
def k11c2 : Code := { maxStack := 5, maxLocals := 6, code := jdk_52_method_16_code, exceptionTable := #[], attributes := #[] }
def k11m2 : Method := { name := "compress", desc := "([CII)[B", sig := { parameters := [(.array .char), .int, .int], returnType := some (.array .byte) }, accessFlags := 9, code := some k11c2 }
def k11c3 : Code := { maxStack := 3, maxLocals := 7, code := jdk_52_method_21_code, exceptionTable := #[], attributes := #[] }
def k11m3 : Method := { name := "compress", desc := "([CI[BII)I", sig := { parameters := [(.array .char), .int, (.array .byte), .int, .int], returnType := some .int }, accessFlags := 9, code := some k11c3 }
/-- java/lang/StringUTF16 -/
def k11 : Class := { plain "java/lang/StringUTF16" (some 0) with
  accessFlags := 48
  interfaces := #[]
  cf := some (fileOf pool11 12 #[.nestMembers #[627, 629, 369]] #[{ accessFlags := 0, nameIndex := 9, descriptorIndex := 10, attributes := #[] }, { accessFlags := 8, nameIndex := 261, descriptorIndex := 262, attributes := #[] }, { accessFlags := 9, nameIndex := 117, descriptorIndex := 122, attributes := #[] }, { accessFlags := 9, nameIndex := 117, descriptorIndex := 118, attributes := #[] }] 48 6 #[] #[{ accessFlags := 26, nameIndex := 61, descriptorIndex := 62, attributes := #[] }, { accessFlags := 26, nameIndex := 65, descriptorIndex := 62, attributes := #[] }, { accessFlags := 24, nameIndex := 430, descriptorIndex := 62, attributes := #[] }, { accessFlags := 4120, nameIndex := 46, descriptorIndex := 47, attributes := #[] }])
  fields := #[{ name := "HI_BYTE_SHIFT", type := .int, accessFlags := 26, slot := 0, constantValue := 0 }, { name := "LO_BYTE_SHIFT", type := .int, accessFlags := 26, slot := 1, constantValue := 0 }, { name := "MAX_LENGTH", type := .int, accessFlags := 24, slot := 2, constantValue := 0 }, { name := "$assertionsDisabled", type := .boolean, accessFlags := 4120, slot := 3, constantValue := 0 }]
  methods := #[k11m0, k11m1, k11m2, k11m3]
  instanceTypes := #[]
  staticTypes := #[.int, .int, .int, .boolean]
  resolved := Array.replicate 635 none
  statics := none }

def pool12 : Array CpInfo := pool [(2, .class_ 4), (1, u "java/lang/Object"), (0, u "<init>"), (0, u "()V"), (17, .class_ 26), (1, u "jdk/internal/util/Preconditions"), (6, u "checkIndex"), (13, u "checkFromToIndex"), (7, .class_ 56), (0, u "jdk/internal/util/Preconditions$4"), (57, .class_ 115), (0, u "jdk/internal/util/Preconditions$1"), (7, u "SIOOBE_FORMATTER"), (0, u "Ljava/util/function/BiFunction;"), (0, .class_ 126), (0, u "jdk/internal/util/Preconditions$2"), (3, u "AIOOBE_FORMATTER"), (0, .class_ 132), (0, u "jdk/internal/util/Preconditions$3"), (3, u "IOOBE_FORMATTER"), (41, u "(IILjava/util/function/BiFunction;)I"), (4, u "(IIILjava/util/function/BiFunction;)I")] 10

def k12m0 : Method := { name := "<init>", desc := "()V", sig := { parameters := [], returnType := none }, accessFlags := 1, code := none }
def k12c1 : Code := { maxStack := 3, maxLocals := 3, code := jdk_41_method_11_code, exceptionTable := #[], attributes := #[] }
def k12m1 : Method := { name := "checkIndex", desc := "(IILjava/util/function/BiFunction;)I", sig := { parameters := [.int, .int, (.object "java/util/function/BiFunction")], returnType := some .int }, accessFlags := 9, code := some k12c1 }
def k12c2 : Code := { maxStack := 4, maxLocals := 4, code := jdk_41_method_12_code, exceptionTable := #[], attributes := #[] }
def k12m2 : Method := { name := "checkFromToIndex", desc := "(IIILjava/util/function/BiFunction;)I", sig := { parameters := [.int, .int, .int, (.object "java/util/function/BiFunction")], returnType := some .int }, accessFlags := 9, code := some k12c2 }
/-- jdk/internal/util/Preconditions -/
def k12 : Class := { plain "jdk/internal/util/Preconditions" (some 0) with
  accessFlags := 33
  interfaces := #[]
  cf := some (fileOf pool12 24 #[.nestMembers #[55, 131, 125, 114]] #[{ accessFlags := 1, nameIndex := 5, descriptorIndex := 6, attributes := #[] }, { accessFlags := 9, nameIndex := 33, descriptorIndex := 178, attributes := #[] }, { accessFlags := 9, nameIndex := 47, descriptorIndex := 183, attributes := #[] }] 33 2 #[] #[{ accessFlags := 25, nameIndex := 123, descriptorIndex := 124, attributes := #[] }, { accessFlags := 25, nameIndex := 130, descriptorIndex := 124, attributes := #[] }, { accessFlags := 25, nameIndex := 136, descriptorIndex := 124, attributes := #[] }])
  fields := #[{ name := "SIOOBE_FORMATTER", type := (.object "java/util/function/BiFunction"), accessFlags := 25, slot := 0, constantValue := 0 }, { name := "AIOOBE_FORMATTER", type := (.object "java/util/function/BiFunction"), accessFlags := 25, slot := 1, constantValue := 0 }, { name := "IOOBE_FORMATTER", type := (.object "java/util/function/BiFunction"), accessFlags := 25, slot := 2, constantValue := 0 }]
  methods := #[k12m0, k12m1, k12m2]
  instanceTypes := #[]
  staticTypes := #[(.object "java/util/function/BiFunction"), (.object "java/util/function/BiFunction"), (.object "java/util/function/BiFunction")]
  resolved := Array.replicate 194 none
  statics := some 1 }

def pool13 : Array CpInfo := pool [(2, .class_ 4), (1, u "java/lang/Object"), (0, u "<init>"), (0, u "()V"), (7, .class_ 16), (1, u "java/util/Arrays"), (57, .class_ 76), (1, u "java/util/Arrays$NaturalOrder"), (36, .class_ 115), (1, u "java/util/Arrays$LegacyMergeSort"), (1, u "Z"), (21, u "copyOfRange"), (10, .methodref 151 152), (0, .class_ 153), (0, .nameAndType 154 155), (0, u "java/lang/System"), (0, u "arraycopy"), (0, u "(Ljava/lang/Object;ILjava/lang/Object;II)V"), (148, .methodref 305 306), (0, .class_ 307), (0, .nameAndType 308 309), (0, u "java/lang/Math"), (0, u "min"), (0, u "(II)I"), (29, .methodref 14 340), (0, .nameAndType 341 342), (0, u "copyOfRangeByte"), (0, u "([BII)[B"), (0, .methodref 14 344), (0, .nameAndType 345 346), (0, u "checkLength"), (0, u "(II)V"), (28, .class_ 376), (0, u "java/util/Arrays$ArrayList"), (68, u "$assertionsDisabled"), (269, u "MIN_ARRAY_SORT_GRAN"), (0, u "I"), (2, u "INSERTIONSORT_THRESHOLD"), (255, .class_ 976), (0, u "java/util/Arrays$ArrayItr")] 52

def k13m0 : Method := { name := "<init>", desc := "()V", sig := { parameters := [], returnType := none }, accessFlags := 2, code := none }
def k13c1 : Code := { maxStack := 4, maxLocals := 2, code := jdk_65_method_131_code, exceptionTable := #[], attributes := #[] }
def k13m1 : Method := { name := "checkLength", desc := "(II)V", sig := { parameters := [.int, .int], returnType := none }, accessFlags := 10, code := some k13c1 }
def k13c2 : Code := { maxStack := 3, maxLocals := 3, code := jdk_65_method_132_code, exceptionTable := #[], attributes := #[] }
def k13m2 : Method := { name := "copyOfRange", desc := "([BII)[B", sig := { parameters := [(.array .byte), .int, .int], returnType := some (.array .byte) }, accessFlags := 9, code := some k13c2 }
def k13c3 : Code := { maxStack := 6, maxLocals := 5, code := jdk_65_method_133_code, exceptionTable := #[], attributes := #[] }
def k13m3 : Method := { name := "copyOfRangeByte", desc := "([BII)[B", sig := { parameters := [(.array .byte), .int, .int], returnType := some (.array .byte) }, accessFlags := 10, code := some k13c3 }
/-- java/util/Arrays -/
def k13 : Class := { plain "java/util/Arrays" (some 0) with
  accessFlags := 49
  interfaces := #[]
  cf := some (fileOf pool13 14 #[.nestMembers #[975, 375, 113, 74]] #[{ accessFlags := 2, nameIndex := 5, descriptorIndex := 6, attributes := #[] }, { accessFlags := 10, nameIndex := 345, descriptorIndex := 346, attributes := #[] }, { accessFlags := 9, nameIndex := 139, descriptorIndex := 342, attributes := #[] }, { accessFlags := 10, nameIndex := 341, descriptorIndex := 342, attributes := #[] }] 49 2 #[] #[{ accessFlags := 26, nameIndex := 715, descriptorIndex := 716, attributes := #[] }, { accessFlags := 26, nameIndex := 719, descriptorIndex := 716, attributes := #[] }, { accessFlags := 4120, nameIndex := 445, descriptorIndex := 117, attributes := #[] }])
  fields := #[{ name := "MIN_ARRAY_SORT_GRAN", type := .int, accessFlags := 26, slot := 0, constantValue := 0 }, { name := "INSERTIONSORT_THRESHOLD", type := .int, accessFlags := 26, slot := 1, constantValue := 0 }, { name := "$assertionsDisabled", type := .boolean, accessFlags := 4120, slot := 2, constantValue := 0 }]
  methods := #[k13m0, k13m1, k13m2, k13m3]
  instanceTypes := #[]
  staticTypes := #[.int, .int, .boolean]
  resolved := Array.replicate 1029 none
  statics := none }

def pool14 : Array CpInfo := pool [(2, .class_ 4), (1, u "java/lang/Object"), (0, u "<init>"), (0, u "()V"), (1, .class_ 10), (1, u "java/lang/System"), (0, u "allowSecurityManager"), (0, u "I"), (16, u "cons"), (0, u "Ljava/io/Console;"), (77, .class_ 110), (1, u "java/lang/System$CallersHolder"), (43, u "initialErrStream"), (0, u "Ljava/io/PrintStream;"), (19, u "security"), (0, u "Ljava/lang/SecurityManager;"), (31, .class_ 209), (0, u "java/lang/System$1"), (7, u "props"), (0, u "Ljava/util/Properties;"), (2, u "lineSeparator"), (0, u "Ljava/lang/String;"), (96, .class_ 321), (1, u "java/lang/System$LoggerFinder"), (5, .class_ 328), (0, u "java/lang/System$Logger"), (67, u "err"), (2, u "out"), (91, u "notSupportedJnuEncoding"), (15, u "in"), (17, u "initialIn"), (0, u "Ljava/io/InputStream;"), (35, u "bootLayer"), (0, u "Ljava/lang/ModuleLayer;"), (99, .class_ 664), (0, u "java/lang/System$2"), (9, u "NEVER"), (2, u "MAYBE"), (49, u "arraycopy"), (0, u "(Ljava/lang/Object;ILjava/lang/Object;II)V"), (72, .class_ 802), (0, u "java/lang/System$Logger$Level")] 31

def k14m0 : Method := { name := "<init>", desc := "()V", sig := { parameters := [], returnType := none }, accessFlags := 2, code := none }
def k14m1 : Method := { name := "arraycopy", desc := "(Ljava/lang/Object;ILjava/lang/Object;II)V", sig := { parameters := [(.object "java/lang/Object"), .int, (.object "java/lang/Object"), .int, .int], returnType := none }, accessFlags := 265, code := none }
/-- java/lang/System -/
def k14 : Class := { plain "java/lang/System" (some 0) with
  accessFlags := 49
  interfaces := #[]
  cf := some (fileOf pool14 8 #[.nestMembers #[319, 327, 801, 108, 663, 208]] #[{ accessFlags := 2, nameIndex := 5, descriptorIndex := 6, attributes := #[] }, { accessFlags := 265, nameIndex := 727, descriptorIndex := 728, attributes := #[] }] 49 2 #[] #[{ accessFlags := 25, nameIndex := 507, descriptorIndex := 526, attributes := #[] }, { accessFlags := 25, nameIndex := 399, descriptorIndex := 155, attributes := #[] }, { accessFlags := 25, nameIndex := 396, descriptorIndex := 155, attributes := #[] }, { accessFlags := 10, nameIndex := 525, descriptorIndex := 526, attributes := #[] }, { accessFlags := 26, nameIndex := 674, descriptorIndex := 12, attributes := #[] }, { accessFlags := 26, nameIndex := 677, descriptorIndex := 12, attributes := #[] }, { accessFlags := 10, nameIndex := 11, descriptorIndex := 12, attributes := #[] }, { accessFlags := 74, nameIndex := 175, descriptorIndex := 176, attributes := #[] }, { accessFlags := 10, nameIndex := 491, descriptorIndex := 222, attributes := #[] }, { accessFlags := 74, nameIndex := 29, descriptorIndex := 30, attributes := #[] }, { accessFlags := 74, nameIndex := 154, descriptorIndex := 155, attributes := #[] }, { accessFlags := 10, nameIndex := 217, descriptorIndex := 218, attributes := #[] }, { accessFlags := 10, nameIndex := 221, descriptorIndex := 222, attributes := #[] }, { accessFlags := 8, nameIndex := 562, descriptorIndex := 563, attributes := #[] }])
  fields := #[{ name := "in", type := (.object "java/io/InputStream"), accessFlags := 25, slot := 0, constantValue := 0 }, { name := "out", type := (.object "java/io/PrintStream"), accessFlags := 25, slot := 1, constantValue := 0 }, { name := "err", type := (.object "java/io/PrintStream"), accessFlags := 25, slot := 2, constantValue := 0 }, { name := "initialIn", type := (.object "java/io/InputStream"), accessFlags := 10, slot := 3, constantValue := 0 }, { name := "NEVER", type := .int, accessFlags := 26, slot := 4, constantValue := 0 }, { name := "MAYBE", type := .int, accessFlags := 26, slot := 5, constantValue := 0 }, { name := "allowSecurityManager", type := .int, accessFlags := 10, slot := 6, constantValue := 0 }, { name := "security", type := (.object "java/lang/SecurityManager"), accessFlags := 74, slot := 7, constantValue := 0 }, { name := "notSupportedJnuEncoding", type := (.object "java/lang/String"), accessFlags := 10, slot := 8, constantValue := 0 }, { name := "cons", type := (.object "java/io/Console"), accessFlags := 74, slot := 9, constantValue := 0 }, { name := "initialErrStream", type := (.object "java/io/PrintStream"), accessFlags := 74, slot := 10, constantValue := 0 }, { name := "props", type := (.object "java/util/Properties"), accessFlags := 10, slot := 11, constantValue := 0 }, { name := "lineSeparator", type := (.object "java/lang/String"), accessFlags := 10, slot := 12, constantValue := 0 }, { name := "bootLayer", type := (.object "java/lang/ModuleLayer"), accessFlags := 8, slot := 13, constantValue := 0 }]
  methods := #[k14m0, k14m1]
  instanceTypes := #[]
  staticTypes := #[(.object "java/io/InputStream"), (.object "java/io/PrintStream"), (.object "java/io/PrintStream"), (.object "java/io/InputStream"), .int, .int, .int, (.object "java/lang/SecurityManager"), (.object "java/lang/String"), (.object "java/io/Console"), (.object "java/io/PrintStream"), (.object "java/util/Properties"), (.object "java/lang/String"), (.object "java/lang/ModuleLayer")]
  resolved := Array.replicate 834 none
  statics := none }

def pool15 : Array CpInfo := pool [(9, u "<init>"), (6, .class_ 18), (1, u "java/lang/Object"), (0, u "()V"), (1, .class_ 23), (1, u "jdk/internal/util/ArraysSupport"), (0, u "LOG2_ARRAY_LONG_INDEX_SCALE"), (0, u "I"), (2, u "U"), (0, u "Ljdk/internal/misc/Unsafe;"), (8, u "BIG_ENDIAN"), (0, u "Z"), (8, u "LOG2_BYTE_BIT_SIZE"), (4, u "LOG2_ARRAY_INT_INDEX_SCALE"), (54, u "JLA"), (0, u "Ljdk/internal/access/JavaLangAccess;"), (11, u "LOG2_ARRAY_BOOLEAN_INDEX_SCALE"), (9, u "LOG2_ARRAY_BYTE_INDEX_SCALE"), (5, u "LOG2_ARRAY_CHAR_INDEX_SCALE"), (5, u "LOG2_ARRAY_SHORT_INDEX_SCALE"), (18, u "LOG2_ARRAY_FLOAT_INDEX_SCALE"), (24, u "LOG2_ARRAY_DOUBLE_INDEX_SCALE"), (89, u "T_BOOLEAN"), (2, u "T_CHAR"), (1, u "T_FLOAT"), (1, u "T_DOUBLE"), (1, u "T_BYTE"), (1, u "T_SHORT"), (1, u "T_INT"), (1, u "T_LONG"), (1, u "SOFT_MAX_ARRAY_LENGTH")] 83

def k15m0 : Method := { name := "<init>", desc := "()V", sig := { parameters := [], returnType := none }, accessFlags := 2, code := none }
/-- jdk/internal/util/ArraysSupport -/
def k15 : Class := { plain "jdk/internal/util/ArraysSupport" (some 0) with
  accessFlags := 33
  interfaces := #[]
  cf := some (fileOf pool15 21 #[] #[{ accessFlags := 2, nameIndex := 9, descriptorIndex := 19, attributes := #[] }] 33 16 #[] #[{ accessFlags := 24, nameIndex := 28, descriptorIndex := 29, attributes := #[] }, { accessFlags := 26, nameIndex := 38, descriptorIndex := 39, attributes := #[] }, { accessFlags := 25, nameIndex := 121, descriptorIndex := 25, attributes := #[] }, { accessFlags := 25, nameIndex := 131, descriptorIndex := 25, attributes := #[] }, { accessFlags := 25, nameIndex := 137, descriptorIndex := 25, attributes := #[] }, { accessFlags := 25, nameIndex := 143, descriptorIndex := 25, attributes := #[] }, { accessFlags := 25, nameIndex := 53, descriptorIndex := 25, attributes := #[] }, { accessFlags := 25, nameIndex := 24, descriptorIndex := 25, attributes := #[] }, { accessFlags := 25, nameIndex := 162, descriptorIndex := 25, attributes := #[] }, { accessFlags := 25, nameIndex := 187, descriptorIndex := 25, attributes := #[] }, { accessFlags := 26, nameIndex := 48, descriptorIndex := 25, attributes := #[] }, { accessFlags := 25, nameIndex := 277, descriptorIndex := 25, attributes := #[] }, { accessFlags := 25, nameIndex := 280, descriptorIndex := 25, attributes := #[] }, { accessFlags := 25, nameIndex := 282, descriptorIndex := 25, attributes := #[] }, { accessFlags := 25, nameIndex := 284, descriptorIndex := 25, attributes := #[] }, { accessFlags := 25, nameIndex := 286, descriptorIndex := 25, attributes := #[] }, { accessFlags := 25, nameIndex := 288, descriptorIndex := 25, attributes := #[] }, { accessFlags := 25, nameIndex := 290, descriptorIndex := 25, attributes := #[] }, { accessFlags := 25, nameIndex := 292, descriptorIndex := 25, attributes := #[] }, { accessFlags := 26, nameIndex := 108, descriptorIndex := 109, attributes := #[] }, { accessFlags := 25, nameIndex := 294, descriptorIndex := 25, attributes := #[] }])
  fields := #[{ name := "U", type := (.object "jdk/internal/misc/Unsafe"), accessFlags := 24, slot := 0, constantValue := 0 }, { name := "BIG_ENDIAN", type := .boolean, accessFlags := 26, slot := 1, constantValue := 0 }, { name := "LOG2_ARRAY_BOOLEAN_INDEX_SCALE", type := .int, accessFlags := 25, slot := 2, constantValue := 0 }, { name := "LOG2_ARRAY_BYTE_INDEX_SCALE", type := .int, accessFlags := 25, slot := 3, constantValue := 0 }, { name := "LOG2_ARRAY_CHAR_INDEX_SCALE", type := .int, accessFlags := 25, slot := 4, constantValue := 0 }, { name := "LOG2_ARRAY_SHORT_INDEX_SCALE", type := .int, accessFlags := 25, slot := 5, constantValue := 0 }, { name := "LOG2_ARRAY_INT_INDEX_SCALE", type := .int, accessFlags := 25, slot := 6, constantValue := 0 }, { name := "LOG2_ARRAY_LONG_INDEX_SCALE", type := .int, accessFlags := 25, slot := 7, constantValue := 0 }, { name := "LOG2_ARRAY_FLOAT_INDEX_SCALE", type := .int, accessFlags := 25, slot := 8, constantValue := 0 }, { name := "LOG2_ARRAY_DOUBLE_INDEX_SCALE", type := .int, accessFlags := 25, slot := 9, constantValue := 0 }, { name := "LOG2_BYTE_BIT_SIZE", type := .int, accessFlags := 26, slot := 10, constantValue := 0 }, { name := "T_BOOLEAN", type := .int, accessFlags := 25, slot := 11, constantValue := 0 }, { name := "T_CHAR", type := .int, accessFlags := 25, slot := 12, constantValue := 0 }, { name := "T_FLOAT", type := .int, accessFlags := 25, slot := 13, constantValue := 0 }, { name := "T_DOUBLE", type := .int, accessFlags := 25, slot := 14, constantValue := 0 }, { name := "T_BYTE", type := .int, accessFlags := 25, slot := 15, constantValue := 0 }, { name := "T_SHORT", type := .int, accessFlags := 25, slot := 16, constantValue := 0 }, { name := "T_INT", type := .int, accessFlags := 25, slot := 17, constantValue := 0 }, { name := "T_LONG", type := .int, accessFlags := 25, slot := 18, constantValue := 0 }, { name := "JLA", type := (.object "jdk/internal/access/JavaLangAccess"), accessFlags := 26, slot := 19, constantValue := 0 }, { name := "SOFT_MAX_ARRAY_LENGTH", type := .int, accessFlags := 25, slot := 20, constantValue := 0 }]
  methods := #[k15m0]
  instanceTypes := #[]
  staticTypes := #[(.object "jdk/internal/misc/Unsafe"), .boolean, .int, .int, .int, .int, .int, .int, .int, .int, .int, .int, .int, .int, .int, .int, .int, .int, .int, (.object "jdk/internal/access/JavaLangAccess"), .int]
  resolved := Array.replicate 378 none
  statics := none }

def pool16 : Array CpInfo := pool [(1, u "java/lang/Cloneable"), (0, .class_ 1), (0, u "java/lang/Object"), (0, .class_ 3)] 3

/-- java/lang/Cloneable -/
def k16 : Class := { plain "java/lang/Cloneable" (some 0) with
  accessFlags := 1537
  interfaces := #[]
  cf := some (fileOf pool16 2 #[] #[] 1537 4 #[] #[])
  fields := #[]
  methods := #[]
  instanceTypes := #[]
  staticTypes := #[]
  resolved := Array.replicate 8 none
  statics := none }

/-- the primitive byte -/
def k17 : Class := { plain "byte" none with kind := .primitive 'B', accessFlags := 0x411 }
/-- [B -/
def k18 : Class := { plain "[B" (some 0) with kind := .array 17 .byte, interfaces := #[16, 2], accessFlags := 1041 }

/-- the primitive char -/
def k19 : Class := { plain "char" none with kind := .primitive 'C', accessFlags := 0x411 }
/-- [C -/
def k20 : Class := { plain "[C" (some 0) with kind := .array 19 .char, interfaces := #[16, 2], accessFlags := 1041 }

/-- the primitive int -/
def k21 : Class := { plain "int" none with kind := .primitive 'I', accessFlags := 0x411 }
/-- [I -/
def k22 : Class := { plain "[I" (some 0) with kind := .array 21 .int, interfaces := #[16, 2], accessFlags := 1041 }

def heap : Heap := #[{ cls := 7, slots := #[.long 0, .int 1, .null, .int 0, .null, .int 0, .int 0], vm := .statics 7 },
  { cls := 12, slots := #[.null, .null, .null], vm := .statics 12 }]
def classes : Array Class := #[k0, k1, k2, k3, k4, k5, k6, k7, k8, k9, k10, k11, k12, k13, k14, k15, k16, k17, k18, k19, k20, k21, k22]
def interned : List (Array UInt16 × Addr) := []
def slotsUsed : Nat := 10
def theMethod : MethodId := ⟨1, 1⟩
def args0 : Array Value := #[.int 3, .int 1, .int 2, .int 3, .int 4, .int 5]
def aboutOver (below : List Frame) : State where
  vm := { classes := classes, interned := interned.toArray }
  heap := heap
  slotsUsed := slotsUsed
  threads := #[{ frames := .invoking theMethod args0 :: below }]
def below0 : List Frame := [.native { method := ⟨0, 0⟩, args := #[] }]
def about1 : State := aboutOver below0
def p0 : Program := .bare "" "" ""
def e0 : Env := launch0.env 0 0 0
theorem w_frames : about1.frames = Frame.invoking theMethod args0 :: below0 := rfl
set_option maxRecDepth 65536 in
theorem w_args : argsFit about1.vm theMethod args0 = true := by decide +kernel
set_option maxRecDepth 65536 in
theorem w_heap : heapFits about1 = true := by decide +kernel
set_option maxRecDepth 65536 in
theorem w_runnable : about1.curStatus? = some .runnable := by decide +kernel
set_option maxRecDepth 65536 in
theorem w_alone : about1.alone = true := by decide +kernel
set_option maxRecDepth 65536 in
theorem w_named : about1.methodNamed? x = some theMethod := by decide +kernel
set_option maxRecDepth 65536 in
theorem w_hears : about1.hears theMethod below0 = true := by decide +kernel
set_option maxRecDepth 65536 in
theorem w_ripe : about1.ripe theMethod args0 below0 = true := by decide +kernel
theorem w_running : about1.status = .running := rfl
set_option maxRecDepth 65536 in
theorem w_room : about1.hasRoom e0.platform room_1 = true :=
  launch0.hasRoom_least _ room_1 (by decide +kernel) (by decide +kernel) (by decide +kernel) (by decide +kernel) (by decide +kernel) (by decide +kernel)
theorem allAtoms_all (ts : List Jvm.Cond) (a : Array Jvm.Value) (st : Jvm.State) : (allAtoms ts).before a st = ts.all (fun c => c.before a st) := by
  induction ts with
  | nil => rfl
  | cons c t ih =>
    show (Jvm.Cond.and c (allAtoms t)).before a st = _
    rw [Jvm.Cond.before_and, ih, List.all_cons]
def words1 : List Jvm.Cond := Jvm.Cond.code x code maxLocals ret :: tables_1
/-- a 'code' word, met by the world's own term for the bytes: nothing is compared byte by byte -/
theorem code_word {y : MethodName} {bytes : ByteArray} {mx : Nat} {rt : Option FieldType} {a : Array Value} {s : State} {m : MethodId} {meth : Method} {c : Code} (h1 : s.methodNamed? y = some m) (h2 : s.vm.method? m = some meth) (h3 : meth.code = some c) (h4 : c.code = bytes)
    (h5 : (c.maxLocals == mx && c.exceptionTable.isEmpty && decide (c.maxStack ≤ mostOperands) && decide (meth.sig.returnType = rt) && !meth.locks && decide (parseMethodDescriptor y.desc = some meth.sig)) = true) : (Jvm.Cond.code y bytes mx rt).before a s = true := by
  simp only [Bool.and_eq_true, beq_iff_eq, Bool.not_eq_true', decide_eq_true_eq] at h5
  obtain ⟨⟨⟨⟨⟨g1, g2⟩, g3⟩, g4⟩, g5⟩, g6⟩ := h5
  simp [Cond.before, Cond.holds, Cond.value, h1, h2, h3, h4, g1, g2, g3, g4, g5, g6]
def isCode : Jvm.Cond → Bool
  | .code _ _ _ _ => true
  | _ => false
theorem all_split {L : List Jvm.Cond} {P : Jvm.Cond → Bool} (h1 : L.all (fun c => isCode c || P c) = true) (h2 : ∀ c ∈ L.filter isCode, P c = true) : L.all P = true := by
  refine List.all_eq_true.mpr fun c hc => ?_
  have h := List.all_eq_true.mp h1 c hc
  rcases Bool.eq_false_or_eq_true (isCode c) with hi | hi
  · exact h2 c (List.mem_filter.mpr ⟨hc, hi⟩)
  · simpa [hi] using h
set_option maxRecDepth 65536 in
theorem w_c0 : (Jvm.Cond.code x code maxLocals ret).before args0 about1 = true := code_word (m := ⟨1, 1⟩) (meth := k1m1) (c := k1c1) (by decide +kernel) rfl rfl rfl (by decide +kernel)
set_option maxRecDepth 65536 in
theorem w_c1 : (Jvm.Cond.code ({ cls := "com/example/dossier_relay/dossierrelay/bundle/FilePathsExtensionOfPinLaw", name := "ch", desc := "(I)C" } : Jvm.MethodName) method_3_code (1 : Nat) (Option.some Jvm.ClassFile.FieldType.char)).before args0 about1 = true := code_word (m := ⟨1, 2⟩) (meth := k1m2) (c := k1c2) (by decide +kernel) rfl rfl rfl (by decide +kernel)
set_option maxRecDepth 65536 in
theorem w_c2 : (Jvm.Cond.code ({ cls := "com/example/dossier_relay/dossierrelay/bundle/FilePathsExtensionOfPinLaw", name := "make", desc := "(I[C)Ljava/lang/String;" } : Jvm.MethodName) method_4_code (2 : Nat) (Option.some (Jvm.ClassFile.FieldType.object "java/lang/String"))).before args0 about1 = true := code_word (m := ⟨1, 3⟩) (meth := k1m3) (c := k1c3) (by decide +kernel) rfl rfl rfl (by decide +kernel)
set_option maxRecDepth 65536 in
theorem w_c3 : (Jvm.Cond.code ({ cls := "java/lang/String", name := "<init>", desc := "([C)V" } : Jvm.MethodName) jdk_42_method_3_code (2 : Nat) (Option.none : Option Jvm.ClassFile.FieldType)).before args0 about1 = true := code_word (m := ⟨7, 1⟩) (meth := k7m1) (c := k7c1) (by decide +kernel) rfl rfl rfl (by decide +kernel)
set_option maxRecDepth 65536 in
theorem w_c4 : (Jvm.Cond.code ({ cls := "java/lang/String", name := "<init>", desc := "([CIILjava/lang/Void;)V" } : Jvm.MethodName) jdk_42_method_149_code (6 : Nat) (Option.none : Option Jvm.ClassFile.FieldType)).before args0 about1 = true := code_word (m := ⟨7, 8⟩) (meth := k7m8) (c := k7c8) (by decide +kernel) rfl rfl rfl (by decide +kernel)
set_option maxRecDepth 65536 in
theorem w_c5 : (Jvm.Cond.code ({ cls := "java/lang/Object", name := "<init>", desc := "()V" } : Jvm.MethodName) object_method_1_code (1 : Nat) (Option.none : Option Jvm.ClassFile.FieldType)).before args0 about1 = true := code_word (m := ⟨0, 0⟩) (meth := k0m0) (c := k0c0) (by decide +kernel) rfl rfl rfl (by decide +kernel)
set_option maxRecDepth 65536 in
theorem w_c6 : (Jvm.Cond.code ({ cls := "com/example/dossier_relay/dossierrelay/bundle/FilePaths", name := "extensionOf", desc := "(Ljava/lang/String;)Ljava/lang/String;" } : Jvm.MethodName) prog_16_method_3_code (2 : Nat) (Option.some (Jvm.ClassFile.FieldType.object "java/lang/String"))).before args0 about1 = true := code_word (m := ⟨8, 1⟩) (meth := k8m1) (c := k8c1) (by decide +kernel) rfl rfl rfl (by decide +kernel)
set_option maxRecDepth 65536 in
theorem w_c7 : (Jvm.Cond.code ({ cls := "java/lang/String", name := "lastIndexOf", desc := "(I)I" } : Jvm.MethodName) jdk_42_method_82_code (2 : Nat) (Option.some Jvm.ClassFile.FieldType.int)).before args0 about1 = true := code_word (m := ⟨7, 4⟩) (meth := k7m4) (c := k7c4) (by decide +kernel) rfl rfl rfl (by decide +kernel)
set_option maxRecDepth 65536 in
theorem w_c8 : (Jvm.Cond.code ({ cls := "java/lang/String", name := "length", desc := "()I" } : Jvm.MethodName) jdk_42_method_54_code (1 : Nat) (Option.some Jvm.ClassFile.FieldType.int)).before args0 about1 = true := code_word (m := ⟨7, 2⟩) (meth := k7m2) (c := k7c2) (by decide +kernel) rfl rfl rfl (by decide +kernel)
set_option maxRecDepth 65536 in
theorem w_c9 : (Jvm.Cond.code ({ cls := "java/lang/String", name := "coder", desc := "()B" } : Jvm.MethodName) jdk_42_method_152_code (1 : Nat) (Option.some Jvm.ClassFile.FieldType.byte)).before args0 about1 = true := code_word (m := ⟨7, 10⟩) (meth := k7m10) (c := k7c10) (by decide +kernel) rfl rfl rfl (by decide +kernel)
set_option maxRecDepth 65536 in
theorem w_c10 : (Jvm.Cond.code ({ cls := "java/lang/String", name := "lastIndexOf", desc := "(II)I" } : Jvm.MethodName) jdk_42_method_83_code (3 : Nat) (Option.some Jvm.ClassFile.FieldType.int)).before args0 about1 = true := code_word (m := ⟨7, 5⟩) (meth := k7m5) (c := k7c5) (by decide +kernel) rfl rfl rfl (by decide +kernel)
set_option maxRecDepth 65536 in
theorem w_c11 : (Jvm.Cond.code ({ cls := "java/lang/String", name := "isLatin1", desc := "()Z" } : Jvm.MethodName) jdk_42_method_154_code (1 : Nat) (Option.some Jvm.ClassFile.FieldType.boolean)).before args0 about1 = true := code_word (m := ⟨7, 11⟩) (meth := k7m11) (c := k7c11) (by decide +kernel) rfl rfl rfl (by decide +kernel)
set_option maxRecDepth 65536 in
theorem w_c12 : (Jvm.Cond.code ({ cls := "java/lang/StringLatin1", name := "lastIndexOf", desc := "([BII)I" } : Jvm.MethodName) jdk_43_method_27_code (4 : Nat) (Option.some Jvm.ClassFile.FieldType.int)).before args0 about1 = true := code_word (m := ⟨9, 3⟩) (meth := k9m3) (c := k9c3) (by decide +kernel) rfl rfl rfl (by decide +kernel)
set_option maxRecDepth 65536 in
theorem w_c13 : (Jvm.Cond.code ({ cls := "java/lang/StringLatin1", name := "canEncode", desc := "(I)Z" } : Jvm.MethodName) jdk_43_method_4_code (1 : Nat) (Option.some Jvm.ClassFile.FieldType.boolean)).before args0 about1 = true := code_word (m := ⟨9, 2⟩) (meth := k9m2) (c := k9c2) (by decide +kernel) rfl rfl rfl (by decide +kernel)
set_option maxRecDepth 65536 in
theorem w_c14 : (Jvm.Cond.code ({ cls := "java/lang/Math", name := "min", desc := "(II)I" } : Jvm.MethodName) jdk_29_method_69_code (2 : Nat) (Option.some Jvm.ClassFile.FieldType.int)).before args0 about1 = true := code_word (m := ⟨10, 1⟩) (meth := k10m1) (c := k10c1) (by decide +kernel) rfl rfl rfl (by decide +kernel)
set_option maxRecDepth 65536 in
theorem w_c15 : (Jvm.Cond.code ({ cls := "com/example/dossier_relay/dossierrelay/bundle/FilePathsExtensionOfPinLaw", name := "same", desc := "(Ljava/lang/String;[CIII)Z" } : Jvm.MethodName) method_5_code (5 : Nat) (Option.some Jvm.ClassFile.FieldType.boolean)).before args0 about1 = true := code_word (m := ⟨1, 4⟩) (meth := k1m4) (c := k1c4) (by decide +kernel) rfl rfl rfl (by decide +kernel)
set_option maxRecDepth 65536 in
theorem w_c16 : (Jvm.Cond.code ({ cls := "java/lang/StringUTF16", name := "compress", desc := "([CII)[B" } : Jvm.MethodName) jdk_52_method_16_code (6 : Nat) (Option.some (Jvm.ClassFile.FieldType.array Jvm.ClassFile.FieldType.byte))).before args0 about1 = true := code_word (m := ⟨11, 2⟩) (meth := k11m2) (c := k11c2) (by decide +kernel) rfl rfl rfl (by decide +kernel)
set_option maxRecDepth 65536 in
theorem w_c17 : (Jvm.Cond.code ({ cls := "java/lang/StringUTF16", name := "compress", desc := "([CI[BII)I" } : Jvm.MethodName) jdk_52_method_21_code (7 : Nat) (Option.some Jvm.ClassFile.FieldType.int)).before args0 about1 = true := code_word (m := ⟨11, 3⟩) (meth := k11m3) (c := k11c3) (by decide +kernel) rfl rfl rfl (by decide +kernel)
set_option maxRecDepth 65536 in
theorem w_c18 : (Jvm.Cond.code ({ cls := "java/lang/StringUTF16", name := "coderFromArrayLen", desc := "([BI)B" } : Jvm.MethodName) jdk_52_method_15_code (2 : Nat) (Option.some Jvm.ClassFile.FieldType.byte)).before args0 about1 = true := code_word (m := ⟨11, 1⟩) (meth := k11m1) (c := k11c1) (by decide +kernel) rfl rfl rfl (by decide +kernel)
set_option maxRecDepth 65536 in
theorem w_c19 : (Jvm.Cond.code ({ cls := "java/lang/String", name := "substring", desc := "(I)Ljava/lang/String;" } : Jvm.MethodName) jdk_42_method_91_code (2 : Nat) (Option.some (Jvm.ClassFile.FieldType.object "java/lang/String"))).before args0 about1 = true := code_word (m := ⟨7, 6⟩) (meth := k7m6) (c := k7c6) (by decide +kernel) rfl rfl rfl (by decide +kernel)
set_option maxRecDepth 65536 in
theorem w_c20 : (Jvm.Cond.code ({ cls := "java/lang/String", name := "substring", desc := "(II)Ljava/lang/String;" } : Jvm.MethodName) jdk_42_method_92_code (5 : Nat) (Option.some (Jvm.ClassFile.FieldType.object "java/lang/String"))).before args0 about1 = true := code_word (m := ⟨7, 7⟩) (meth := k7m7) (c := k7c7) (by decide +kernel) rfl rfl rfl (by decide +kernel)
set_option maxRecDepth 65536 in
theorem w_c21 : (Jvm.Cond.code ({ cls := "java/lang/String", name := "checkBoundsBeginEnd", desc := "(III)V" } : Jvm.MethodName) jdk_42_method_158_code (3 : Nat) (Option.none : Option Jvm.ClassFile.FieldType)).before args0 about1 = true := code_word (m := ⟨7, 13⟩) (meth := k7m13) (c := k7c13) (by decide +kernel) rfl rfl rfl (by decide +kernel)
set_option maxRecDepth 65536 in
theorem w_c22 : (Jvm.Cond.code ({ cls := "jdk/internal/util/Preconditions", name := "checkFromToIndex", desc := "(IIILjava/util/function/BiFunction;)I" } : Jvm.MethodName) jdk_41_method_12_code (4 : Nat) (Option.some Jvm.ClassFile.FieldType.int)).before args0 about1 = true := code_word (m := ⟨12, 2⟩) (meth := k12m2) (c := k12c2) (by decide +kernel) rfl rfl rfl (by decide +kernel)
set_option maxRecDepth 65536 in
theorem w_c23 : (Jvm.Cond.code ({ cls := "java/lang/StringLatin1", name := "newString", desc := "([BII)Ljava/lang/String;" } : Jvm.MethodName) jdk_43_method_47_code (3 : Nat) (Option.some (Jvm.ClassFile.FieldType.object "java/lang/String"))).before args0 about1 = true := code_word (m := ⟨9, 4⟩) (meth := k9m4) (c := k9c4) (by decide +kernel) rfl rfl rfl (by decide +kernel)
set_option maxRecDepth 65536 in
theorem w_c24 : (Jvm.Cond.code ({ cls := "java/util/Arrays", name := "copyOfRange", desc := "([BII)[B" } : Jvm.MethodName) jdk_65_method_132_code (3 : Nat) (Option.some (Jvm.ClassFile.FieldType.array Jvm.ClassFile.FieldType.byte))).before args0 about1 = true := code_word (m := ⟨13, 2⟩) (meth := k13m2) (c := k13c2) (by decide +kernel) rfl rfl rfl (by decide +kernel)
set_option maxRecDepth 65536 in
theorem w_c25 : (Jvm.Cond.code ({ cls := "java/util/Arrays", name := "copyOfRangeByte", desc := "([BII)[B" } : Jvm.MethodName) jdk_65_method_133_code (5 : Nat) (Option.some (Jvm.ClassFile.FieldType.array Jvm.ClassFile.FieldType.byte))).before args0 about1 = true := code_word (m := ⟨13, 3⟩) (meth := k13m3) (c := k13c3) (by decide +kernel) rfl rfl rfl (by decide +kernel)
set_option maxRecDepth 65536 in
theorem w_c26 : (Jvm.Cond.code ({ cls := "java/util/Arrays", name := "checkLength", desc := "(II)V" } : Jvm.MethodName) jdk_65_method_131_code (2 : Nat) (Option.none : Option Jvm.ClassFile.FieldType)).before args0 about1 = true := code_word (m := ⟨13, 1⟩) (meth := k13m1) (c := k13c1) (by decide +kernel) rfl rfl rfl (by decide +kernel)
set_option maxRecDepth 65536 in
theorem w_c27 : (Jvm.Cond.code ({ cls := "java/lang/String", name := "<init>", desc := "([BB)V" } : Jvm.MethodName) jdk_42_method_151_code (3 : Nat) (Option.none : Option Jvm.ClassFile.FieldType)).before args0 about1 = true := code_word (m := ⟨7, 9⟩) (meth := k7m9) (c := k7c9) (by decide +kernel) rfl rfl rfl (by decide +kernel)
set_option maxRecDepth 65536 in
theorem w_c28 : (Jvm.Cond.code ({ cls := "java/lang/String", name := "charAt", desc := "(I)C" } : Jvm.MethodName) jdk_42_method_56_code (2 : Nat) (Option.some Jvm.ClassFile.FieldType.char)).before args0 about1 = true := code_word (m := ⟨7, 3⟩) (meth := k7m3) (c := k7c3) (by decide +kernel) rfl rfl rfl (by decide +kernel)
set_option maxRecDepth 65536 in
theorem w_c29 : (Jvm.Cond.code ({ cls := "java/lang/StringLatin1", name := "charAt", desc := "([BI)C" } : Jvm.MethodName) jdk_43_method_2_code (2 : Nat) (Option.some Jvm.ClassFile.FieldType.char)).before args0 about1 = true := code_word (m := ⟨9, 1⟩) (meth := k9m1) (c := k9c1) (by decide +kernel) rfl rfl rfl (by decide +kernel)
set_option maxRecDepth 65536 in
theorem w_c30 : (Jvm.Cond.code ({ cls := "java/lang/String", name := "checkIndex", desc := "(II)V" } : Jvm.MethodName) jdk_42_method_155_code (2 : Nat) (Option.none : Option Jvm.ClassFile.FieldType)).before args0 about1 = true := code_word (m := ⟨7, 12⟩) (meth := k7m12) (c := k7c12) (by decide +kernel) rfl rfl rfl (by decide +kernel)
set_option maxRecDepth 65536 in
theorem w_c31 : (Jvm.Cond.code ({ cls := "jdk/internal/util/Preconditions", name := "checkIndex", desc := "(IILjava/util/function/BiFunction;)I" } : Jvm.MethodName) jdk_41_method_11_code (3 : Nat) (Option.some Jvm.ClassFile.FieldType.int)).before args0 about1 = true := code_word (m := ⟨12, 1⟩) (meth := k12m1) (c := k12c1) (by decide +kernel) rfl rfl rfl (by decide +kernel)
def codes1 : List Jvm.Cond := [Jvm.Cond.code x code maxLocals ret, Jvm.Cond.code ({ cls := "com/example/dossier_relay/dossierrelay/bundle/FilePathsExtensionOfPinLaw", name := "ch", desc := "(I)C" } : Jvm.MethodName) method_3_code (1 : Nat) (Option.some Jvm.ClassFile.FieldType.char), Jvm.Cond.code ({ cls := "com/example/dossier_relay/dossierrelay/bundle/FilePathsExtensionOfPinLaw", name := "make", desc := "(I[C)Ljava/lang/String;" } : Jvm.MethodName) method_4_code (2 : Nat) (Option.some (Jvm.ClassFile.FieldType.object "java/lang/String")), Jvm.Cond.code ({ cls := "java/lang/String", name := "<init>", desc := "([C)V" } : Jvm.MethodName) jdk_42_method_3_code (2 : Nat) (Option.none : Option Jvm.ClassFile.FieldType), Jvm.Cond.code ({ cls := "java/lang/String", name := "<init>", desc := "([CIILjava/lang/Void;)V" } : Jvm.MethodName) jdk_42_method_149_code (6 : Nat) (Option.none : Option Jvm.ClassFile.FieldType), Jvm.Cond.code ({ cls := "java/lang/Object", name := "<init>", desc := "()V" } : Jvm.MethodName) object_method_1_code (1 : Nat) (Option.none : Option Jvm.ClassFile.FieldType), Jvm.Cond.code ({ cls := "com/example/dossier_relay/dossierrelay/bundle/FilePaths", name := "extensionOf", desc := "(Ljava/lang/String;)Ljava/lang/String;" } : Jvm.MethodName) prog_16_method_3_code (2 : Nat) (Option.some (Jvm.ClassFile.FieldType.object "java/lang/String")), Jvm.Cond.code ({ cls := "java/lang/String", name := "lastIndexOf", desc := "(I)I" } : Jvm.MethodName) jdk_42_method_82_code (2 : Nat) (Option.some Jvm.ClassFile.FieldType.int), Jvm.Cond.code ({ cls := "java/lang/String", name := "length", desc := "()I" } : Jvm.MethodName) jdk_42_method_54_code (1 : Nat) (Option.some Jvm.ClassFile.FieldType.int), Jvm.Cond.code ({ cls := "java/lang/String", name := "coder", desc := "()B" } : Jvm.MethodName) jdk_42_method_152_code (1 : Nat) (Option.some Jvm.ClassFile.FieldType.byte), Jvm.Cond.code ({ cls := "java/lang/String", name := "lastIndexOf", desc := "(II)I" } : Jvm.MethodName) jdk_42_method_83_code (3 : Nat) (Option.some Jvm.ClassFile.FieldType.int), Jvm.Cond.code ({ cls := "java/lang/String", name := "isLatin1", desc := "()Z" } : Jvm.MethodName) jdk_42_method_154_code (1 : Nat) (Option.some Jvm.ClassFile.FieldType.boolean), Jvm.Cond.code ({ cls := "java/lang/StringLatin1", name := "lastIndexOf", desc := "([BII)I" } : Jvm.MethodName) jdk_43_method_27_code (4 : Nat) (Option.some Jvm.ClassFile.FieldType.int), Jvm.Cond.code ({ cls := "java/lang/StringLatin1", name := "canEncode", desc := "(I)Z" } : Jvm.MethodName) jdk_43_method_4_code (1 : Nat) (Option.some Jvm.ClassFile.FieldType.boolean), Jvm.Cond.code ({ cls := "java/lang/Math", name := "min", desc := "(II)I" } : Jvm.MethodName) jdk_29_method_69_code (2 : Nat) (Option.some Jvm.ClassFile.FieldType.int), Jvm.Cond.code ({ cls := "com/example/dossier_relay/dossierrelay/bundle/FilePathsExtensionOfPinLaw", name := "same", desc := "(Ljava/lang/String;[CIII)Z" } : Jvm.MethodName) method_5_code (5 : Nat) (Option.some Jvm.ClassFile.FieldType.boolean), Jvm.Cond.code ({ cls := "java/lang/StringUTF16", name := "compress", desc := "([CII)[B" } : Jvm.MethodName) jdk_52_method_16_code (6 : Nat) (Option.some (Jvm.ClassFile.FieldType.array Jvm.ClassFile.FieldType.byte)), Jvm.Cond.code ({ cls := "java/lang/StringUTF16", name := "compress", desc := "([CI[BII)I" } : Jvm.MethodName) jdk_52_method_21_code (7 : Nat) (Option.some Jvm.ClassFile.FieldType.int), Jvm.Cond.code ({ cls := "java/lang/StringUTF16", name := "coderFromArrayLen", desc := "([BI)B" } : Jvm.MethodName) jdk_52_method_15_code (2 : Nat) (Option.some Jvm.ClassFile.FieldType.byte), Jvm.Cond.code ({ cls := "java/lang/String", name := "substring", desc := "(I)Ljava/lang/String;" } : Jvm.MethodName) jdk_42_method_91_code (2 : Nat) (Option.some (Jvm.ClassFile.FieldType.object "java/lang/String")), Jvm.Cond.code ({ cls := "java/lang/String", name := "substring", desc := "(II)Ljava/lang/String;" } : Jvm.MethodName) jdk_42_method_92_code (5 : Nat) (Option.some (Jvm.ClassFile.FieldType.object "java/lang/String")), Jvm.Cond.code ({ cls := "java/lang/String", name := "checkBoundsBeginEnd", desc := "(III)V" } : Jvm.MethodName) jdk_42_method_158_code (3 : Nat) (Option.none : Option Jvm.ClassFile.FieldType), Jvm.Cond.code ({ cls := "jdk/internal/util/Preconditions", name := "checkFromToIndex", desc := "(IIILjava/util/function/BiFunction;)I" } : Jvm.MethodName) jdk_41_method_12_code (4 : Nat) (Option.some Jvm.ClassFile.FieldType.int), Jvm.Cond.code ({ cls := "java/lang/StringLatin1", name := "newString", desc := "([BII)Ljava/lang/String;" } : Jvm.MethodName) jdk_43_method_47_code (3 : Nat) (Option.some (Jvm.ClassFile.FieldType.object "java/lang/String")), Jvm.Cond.code ({ cls := "java/util/Arrays", name := "copyOfRange", desc := "([BII)[B" } : Jvm.MethodName) jdk_65_method_132_code (3 : Nat) (Option.some (Jvm.ClassFile.FieldType.array Jvm.ClassFile.FieldType.byte)), Jvm.Cond.code ({ cls := "java/util/Arrays", name := "copyOfRangeByte", desc := "([BII)[B" } : Jvm.MethodName) jdk_65_method_133_code (5 : Nat) (Option.some (Jvm.ClassFile.FieldType.array Jvm.ClassFile.FieldType.byte)), Jvm.Cond.code ({ cls := "java/util/Arrays", name := "checkLength", desc := "(II)V" } : Jvm.MethodName) jdk_65_method_131_code (2 : Nat) (Option.none : Option Jvm.ClassFile.FieldType), Jvm.Cond.code ({ cls := "java/lang/String", name := "<init>", desc := "([BB)V" } : Jvm.MethodName) jdk_42_method_151_code (3 : Nat) (Option.none : Option Jvm.ClassFile.FieldType), Jvm.Cond.code ({ cls := "java/lang/String", name := "charAt", desc := "(I)C" } : Jvm.MethodName) jdk_42_method_56_code (2 : Nat) (Option.some Jvm.ClassFile.FieldType.char), Jvm.Cond.code ({ cls := "java/lang/StringLatin1", name := "charAt", desc := "([BI)C" } : Jvm.MethodName) jdk_43_method_2_code (2 : Nat) (Option.some Jvm.ClassFile.FieldType.char), Jvm.Cond.code ({ cls := "java/lang/String", name := "checkIndex", desc := "(II)V" } : Jvm.MethodName) jdk_42_method_155_code (2 : Nat) (Option.none : Option Jvm.ClassFile.FieldType), Jvm.Cond.code ({ cls := "jdk/internal/util/Preconditions", name := "checkIndex", desc := "(IILjava/util/function/BiFunction;)I" } : Jvm.MethodName) jdk_41_method_11_code (3 : Nat) (Option.some Jvm.ClassFile.FieldType.int)]
set_option maxRecDepth 65536 in
theorem codes_eq : words1.filter isCode = codes1 := rfl
theorem w_codes : ∀ c ∈ words1.filter isCode, c.before args0 about1 = true := by
  rw [codes_eq]
  intro c hc
  simp only [codes1, List.mem_cons, List.not_mem_nil, or_false] at hc
  rcases hc with rfl | rfl | rfl | rfl | rfl | rfl | rfl | rfl | rfl | rfl | rfl | rfl | rfl | rfl | rfl | rfl | rfl | rfl | rfl | rfl | rfl | rfl | rfl | rfl | rfl | rfl | rfl | rfl | rfl | rfl | rfl | rfl
  · exact w_c0
  · exact w_c1
  · exact w_c2
  · exact w_c3
  · exact w_c4
  · exact w_c5
  · exact w_c6
  · exact w_c7
  · exact w_c8
  · exact w_c9
  · exact w_c10
  · exact w_c11
  · exact w_c12
  · exact w_c13
  · exact w_c14
  · exact w_c15
  · exact w_c16
  · exact w_c17
  · exact w_c18
  · exact w_c19
  · exact w_c20
  · exact w_c21
  · exact w_c22
  · exact w_c23
  · exact w_c24
  · exact w_c25
  · exact w_c26
  · exact w_c27
  · exact w_c28
  · exact w_c29
  · exact w_c30
  · exact w_c31
set_option maxRecDepth 65536 in
theorem w_t1 : (words1.take 24).all (fun c => isCode c || c.before args0 about1) = true := by decide +kernel
set_option maxRecDepth 65536 in
theorem w_t2 : ((words1.drop 24).take 24).all (fun c => isCode c || c.before args0 about1) = true := by decide +kernel
set_option maxRecDepth 65536 in
theorem w_t3 : (((words1.drop 24).drop 24).take 24).all (fun c => isCode c || c.before args0 about1) = true := by decide +kernel
set_option maxRecDepth 65536 in
theorem w_t4 : ((((words1.drop 24).drop 24).drop 24).take 24).all (fun c => isCode c || c.before args0 about1) = true := by decide +kernel
set_option maxRecDepth 65536 in
theorem w_t5 : (((((words1.drop 24).drop 24).drop 24).drop 24).take 24).all (fun c => isCode c || c.before args0 about1) = true := by decide +kernel
set_option maxRecDepth 65536 in
theorem w_t6 : (((((words1.drop 24).drop 24).drop 24).drop 24).drop 24).all (fun c => isCode c || c.before args0 about1) = true := by decide +kernel
theorem w_tables : (allAtoms (Jvm.Cond.code x code maxLocals ret :: tables_1)).before args0 about1 = true := by
  rw [allAtoms_all]
  show words1.all (fun c => c.before args0 about1) = true
  refine all_split ?_ w_codes
  rw [← List.take_append_drop 24 words1, List.all_append, w_t1, ← List.take_append_drop 24 (words1.drop 24), List.all_append, w_t2, ← List.take_append_drop 24 ((words1.drop 24).drop 24), List.all_append, w_t3, ← List.take_append_drop 24 (((words1.drop 24).drop 24).drop 24), List.all_append, w_t4, ← List.take_append_drop 24 ((((words1.drop 24).drop 24).drop 24).drop 24), List.all_append, w_t5, w_t6]
  rfl
set_option maxRecDepth 65536 in
theorem w_rest : rest_1_c.before args0 about1 = true := by decide +kernel
set_option maxRecDepth 65536 in
theorem w_case : (Jvm.Cond.and given_1 narrow_1).before args0 about1 = true := by decide +kernel
set_option maxRecDepth 65536 in
theorem w_consts : constsHeld consts_1 about1 := Jvm.Lit.constsHeldB_iff.mp (by decide +kernel)
theorem w_applies : (headSpec (Jvm.Cond.code x code maxLocals ret :: tables_1) room_1).applies x e0.platform about1 = true :=
  (Spec.applies_iff w_frames).mpr ⟨w_running, w_runnable, w_alone, w_named, w_hears, w_ripe, w_room, w_tables⟩
theorem atStart : AtStart classFile x code maxLocals ret World_1 tables_1 room_1 Calls_1 rest_1 Pre_1 launch0 p0 e0 about1 theMethod args0 below0 :=
  ⟨lists_1, trivial, launch0.admits_env _ _ _, launch0.least_env, fairChoices_fair.cas, fairChoices_fair.clock, w_frames, w_args, w_heap, w_applies, ⟨w_consts, trivial⟩, w_rest, w_case⟩
end start1
theorem witness_1 : WitnessClaimed_1 := ⟨start1.p0, start1.e0, start1.about1, start1.theMethod, start1.args0, start1.below0, start1.atStart⟩
end Jvm.Pilot.@@N@@
