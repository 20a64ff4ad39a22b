import JvmDerived
import JvmDerived.Pilot.@@N@@Statement
import JvmDerived.Pilot.@@N@@Code
set_option linter.unusedVariables false
set_option linter.unusedSimpArgs false
namespace Jvm.OwnGo
open Jvm Jvm.ClassFile Sem Op Lib Jvm.Free Jvm.Stand Jvm.LawKit Jvm.RoadKit Bundle
/-! THE GO KIT: a walk of a body told backwards: 'Go k h os cells slots pc Ls st': from pc with these locals and this stack, over the heap h, the body comes to its end as its contract says. -/
abbrev QT : Type := Option Value → Heap → List Addr → Prop
abbrev KT : Type := Program × Launch × Env × Room × State × MethodId × Array Value × List Frame × Method × Code × State × List (String × Nat) × Bool × List Addr × QT
def Own (Z : State) (h0 : Heap) (EL : List (String × Nat)) (wr : List Addr) (vm : Vm) (h : Heap) (x : Addr) : Prop :=
  Safe Z EL vm h x ∧ Z.heap.size ≤ x ∧ x < h.size ∧ (x ∈ wr ∨ h0.size ≤ x)
def Done (Z : State) (EL : List (String × Nat)) (wd : Bool) (R : Room) (wr : List Addr) (Q : QT) (s : State) (o : Outcome) (s' : State) : Prop :=
  ∃ v L os, o = .returned v ∧ Q v s'.heap os ∧ (∀ x ∈ os, Safe Z EL s'.vm s'.heap x ∧ s.heap.size ≤ x ∧ x < s'.heap.size) ∧ Keep s.heap s'.heap wr ∧ Fr Z.heap.size L ∧
    CHr Z EL s.vm s.heap s'.vm s'.heap ∧ ReturnedEndW s o s' L R.cells R.slots ∧ (wd = false → FrameEnd s o s' L R.cells R.slots)
def Fen (p : Program) (e : Env) (below : List Frame) (P : Outcome → State → Prop) (A : State) : Prop :=
  ∃ s' o, Steps p.tables e below A s' ∧ s'.status = .running ∧ Ended s' below o ∧ P o s'
theorem Fen.of {p : Program} {e : Env} {below : List Frame} {P : Outcome → State → Prop} {A B : State} (st : ∀ t, Steps p.tables e below B t → Steps p.tables e below A t) (F : Fen p e below P B) : Fen p e below P A := by
  obtain ⟨s', o, h1, h2⟩ := F
  exact ⟨s', o, st _ h1, h2⟩
def Go : KT → Heap → List Addr → Nat → Nat → Nat → Array Slot → List Value → Prop :=
  fun ⟨p, l, e, R, s, m, args, below, meth, c, Z, EL, wd, wr, Q⟩ h os cells slots pc Ls st =>
    ∀ (T : State) (locs : List Loc) (vm : Vm), Stand p l e R (s.setVm vm) m args below meth c T locs cells slots → T.heap = h → Fr Z.heap.size locs → s.Since vm h.size → (wd = false → s.WarmedH vm) →
      CHr Z EL s.vm s.heap vm h → Keep s.heap h wr → (∀ x ∈ os, Own Z s.heap EL wr vm h x) → Fen p e below (Done Z EL wd R wr Q s) (T.setTop (mkF m pc Ls st))
def Ctx (k : KT) (l : Launch) (y : MethodName) (bytes : ByteArray) (maxL : Nat) (ret : Option FieldType) (R : Room) (Z : State) (a0 : Array Value) (EL : List (String × Nat)) (wd : Bool) (wr : List Addr) (h0 : Heap) (Q : QT) : Prop :=
  match k with
  | ⟨p, l', e, R', s, m, args, below, meth, c, Z', EL', wd', wr', Q'⟩ => (l' = l ∧ R' = R ∧ Z' = Z ∧ EL' = EL ∧ wd' = wd ∧ wr' = wr ∧ Q' = Q ∧ s.heap = h0) ∧ p.tables.exec = Jvm.exec ∧ c.code = bytes ∧ c.maxLocals = maxL ∧ meth.sig.returnType = ret ∧
      meth.locks = false ∧ meth.name = y.name ∧ Z'.Warmed39 s.vm ∧ s.vm.findClass y.cls = some m.cls ∧ EW Z' a0 EL' ∧ Ext Z'.heap s.heap ∧ (∀ x ∈ wr, Z'.heap.size ≤ x)
/-- a body's contract -/
def Con (l : Launch) (Z : State) (EL : List (String × Nat)) (wd : Bool) (y : MethodName) (bytes : ByteArray) (maxL : Nat) (ret : Option FieldType) (rm : Room) (ws : List Jvm.Cond) (as' : Array Value) (h : Heap) (wr : List Addr) (Q : QT) : Prop :=
  MetFree l y (head1 (Cond.code y bytes maxL ret :: ws) rm) (fun a U => a = as' ∧ Z.Warmed39 U.vm ∧ U.heap = h ∧ CHv Z EL U.vm h ∧ Ext Z.heap h ∧ ∀ x ∈ wr, Safe Z EL U.vm h x ∧ Z.heap.size ≤ x ∧ x < h.size) (fun _ _ _ _ _ => True)
    (fun _ U o U' => Done Z EL wd rm wr Q U o U')
section Base
variable {p : Program} {l : Launch} {e : Env} {R : Room} {s : State} {m : MethodId} {args : Array Value} {below : List Frame} {meth : Method} {c : Code} {T T' : State} {locs locs' : List Loc} {cells slots cells' slots' : Nat}
variable {Z : State} {a0 : Array Value} {EL : List (String × Nat)} {wd : Bool} {wr ws os : List Addr} {h h' h0 : Heap} {vm vm' : Vm} {Q : QT}
theorem Since.up {n n' : Nat} (S : s.Since vm n) (q : n ≤ n') : s.Since vm n' := ⟨S.1, fun j p hj hp => ⟨(S.2 j p hj hp).1, Nat.lt_of_lt_of_le (S.2 j p hj hp).2 q⟩⟩
theorem Own.chr {x : Addr} (O : Own Z h0 EL wr vm h x) (A : CHr Z EL vm h vm' h') : Own Z h0 EL wr vm' h' x := ⟨A.safe O.2.2.1 O.1, O.2.1, Nat.lt_of_lt_of_le O.2.2.1 A.2.1, O.2.2.2⟩
theorem keepOs (K : Keep h0 h wr) (K' : Keep h h' ws) (ow : ∀ x ∈ os, Own Z h0 EL wr vm h x) (q : ∀ x ∈ ws, x ∈ os) : Keep h0 h' wr := K.trans K' fun x hx => (ow x (q x hx)).2.2.2
theorem Keep.ofExt (E : Ext h h') : Keep h h' ws := (Keep.refl h ws).ext E
theorem safeOs (ow : ∀ x ∈ os, Own Z h0 EL wr vm h x) (q : ∀ x ∈ ws, x ∈ os) : ∀ x ∈ ws, Safe Z EL vm h x := fun x hx => (ow x (q x hx)).1
end Base
/-! decode facts -/
def De (b : ByteArray) (pc : Nat) (i : Instr) (n pc' : Nat) : Prop := decode b pc = .ok (i, n) ∧ pc' = pc + n
def DeJ (b : ByteArray) (pc : Nat) (i : Int → Instr) (pc' pcT : Nat) : Prop := ∃ o : Int, decode b pc = .ok (i o, 3) ∧ pc' = pc + 3 ∧ 0 ≤ (pc : Int) + o ∧ ((pc : Int) + o).toNat = pcT
/-! facts of the heap: an object by its fields, an array by its values -/
abbrev FL : Type := List (String × String × String)
def Obj (Z : State) (h : Heap) (a : Addr) (C : String) (F : FL) (vs : List Value) : Prop := Exa Z h a C ∧ F.length = vs.length ∧ ∀ (i : Nat) (q : String × String × String) (v : Value), F[i]? = some q → vs[i]? = some v → Fld Z h a q.1 q.2.1 q.2.2 v
def Av (Z : State) (h : Heap) (a : Addr) (ty : FieldType) (vs : List Value) : Prop := ∃ (k : ClassId) (z : Int32), Arv Z h a k ty z vs (defaultValue ty) ∧ z.toNatClampNeg = vs.length
def LaidL (Z : State) (a0 : Array Value) (C : String) : FL → Prop
  | [] => True
  | q :: r => (Laid Z a0 C q.1 q.2.1 q.2.2 ∧ ∃ t, parseFieldDescriptor q.2.2 = some t) ∧ LaidL Z a0 C r
section Facts
variable {Z : State} {a0 : Array Value} {h h' : Heap} {a b : Addr} {C : String} {F : FL} {vs : List Value} {ws : List Addr} {ty : FieldType}
theorem LaidL.at {q : String × String × String} : ∀ {F : FL}, LaidL Z a0 C F → q ∈ F → Laid Z a0 C q.1 q.2.1 q.2.2 ∧ ∃ t, parseFieldDescriptor q.2.2 = some t
  | [], _, hq => nomatch hq
  | x :: r, L, hq => by
    rcases List.mem_cons.mp hq with rfl | hq
    · exact L.1
    · exact LaidL.at L.2 hq
theorem Obj.lt (O : Obj Z h a C F vs) : a < h.size := O.1.lt
theorem Obj.keep (O : Obj Z h a C F vs) (K : Keep h h' ws) (q : a ∉ ws) : Obj Z h' a C F vs := ⟨O.1.keep K, O.2.1, fun i p v h1 h2 => (O.2.2 i p v h1 h2).keep K q⟩
theorem Obj.k0 (O : Obj Z h a C F vs) (K : Keep h h' []) : Obj Z h' a C F vs := O.keep K nin0
theorem Obj.k1 (O : Obj Z h a C F vs) (K : Keep h h' [b]) (q : a ≠ b) : Obj Z h' a C F vs := O.keep K (ninS q nin0)
theorem Av.lt (O : Av Z h a ty vs) : a < h.size := by obtain ⟨k, z, A, -⟩ := O; exact A.lt
theorem Av.keep (O : Av Z h a ty vs) (K : Keep h h' ws) (q : a ∉ ws) : Av Z h' a ty vs := by obtain ⟨k, z, A, e⟩ := O; exact ⟨k, z, A.keep K q, e⟩
theorem Av.k0 (O : Av Z h a ty vs) (K : Keep h h' []) : Av Z h' a ty vs := O.keep K nin0
theorem Av.k1 (O : Av Z h a ty vs) (K : Keep h h' [b]) (q : a ≠ b) : Av Z h' a ty vs := O.keep K (ninS q nin0)
theorem Obj.new {A : Exa Z h a C} (D : ∀ {O nm d : String} {ty : FieldType}, Laid Z a0 C O nm d → parseFieldDescriptor d = some ty → Fld Z h a O nm d (defaultValue ty)) (L : LaidL Z a0 C F) (dv : F.map (fun q => (parseFieldDescriptor q.2.2).map defaultValue) = vs.map some) : Obj Z h a C F vs := by
  refine ⟨A, by simpa using congrArg List.length dv, fun i q v h1 h2 => ?_⟩
  obtain ⟨l1, t, l2⟩ := L.at (List.mem_of_getElem? h1)
  have e := congrArg (fun l => l[i]?) dv
  simp only [List.getElem?_map, h1, h2, Option.map_some, l2, Option.some.injEq] at e
  rw [← e]; exact D l1 l2
theorem nodup_ne {α : Type} : ∀ {l : List α} {i j : Nat} {x y : α}, l.Nodup → l[i]? = some x → l[j]? = some y → i ≠ j → x ≠ y := fun {l i j x y} hn h1 h2 hij e => by
  subst e
  obtain ⟨hi, e1⟩ := List.getElem?_eq_some_iff.mp h1
  obtain ⟨hj, e2⟩ := List.getElem?_eq_some_iff.mp h2
  exact hij ((List.getElem_inj hn).mp (e1.trans e2.symm))
theorem Obj.put {q : String × String × String} {v : Value} {i : Nat} (O : Obj Z h a C F vs) (W : Wr h h' a (RoadKit.slotOf Z q.1 q.2.1 q.2.2) v) (hq : F[i]? = some q) (L : LaidL Z a0 C F) (nd : (F.map (fun q => q.2.1)).Nodup) : Obj Z h' a C F (vs.set i v) := by
  refine ⟨O.1.wr W, by simpa using O.2.1, fun j p w h1 h2 => ?_⟩
  obtain ⟨l1, t, l2⟩ := L.at (List.mem_of_getElem? hq)
  obtain ⟨m1, u, m2⟩ := L.at (List.mem_of_getElem? h1)
  have hj : j < vs.length := by rw [← O.2.1]; exact (List.getElem?_eq_some_iff.mp h1).1
  by_cases e : i = j
  · subst e
    rw [hq] at h1; cases h1
    simp [hj] at h2; subst h2
    exact (O.2.2 i q _ hq (List.getElem?_eq_getElem hj)).same W
  · rw [List.getElem?_set_ne e] at h2
    refine (O.2.2 j p w h1 h2).other W (Or.inr ?_)
    have hn : p.2.1 ≠ q.2.1 := nodup_ne nd (i := j) (j := i) (by simp [h1]) (by simp [hq]) (fun z => e z.symm)
    exact slot_ne m1 l1 hn m2 l2
theorem Av.len (V : Av Z h a ty vs) : vs.length < 2147483648 := by
  obtain ⟨k, z, ⟨c, A, r1, r2, r3, H, G⟩, e⟩ := V
  rw [← e]; exact (back32 r3).2
theorem Av.lenI {bs : List Int32} (V : Av Z h a ty (List.map Value.int bs)) : bs.length < 2147483648 := by have := V.len; rwa [List.length_map] at this
theorem Av.new {k : ClassId} {z : Int32} (A : Arr Z h a (newA k ty z) ty) (q : ¬ z < 0) {n : Nat} (hn : z.toNatClampNeg = n) : Av Z h a ty (List.replicate n (defaultValue ty)) :=
  ⟨k, z, by have := (Arv.new A q).pad (pad_rep [] (defaultValue ty) n); simpa using this, by simpa using hn⟩
theorem Av.fit (V : Av Z h a ty vs) {i : Nat} {v : Value} (hv : vs[i]? = some v) : fits ty v = true := by
  obtain ⟨k, z, ⟨c, A, r1, r2, r3, H, G⟩, e⟩ := V
  have hi := (List.getElem?_eq_some_iff.mp hv).1
  have g := G i (by rw [r2, e]; exact hi)
  rw [List.getD_eq_getElem?_getD, hv] at g; exact g
end Facts
/-- a Latin-1 String: its object a, its bytes at t -/
def fStr : FL := [("java/lang/String", "value", "[B"), ("java/lang/String", "coder", "B")]
def Str (Z : State) (h : Heap) (a t : Addr) (bs : List Int32) : Prop := Obj Z h a "java/lang/String" fStr [.ref t, .int 0] ∧ Av Z h t .byte (bs.map .int)
section StrFacts
variable {Z : State} {h h' : Heap} {a t : Addr} {bs : List Int32} {ws : List Addr}
theorem Str.exa (S : Str Z h a t bs) : Exa Z h a "java/lang/String" := S.1.1
theorem Str.lt (S : Str Z h a t bs) : a < h.size := S.1.lt
theorem Str.lt1 (S : Str Z h a t bs) : t < h.size := S.2.lt
theorem Str.keep (S : Str Z h a t bs) (K : Keep h h' ws) (q1 : a ∉ ws) (q2 : t ∉ ws) : Str Z h' a t bs := ⟨S.1.keep K q1, S.2.keep K q2⟩
theorem Str.k0 (S : Str Z h a t bs) (K : Keep h h' []) : Str Z h' a t bs := S.keep K nin0 nin0
theorem Fld.det {Z : State} {h : Heap} {a : Addr} {C n d : String} {v w : Value} (F : Fld Z h a C n d v) (G : Fld Z h a C n d w) : v = w := Decidable.byContradiction fun q => Fld.ne F G q rfl
theorem Av.det {Z : State} {h : Heap} {a : Addr} {ty : FieldType} {vs vs' : List Value} (V : Av Z h a ty vs) (V' : Av Z h a ty vs') : vs = vs' := by
  obtain ⟨k, z, ⟨c, A, r1, r2, r3, H, G⟩, e⟩ := V
  obtain ⟨k', z', ⟨c', A', r1', r2', r3', H', G'⟩, e'⟩ := V'
  cases A.1.symm.trans A'.1
  have hl : vs.length = vs'.length := by rw [← e, ← e', ← r2, ← r2']
  refine List.ext_getElem hl fun i h1 h2 => ?_
  have a1 := H i (by rw [r2, e]; exact h1)
  have a2 := H' i (by rw [r2', e']; exact h2)
  rw [a1] at a2
  simpa [List.getD_eq_getElem?_getD, h1, h2] using a2
theorem map_int_inj {xs ys : List Int32} (q : xs.map Value.int = ys.map Value.int) : xs = ys := (List.map_inj_right (fun _ _ z => Value.int.inj z)).mp q
theorem Str.det {bs' : List Int32} {t' : Addr} (S : Str Z h a t bs) (S' : Str Z h a t' bs') : t = t' ∧ bs = bs' := by
  have e : (Value.ref t) = .ref t' := Fld.det (S.1.2.2 0 _ _ rfl rfl) (S'.1.2.2 0 _ _ rfl rfl)
  cases e
  exact ⟨rfl, map_int_inj (Av.det S.2 S'.2)⟩
end StrFacts
/-- an array of references, whose class's components are C's -/
def Avr (Z : State) (h : Heap) (a : Addr) (C : String) (vs : List Value) : Prop := ∃ (k : ClassId) (z : Int32), Arv Z h a k (.object C) z vs .null ∧ z.toNatClampNeg = vs.length ∧ Ovr Z k C
theorem Avr.av {Z : State} {h : Heap} {a : Addr} {C : String} {vs : List Value} (V : Avr Z h a C vs) : Av Z h a (.object C) vs := by obtain ⟨k, z, A, e, -⟩ := V; exact ⟨k, z, A, e⟩
theorem Avr.lt {Z : State} {h : Heap} {a : Addr} {C : String} {vs : List Value} (V : Avr Z h a C vs) : a < h.size := V.av.lt
theorem Avr.keep {Z : State} {h h' : Heap} {a : Addr} {C : String} {vs : List Value} {ws : List Addr} (V : Avr Z h a C vs) (K : Keep h h' ws) (q : a ∉ ws) : Avr Z h' a C vs := by obtain ⟨k, z, A, e, O⟩ := V; exact ⟨k, z, A.keep K q, e, O⟩
theorem Avr.k0 {Z : State} {h h' : Heap} {a : Addr} {C : String} {vs : List Value} (V : Avr Z h a C vs) (K : Keep h h' []) : Avr Z h' a C vs := V.keep K nin0
theorem cat_ref {v : Value} (q : v.isRef = true) : v.category = 1 := by rcases ref_cases q with rfl | ⟨a, rfl⟩ <;> rfl
theorem fits_refv {ty : FieldType} {v : Value} (ht : ty.isReference = true) (hv : v.isRef = true) : fits ty v = true := by rcases ref_cases hv with rfl | ⟨a, rfl⟩ <;> cases ty <;> first | rfl | cases ht
theorem nar01 {z : Int32} (q : z = 0 ∨ z = 1) : narrow .boolean (.int z) = .int z ∧ fits .boolean (.int z) = true := by rcases q with rfl | rfl <;> exact ⟨rfl, rfl⟩
/-- a local that holds nothing or one word -/
def Sl (s : Slot) : Prop := s = .unset ∨ ∃ v, s = .val v ∧ v.category = 1
theorem Sl.u : Sl .unset := Or.inl rfl
theorem Sl.val {v : Value} (q : v.category = 1) : Sl (.val v) := Or.inr ⟨v, rfl, q⟩
theorem sto1 {Ls Ls' : Array Slot} {n : Nat} {v : Value} {s : Slot} (hold : Ls[n]? = some s) (hs : Sl s) (hv : v.category = 1) (e : Ls.setIfInBounds n (.val v) = Ls') : storeLocals Ls n v = some Ls' := e ▸ XS.store1 hold hs hv
section Small
theorem nI_int {n : Nat} (q : n < 2147483648) : (Int32.ofNat n).toInt = n := Int32.toInt_ofNat_of_lt q
theorem nI_nat {n : Nat} (q : n < 2147483648) : (Int32.ofNat n).toNatClampNeg = n := by rw [Int32.toNatClampNeg, nI_int q]; rfl
theorem nI_nn {n : Nat} (q : n < 2147483648) : ¬ Int32.ofNat n < 0 := by rw [Int32.lt_iff_toInt_lt, nI_int q]; show ¬ (n : Int) < 0; omega
theorem nI_lt {i n : Nat} (q1 : i < 2147483648) (q2 : n < 2147483648) : Int32.ofNat i < Int32.ofNat n ↔ i < n := by rw [Int32.lt_iff_toInt_lt, nI_int q1, nI_int q2]; omega
theorem nI_eq {i n : Nat} (q1 : i < 2147483648) (q2 : n < 2147483648) : Int32.ofNat i = Int32.ofNat n ↔ i = n := by rw [← Int32.toInt_inj, nI_int q1, nI_int q2]; omega
theorem nI_succ (i : Nat) : Int32.ofNat i + Int32.ofInt 1 = Int32.ofNat (i + 1) := by rw [Int32.ofNat_add]; rfl
theorem nI_nn' {x : Int32} (q : ¬ x < 0) : x = Int32.ofNat x.toNatClampNeg ∧ x.toNatClampNeg < 2147483648 := ⟨(back32 q).1.symm, (back32 q).2⟩
end Small
section Steps
variable {l : Launch} {y : MethodName} {bytes : ByteArray} {maxL : Nat} {ret : Option FieldType} {R : Room} {Z : State} {a0 : Array Value} {EL : List (String × Nat)} {wd : Bool} {wr : List Addr} {h0 : Heap} {Q : QT} {h : Heap} {os : List Addr} {cells slots : Nat} {Ls : Array Slot} {st : List Value}
theorem Go.pure {k : KT} (C : Ctx k l y bytes maxL ret R Z a0 EL wd wr h0 Q) {pc pc' : Nat} {Ls' : Array Slot} {st' : List Value}
    (hs : ∀ {p : Program} {e : Env} {below : List Frame} {T target : State} {m : MethodId} {c : Code}, p.tables.exec = Jvm.exec → c.code = bytes → At T m c below → Steps p.tables e below (T.setTop (mkF m pc' Ls' st')) target → Steps p.tables e below (T.setTop (mkF m pc Ls st)) target)
    (K : Go k h os cells slots pc' Ls' st') : Go k h os cells slots pc Ls st := by
  obtain ⟨p, l', e, R', s, m, args, below, meth, c, Z', EL', wd', wr', Q'⟩ := k
  obtain ⟨-, hx, hc, -⟩ := C
  intro T locs vm X e0 N S w A Kp ow
  exact Fen.of (fun t kt => hs hx hc X.here kt) (K T locs vm X e0 N S w A Kp ow)
theorem Go.iload {k : KT} (C : Ctx k l y bytes maxL ret R Z a0 EL wd wr h0 Q) {pc pc' : Nat} {n : Nat} {x : Int32} (hd : De bytes pc (.iload n) 2 pc') (hl : Ls[n]? = some (.val (.int x))) (K : Go k h os cells slots pc' Ls (.int x :: st)) : Go k h os cells slots pc Ls (st) :=
  Go.pure C (fun hx hc X kt => by obtain ⟨h1, rfl⟩ := hd; exact XS.iload X hx rfl (hb hc h1) hl kt) K
theorem Go.iloadN {k : KT} (C : Ctx k l y bytes maxL ret R Z a0 EL wd wr h0 Q) {pc pc' : Nat} {n : Fin 4} {x : Int32} (hd : De bytes pc (.iload_n n) 1 pc') (hl : Ls[n.val]? = some (.val (.int x))) (K : Go k h os cells slots pc' Ls (.int x :: st)) : Go k h os cells slots pc Ls (st) :=
  Go.pure C (fun hx hc X kt => by obtain ⟨h1, rfl⟩ := hd; exact XS.iloadN X hx rfl (hb hc h1) hl kt) K
theorem Go.lload {k : KT} (C : Ctx k l y bytes maxL ret R Z a0 EL wd wr h0 Q) {pc pc' : Nat} {n : Nat} {x : Int64} (hd : De bytes pc (.lload n) 2 pc') (hl : Ls[n]? = some (.val (.long x))) (K : Go k h os cells slots pc' Ls (.long x :: st)) : Go k h os cells slots pc Ls (st) :=
  Go.pure C (fun hx hc X kt => by obtain ⟨h1, rfl⟩ := hd; exact XS.lload X hx rfl (hb hc h1) hl kt) K
theorem Go.lloadN {k : KT} (C : Ctx k l y bytes maxL ret R Z a0 EL wd wr h0 Q) {pc pc' : Nat} {n : Fin 4} {x : Int64} (hd : De bytes pc (.lload_n n) 1 pc') (hl : Ls[n.val]? = some (.val (.long x))) (K : Go k h os cells slots pc' Ls (.long x :: st)) : Go k h os cells slots pc Ls (st) :=
  Go.pure C (fun hx hc X kt => by obtain ⟨h1, rfl⟩ := hd; exact XS.lloadN X hx rfl (hb hc h1) hl kt) K
theorem Go.aload {k : KT} (C : Ctx k l y bytes maxL ret R Z a0 EL wd wr h0 Q) {pc pc' : Nat} {n : Nat} {v : Value} (hd : De bytes pc (.aload n) 2 pc') (hl : Ls[n]? = some (.val v)) (hv : v.isRef = true) (K : Go k h os cells slots pc' Ls (v :: st)) : Go k h os cells slots pc Ls (st) :=
  Go.pure C (fun hx hc X kt => by obtain ⟨h1, rfl⟩ := hd; exact XS.aload X hx rfl (hb hc h1) hl hv kt) K
theorem Go.aloadN {k : KT} (C : Ctx k l y bytes maxL ret R Z a0 EL wd wr h0 Q) {pc pc' : Nat} {n : Fin 4} {v : Value} (hd : De bytes pc (.aload_n n) 1 pc') (hl : Ls[n.val]? = some (.val v)) (hv : v.isRef = true) (K : Go k h os cells slots pc' Ls (v :: st)) : Go k h os cells slots pc Ls (st) :=
  Go.pure C (fun hx hc X kt => by obtain ⟨h1, rfl⟩ := hd; exact XS.aloadN X hx rfl (hb hc h1) hl hv kt) K
theorem Go.istore {k : KT} (C : Ctx k l y bytes maxL ret R Z a0 EL wd wr h0 Q) {pc pc' : Nat} {n : Nat} {x : Int32} {Ls' : Array Slot} (hd : De bytes pc (.istore n) 2 pc') (hl : storeLocals Ls n (.int x) = some Ls') (K : Go k h os cells slots pc' Ls' (st)) : Go k h os cells slots pc Ls (.int x :: st) :=
  Go.pure C (fun hx hc X kt => by obtain ⟨h1, rfl⟩ := hd; exact XS.istore X hx rfl (hb hc h1) rfl hl kt) K
theorem Go.istoreN {k : KT} (C : Ctx k l y bytes maxL ret R Z a0 EL wd wr h0 Q) {pc pc' : Nat} {n : Fin 4} {x : Int32} {Ls' : Array Slot} (hd : De bytes pc (.istore_n n) 1 pc') (hl : storeLocals Ls n.val (.int x) = some Ls') (K : Go k h os cells slots pc' Ls' (st)) : Go k h os cells slots pc Ls (.int x :: st) :=
  Go.pure C (fun hx hc X kt => by obtain ⟨h1, rfl⟩ := hd; exact XS.istoreN X hx rfl (hb hc h1) rfl hl kt) K
theorem Go.lstore {k : KT} (C : Ctx k l y bytes maxL ret R Z a0 EL wd wr h0 Q) {pc pc' : Nat} {n : Nat} {x : Int64} {Ls' : Array Slot} (hd : De bytes pc (.lstore n) 2 pc') (hl : storeLocals Ls n (.long x) = some Ls') (K : Go k h os cells slots pc' Ls' (st)) : Go k h os cells slots pc Ls (.long x :: st) :=
  Go.pure C (fun hx hc X kt => by obtain ⟨h1, rfl⟩ := hd; exact XS.lstore X hx rfl (hb hc h1) rfl hl kt) K
theorem Go.lstoreN {k : KT} (C : Ctx k l y bytes maxL ret R Z a0 EL wd wr h0 Q) {pc pc' : Nat} {n : Fin 4} {x : Int64} {Ls' : Array Slot} (hd : De bytes pc (.lstore_n n) 1 pc') (hl : storeLocals Ls n.val (.long x) = some Ls') (K : Go k h os cells slots pc' Ls' (st)) : Go k h os cells slots pc Ls (.long x :: st) :=
  Go.pure C (fun hx hc X kt => by obtain ⟨h1, rfl⟩ := hd; exact XS.lstoreN X hx rfl (hb hc h1) rfl hl kt) K
theorem Go.astore {k : KT} (C : Ctx k l y bytes maxL ret R Z a0 EL wd wr h0 Q) {pc pc' : Nat} {n : Nat} {v : Value} {Ls' : Array Slot} (hd : De bytes pc (.astore n) 2 pc') (hv : v.isRef = true) (hl : storeLocals Ls n v = some Ls') (K : Go k h os cells slots pc' Ls' (st)) : Go k h os cells slots pc Ls (v :: st) :=
  Go.pure C (fun hx hc X kt => by obtain ⟨h1, rfl⟩ := hd; exact XS.astore X hx rfl (hb hc h1) rfl hv hl kt) K
theorem Go.astoreN {k : KT} (C : Ctx k l y bytes maxL ret R Z a0 EL wd wr h0 Q) {pc pc' : Nat} {n : Fin 4} {v : Value} {Ls' : Array Slot} (hd : De bytes pc (.astore_n n) 1 pc') (hv : v.isRef = true) (hl : storeLocals Ls n.val v = some Ls') (K : Go k h os cells slots pc' Ls' (st)) : Go k h os cells slots pc Ls (v :: st) :=
  Go.pure C (fun hx hc X kt => by obtain ⟨h1, rfl⟩ := hd; exact XS.astoreN X hx rfl (hb hc h1) rfl hv hl kt) K
theorem Go.iinc {k : KT} (C : Ctx k l y bytes maxL ret R Z a0 EL wd wr h0 Q) {pc pc' : Nat} {n : Nat} {cst : Int} {x : Int32} (x' : Int32) {Ls' : Array Slot} (hd : De bytes pc (.iinc n cst) 3 pc') (hl : Ls[n]? = some (.val (.int x))) (hx' : x + Int32.ofInt cst = x') (hl' : storeLocals Ls n (.int x') = some Ls') (K : Go k h os cells slots pc' Ls' (st)) : Go k h os cells slots pc Ls (st) :=
  Go.pure C (fun hx hc X kt => by obtain ⟨h1, rfl⟩ := hd; exact XS.iinc X hx rfl (hb hc h1) hl (by rw [hx']; exact hl') kt) K
theorem Go.iconst {k : KT} (C : Ctx k l y bytes maxL ret R Z a0 EL wd wr h0 Q) {pc pc' : Nat} {i : Int} (v : Int32) (hd : De bytes pc (.iconst i) 1 pc') (hv : Int32.ofInt i = v) (K : Go k h os cells slots pc' Ls (.int v :: st)) : Go k h os cells slots pc Ls (st) :=
  Go.pure C (fun hx hc X kt => by obtain ⟨h1, rfl⟩ := hd; exact XS.iconst X hx rfl (hb hc h1) (by rw [hv]; exact kt)) K
theorem Go.bipush {k : KT} (C : Ctx k l y bytes maxL ret R Z a0 EL wd wr h0 Q) {pc pc' : Nat} {i : Int} (v : Int32) (hd : De bytes pc (.bipush i) 2 pc') (hv : (Int8.ofInt i).toInt32 = v) (K : Go k h os cells slots pc' Ls (.int v :: st)) : Go k h os cells slots pc Ls (st) :=
  Go.pure C (fun hx hc X kt => by obtain ⟨h1, rfl⟩ := hd; exact XS.bipush X hx rfl (hb hc h1) (by rw [hv]; exact kt)) K
theorem Go.sipush {k : KT} (C : Ctx k l y bytes maxL ret R Z a0 EL wd wr h0 Q) {pc pc' : Nat} {i : Int} (v : Int32) (hd : De bytes pc (.sipush i) 3 pc') (hv : (Int16.ofInt i).toInt32 = v) (K : Go k h os cells slots pc' Ls (.int v :: st)) : Go k h os cells slots pc Ls (st) :=
  Go.pure C (fun hx hc X kt => by obtain ⟨h1, rfl⟩ := hd; exact XS.sipush X hx rfl (hb hc h1) (by rw [hv]; exact kt)) K
theorem Go.lconst {k : KT} (C : Ctx k l y bytes maxL ret R Z a0 EL wd wr h0 Q) {pc pc' : Nat} {i : Fin 2} (v : Int64) (hd : De bytes pc (.lconst i) 1 pc') (hv : Int64.ofNat i = v) (K : Go k h os cells slots pc' Ls (.long v :: st)) : Go k h os cells slots pc Ls (st) :=
  Go.pure C (fun hx hc X kt => by obtain ⟨h1, rfl⟩ := hd; exact XS.lconst X hx rfl (hb hc h1) (by rw [hv]; exact kt)) K
theorem Go.aconstNull {k : KT} (C : Ctx k l y bytes maxL ret R Z a0 EL wd wr h0 Q) {pc pc' : Nat}  (hd : De bytes pc (.aconst_null) 1 pc') (K : Go k h os cells slots pc' Ls (.null :: st)) : Go k h os cells slots pc Ls (st) :=
  Go.pure C (fun hx hc X kt => by obtain ⟨h1, rfl⟩ := hd; exact XS.aconstNull X hx rfl (hb hc h1) kt) K
theorem Go.iadd {k : KT} (C : Ctx k l y bytes maxL ret R Z a0 EL wd wr h0 Q) {pc pc' : Nat} {x y' : Int32} (hd : De bytes pc (.iadd) 1 pc') (K : Go k h os cells slots pc' Ls (.int (x + y') :: st)) : Go k h os cells slots pc Ls (.int y' :: .int x :: st) :=
  Go.pure C (fun hx hc X kt => by obtain ⟨h1, rfl⟩ := hd; exact XS.iadd X hx rfl (hb hc h1) rfl kt) K
theorem Go.isub {k : KT} (C : Ctx k l y bytes maxL ret R Z a0 EL wd wr h0 Q) {pc pc' : Nat} {x y' : Int32} (hd : De bytes pc (.isub) 1 pc') (K : Go k h os cells slots pc' Ls (.int (x - y') :: st)) : Go k h os cells slots pc Ls (.int y' :: .int x :: st) :=
  Go.pure C (fun hx hc X kt => by obtain ⟨h1, rfl⟩ := hd; exact XS.isub X hx rfl (hb hc h1) rfl kt) K
theorem Go.imul {k : KT} (C : Ctx k l y bytes maxL ret R Z a0 EL wd wr h0 Q) {pc pc' : Nat} {x y' : Int32} (hd : De bytes pc (.imul) 1 pc') (K : Go k h os cells slots pc' Ls (.int (x * y') :: st)) : Go k h os cells slots pc Ls (.int y' :: .int x :: st) :=
  Go.pure C (fun hx hc X kt => by obtain ⟨h1, rfl⟩ := hd; exact XS.imul X hx rfl (hb hc h1) rfl kt) K
theorem Go.iand {k : KT} (C : Ctx k l y bytes maxL ret R Z a0 EL wd wr h0 Q) {pc pc' : Nat} {x y' : Int32} (hd : De bytes pc (.iand) 1 pc') (K : Go k h os cells slots pc' Ls (.int (x &&& y') :: st)) : Go k h os cells slots pc Ls (.int y' :: .int x :: st) :=
  Go.pure C (fun hx hc X kt => by obtain ⟨h1, rfl⟩ := hd; exact XS.iand X hx rfl (hb hc h1) rfl kt) K
theorem Go.ior {k : KT} (C : Ctx k l y bytes maxL ret R Z a0 EL wd wr h0 Q) {pc pc' : Nat} {x y' : Int32} (hd : De bytes pc (.ior) 1 pc') (K : Go k h os cells slots pc' Ls (.int (x ||| y') :: st)) : Go k h os cells slots pc Ls (.int y' :: .int x :: st) :=
  Go.pure C (fun hx hc X kt => by obtain ⟨h1, rfl⟩ := hd; exact XS.ior X hx rfl (hb hc h1) rfl kt) K
theorem Go.ixor {k : KT} (C : Ctx k l y bytes maxL ret R Z a0 EL wd wr h0 Q) {pc pc' : Nat} {x y' : Int32} (hd : De bytes pc (.ixor) 1 pc') (K : Go k h os cells slots pc' Ls (.int (x ^^^ y') :: st)) : Go k h os cells slots pc Ls (.int y' :: .int x :: st) :=
  Go.pure C (fun hx hc X kt => by obtain ⟨h1, rfl⟩ := hd; exact XS.ixor X hx rfl (hb hc h1) rfl kt) K
theorem Go.ishl {k : KT} (C : Ctx k l y bytes maxL ret R Z a0 EL wd wr h0 Q) {pc pc' : Nat} {x y' : Int32} (hd : De bytes pc (.ishl) 1 pc') (K : Go k h os cells slots pc' Ls (.int (x <<< (y' &&& 31)) :: st)) : Go k h os cells slots pc Ls (.int y' :: .int x :: st) :=
  Go.pure C (fun hx hc X kt => by obtain ⟨h1, rfl⟩ := hd; exact XS.ishl X hx rfl (hb hc h1) rfl kt) K
theorem Go.ishr {k : KT} (C : Ctx k l y bytes maxL ret R Z a0 EL wd wr h0 Q) {pc pc' : Nat} {x y' : Int32} (hd : De bytes pc (.ishr) 1 pc') (K : Go k h os cells slots pc' Ls (.int (x >>> (y' &&& 31)) :: st)) : Go k h os cells slots pc Ls (.int y' :: .int x :: st) :=
  Go.pure C (fun hx hc X kt => by obtain ⟨h1, rfl⟩ := hd; exact XS.ishr X hx rfl (hb hc h1) rfl kt) K
theorem Go.iushr {k : KT} (C : Ctx k l y bytes maxL ret R Z a0 EL wd wr h0 Q) {pc pc' : Nat} {x y' : Int32} (hd : De bytes pc (.iushr) 1 pc') (K : Go k h os cells slots pc' Ls (.int ((x.toUInt32 >>> (y' &&& 31).toUInt32).toInt32) :: st)) : Go k h os cells slots pc Ls (.int y' :: .int x :: st) :=
  Go.pure C (fun hx hc X kt => by obtain ⟨h1, rfl⟩ := hd; exact XS.iushr X hx rfl (hb hc h1) rfl kt) K
theorem Go.ladd {k : KT} (C : Ctx k l y bytes maxL ret R Z a0 EL wd wr h0 Q) {pc pc' : Nat} {x y' : Int64} (hd : De bytes pc (.ladd) 1 pc') (K : Go k h os cells slots pc' Ls (.long (x + y') :: st)) : Go k h os cells slots pc Ls (.long y' :: .long x :: st) :=
  Go.pure C (fun hx hc X kt => by obtain ⟨h1, rfl⟩ := hd; exact XS.ladd X hx rfl (hb hc h1) rfl kt) K
theorem Go.lsub {k : KT} (C : Ctx k l y bytes maxL ret R Z a0 EL wd wr h0 Q) {pc pc' : Nat} {x y' : Int64} (hd : De bytes pc (.lsub) 1 pc') (K : Go k h os cells slots pc' Ls (.long (x - y') :: st)) : Go k h os cells slots pc Ls (.long y' :: .long x :: st) :=
  Go.pure C (fun hx hc X kt => by obtain ⟨h1, rfl⟩ := hd; exact XS.lsub X hx rfl (hb hc h1) rfl kt) K
theorem Go.lmul {k : KT} (C : Ctx k l y bytes maxL ret R Z a0 EL wd wr h0 Q) {pc pc' : Nat} {x y' : Int64} (hd : De bytes pc (.lmul) 1 pc') (K : Go k h os cells slots pc' Ls (.long (x * y') :: st)) : Go k h os cells slots pc Ls (.long y' :: .long x :: st) :=
  Go.pure C (fun hx hc X kt => by obtain ⟨h1, rfl⟩ := hd; exact XS.lmul X hx rfl (hb hc h1) rfl kt) K
theorem Go.land {k : KT} (C : Ctx k l y bytes maxL ret R Z a0 EL wd wr h0 Q) {pc pc' : Nat} {x y' : Int64} (hd : De bytes pc (.land) 1 pc') (K : Go k h os cells slots pc' Ls (.long (x &&& y') :: st)) : Go k h os cells slots pc Ls (.long y' :: .long x :: st) :=
  Go.pure C (fun hx hc X kt => by obtain ⟨h1, rfl⟩ := hd; exact XS.land X hx rfl (hb hc h1) rfl kt) K
theorem Go.lor {k : KT} (C : Ctx k l y bytes maxL ret R Z a0 EL wd wr h0 Q) {pc pc' : Nat} {x y' : Int64} (hd : De bytes pc (.lor) 1 pc') (K : Go k h os cells slots pc' Ls (.long (x ||| y') :: st)) : Go k h os cells slots pc Ls (.long y' :: .long x :: st) :=
  Go.pure C (fun hx hc X kt => by obtain ⟨h1, rfl⟩ := hd; exact XS.lor X hx rfl (hb hc h1) rfl kt) K
theorem Go.lxor {k : KT} (C : Ctx k l y bytes maxL ret R Z a0 EL wd wr h0 Q) {pc pc' : Nat} {x y' : Int64} (hd : De bytes pc (.lxor) 1 pc') (K : Go k h os cells slots pc' Ls (.long (x ^^^ y') :: st)) : Go k h os cells slots pc Ls (.long y' :: .long x :: st) :=
  Go.pure C (fun hx hc X kt => by obtain ⟨h1, rfl⟩ := hd; exact XS.lxor X hx rfl (hb hc h1) rfl kt) K
theorem Go.lshl {k : KT} (C : Ctx k l y bytes maxL ret R Z a0 EL wd wr h0 Q) {pc pc' : Nat} {x : Int64} {y' : Int32} (hd : De bytes pc (.lshl) 1 pc') (K : Go k h os cells slots pc' Ls (.long (x <<< (y' &&& 0x3f).toInt64) :: st)) : Go k h os cells slots pc Ls (.int y' :: .long x :: st) :=
  Go.pure C (fun hx hc X kt => by obtain ⟨h1, rfl⟩ := hd; exact XS.lshl X hx rfl (hb hc h1) rfl kt) K
theorem Go.lshr {k : KT} (C : Ctx k l y bytes maxL ret R Z a0 EL wd wr h0 Q) {pc pc' : Nat} {x : Int64} {y' : Int32} (hd : De bytes pc (.lshr) 1 pc') (K : Go k h os cells slots pc' Ls (.long (x >>> (y' &&& 0x3f).toInt64) :: st)) : Go k h os cells slots pc Ls (.int y' :: .long x :: st) :=
  Go.pure C (fun hx hc X kt => by obtain ⟨h1, rfl⟩ := hd; exact XS.lshr X hx rfl (hb hc h1) rfl kt) K
theorem Go.lushr {k : KT} (C : Ctx k l y bytes maxL ret R Z a0 EL wd wr h0 Q) {pc pc' : Nat} {x : Int64} {y' : Int32} (hd : De bytes pc (.lushr) 1 pc') (K : Go k h os cells slots pc' Ls (.long ((x.toUInt64 >>> (y' &&& 0x3f).toInt64.toUInt64).toInt64) :: st)) : Go k h os cells slots pc Ls (.int y' :: .long x :: st) :=
  Go.pure C (fun hx hc X kt => by obtain ⟨h1, rfl⟩ := hd; exact XS.lushr X hx rfl (hb hc h1) rfl kt) K
theorem Go.idiv {k : KT} (C : Ctx k l y bytes maxL ret R Z a0 EL wd wr h0 Q) {pc pc' : Nat} {x y' : Int32} (hd : De bytes pc (.idiv) 1 pc') (hy : y' ≠ 0) (K : Go k h os cells slots pc' Ls (.int (x / y') :: st)) : Go k h os cells slots pc Ls (.int y' :: .int x :: st) :=
  Go.pure C (fun hx hc X kt => by obtain ⟨h1, rfl⟩ := hd; exact XS.idiv X hx rfl (hb hc h1) rfl hy kt) K
theorem Go.irem {k : KT} (C : Ctx k l y bytes maxL ret R Z a0 EL wd wr h0 Q) {pc pc' : Nat} {x y' : Int32} (hd : De bytes pc (.irem) 1 pc') (hy : y' ≠ 0) (K : Go k h os cells slots pc' Ls (.int (x % y') :: st)) : Go k h os cells slots pc Ls (.int y' :: .int x :: st) :=
  Go.pure C (fun hx hc X kt => by obtain ⟨h1, rfl⟩ := hd; exact XS.irem X hx rfl (hb hc h1) rfl hy (by rw [irem_eq_mod x y']; exact kt)) K
theorem Go.ldiv {k : KT} (C : Ctx k l y bytes maxL ret R Z a0 EL wd wr h0 Q) {pc pc' : Nat} {x y' : Int64} (hd : De bytes pc (.ldiv) 1 pc') (hy : y' ≠ 0) (K : Go k h os cells slots pc' Ls (.long (x / y') :: st)) : Go k h os cells slots pc Ls (.long y' :: .long x :: st) :=
  Go.pure C (fun hx hc X kt => by obtain ⟨h1, rfl⟩ := hd; exact XS.ldiv X hx rfl (hb hc h1) rfl hy kt) K
theorem Go.lcmp {k : KT} (C : Ctx k l y bytes maxL ret R Z a0 EL wd wr h0 Q) {pc pc' : Nat} {x y' : Int64} (hd : De bytes pc (.lcmp) 1 pc') (K : Go k h os cells slots pc' Ls (.int (lcmpW x y') :: st)) : Go k h os cells slots pc Ls (.long y' :: .long x :: st) :=
  Go.pure C (fun hx hc X kt => by obtain ⟨h1, rfl⟩ := hd; exact XS.lcmp X hx rfl (hb hc h1) rfl kt) K
theorem Go.ineg {k : KT} (C : Ctx k l y bytes maxL ret R Z a0 EL wd wr h0 Q) {pc pc' : Nat} {x : Int32} (hd : De bytes pc (.ineg) 1 pc') (K : Go k h os cells slots pc' Ls (.int (-x) :: st)) : Go k h os cells slots pc Ls (.int x :: st) :=
  Go.pure C (fun hx hc X kt => by obtain ⟨h1, rfl⟩ := hd; exact XS.ineg X hx rfl (hb hc h1) rfl kt) K
theorem Go.lneg {k : KT} (C : Ctx k l y bytes maxL ret R Z a0 EL wd wr h0 Q) {pc pc' : Nat} {x : Int64} (hd : De bytes pc (.lneg) 1 pc') (K : Go k h os cells slots pc' Ls (.long (-x) :: st)) : Go k h os cells slots pc Ls (.long x :: st) :=
  Go.pure C (fun hx hc X kt => by obtain ⟨h1, rfl⟩ := hd; exact XS.lneg X hx rfl (hb hc h1) rfl kt) K
theorem Go.i2l {k : KT} (C : Ctx k l y bytes maxL ret R Z a0 EL wd wr h0 Q) {pc pc' : Nat} {x : Int32} (hd : De bytes pc (.i2l) 1 pc') (K : Go k h os cells slots pc' Ls (.long (x.toInt64) :: st)) : Go k h os cells slots pc Ls (.int x :: st) :=
  Go.pure C (fun hx hc X kt => by obtain ⟨h1, rfl⟩ := hd; exact XS.i2l X hx rfl (hb hc h1) rfl kt) K
theorem Go.l2i {k : KT} (C : Ctx k l y bytes maxL ret R Z a0 EL wd wr h0 Q) {pc pc' : Nat} {x : Int64} (hd : De bytes pc (.l2i) 1 pc') (K : Go k h os cells slots pc' Ls (.int (x.toInt32) :: st)) : Go k h os cells slots pc Ls (.long x :: st) :=
  Go.pure C (fun hx hc X kt => by obtain ⟨h1, rfl⟩ := hd; exact XS.l2i X hx rfl (hb hc h1) rfl kt) K
theorem Go.i2b {k : KT} (C : Ctx k l y bytes maxL ret R Z a0 EL wd wr h0 Q) {pc pc' : Nat} {x : Int32} (hd : De bytes pc (.i2b) 1 pc') (K : Go k h os cells slots pc' Ls (.int (x.toInt8.toInt32) :: st)) : Go k h os cells slots pc Ls (.int x :: st) :=
  Go.pure C (fun hx hc X kt => by obtain ⟨h1, rfl⟩ := hd; exact XS.i2b X hx rfl (hb hc h1) rfl kt) K
theorem Go.i2s {k : KT} (C : Ctx k l y bytes maxL ret R Z a0 EL wd wr h0 Q) {pc pc' : Nat} {x : Int32} (hd : De bytes pc (.i2s) 1 pc') (K : Go k h os cells slots pc' Ls (.int (x.toInt16.toInt32) :: st)) : Go k h os cells slots pc Ls (.int x :: st) :=
  Go.pure C (fun hx hc X kt => by obtain ⟨h1, rfl⟩ := hd; exact XS.i2s X hx rfl (hb hc h1) rfl kt) K
theorem Go.i2c {k : KT} (C : Ctx k l y bytes maxL ret R Z a0 EL wd wr h0 Q) {pc pc' : Nat} {x : Int32} (hd : De bytes pc (.i2c) 1 pc') (K : Go k h os cells slots pc' Ls (.int (x.toUInt32.toUInt16.toUInt32.toInt32) :: st)) : Go k h os cells slots pc Ls (.int x :: st) :=
  Go.pure C (fun hx hc X kt => by obtain ⟨h1, rfl⟩ := hd; exact XS.i2c X hx rfl (hb hc h1) rfl kt) K
theorem Go.dup {k : KT} (C : Ctx k l y bytes maxL ret R Z a0 EL wd wr h0 Q) {pc pc' : Nat} {v : Value} (hd : De bytes pc (.dup) 1 pc') (hv : v.category = 1) (K : Go k h os cells slots pc' Ls (v :: v :: st)) : Go k h os cells slots pc Ls (v :: st) :=
  Go.pure C (fun hx hc X kt => by obtain ⟨h1, rfl⟩ := hd; exact XS.dup X hx rfl (hb hc h1) rfl hv kt) K
theorem Go.pop {k : KT} (C : Ctx k l y bytes maxL ret R Z a0 EL wd wr h0 Q) {pc pc' : Nat} {v : Value} (hd : De bytes pc (.pop) 1 pc') (hv : v.category = 1) (K : Go k h os cells slots pc' Ls (st)) : Go k h os cells slots pc Ls (v :: st) :=
  Go.pure C (fun hx hc X kt => by obtain ⟨h1, rfl⟩ := hd; exact XS.pop X hx rfl (hb hc h1) rfl hv kt) K
theorem Go.dupX1 {k : KT} (C : Ctx k l y bytes maxL ret R Z a0 EL wd wr h0 Q) {pc pc' : Nat} {v w : Value} (hd : De bytes pc (.dup_x1) 1 pc') (hv : v.category = 1) (hw : w.category = 1) (K : Go k h os cells slots pc' Ls (v :: w :: v :: st)) : Go k h os cells slots pc Ls (v :: w :: st) :=
  Go.pure C (fun hx hc X kt => by obtain ⟨h1, rfl⟩ := hd; exact XS.dupX1 X hx rfl (hb hc h1) rfl hv hw kt) K
theorem Go.swap {k : KT} (C : Ctx k l y bytes maxL ret R Z a0 EL wd wr h0 Q) {pc pc' : Nat} {v w : Value} (hd : De bytes pc (.swap) 1 pc') (hv : v.category = 1) (hw : w.category = 1) (K : Go k h os cells slots pc' Ls (w :: v :: st)) : Go k h os cells slots pc Ls (v :: w :: st) :=
  Go.pure C (fun hx hc X kt => by obtain ⟨h1, rfl⟩ := hd; exact XS.swap X hx rfl (hb hc h1) rfl hv hw kt) K
theorem Go.dup2 {k : KT} (C : Ctx k l y bytes maxL ret R Z a0 EL wd wr h0 Q) {pc pc' : Nat} {v w : Value} (hd : De bytes pc (.dup2) 1 pc') (hv : v.category = 1) (hw : w.category = 1) (K : Go k h os cells slots pc' Ls (v :: w :: v :: w :: st)) : Go k h os cells slots pc Ls (v :: w :: st) :=
  Go.pure C (fun hx hc X kt => by obtain ⟨h1, rfl⟩ := hd; exact XT.dup2 X hx rfl (hb hc h1) rfl hv hw kt) K
theorem Go.goto {k : KT} (C : Ctx k l y bytes maxL ret R Z a0 EL wd wr h0 Q) {pc pc' pcT : Nat} (hd : DeJ bytes pc .goto pc' pcT) (K : Go k h os cells slots pcT Ls st) : Go k h os cells slots pc Ls st :=
  Go.pure C (fun hx hc X kt => by obtain ⟨o, h1, -, h2, h3⟩ := hd; exact XS.goto X hx rfl rfl (hb hc h1) h2 h3 kt) K
theorem Go.ifeq {k : KT} (C : Ctx k l y bytes maxL ret R Z a0 EL wd wr h0 Q) {pc pc' pcT : Nat} {x : Int32} (hd : DeJ bytes pc (.ifCond .eq) pc' pcT) (KT : (x = 0) → Go k h os cells slots pcT Ls st) (KF : ¬ (x = 0) → Go k h os cells slots pc' Ls st) : Go k h os cells slots pc Ls (.int x :: st) := by
  obtain ⟨o, h1, rfl, h2, h3⟩ := hd
  by_cases q : (x = 0)
  · exact Go.pure C (fun hx hc X kt => XS.ifYes X hx rfl rfl (hb hc h1) rfl ((if0 _ _).trans (teq q).1) h2 h3 kt) (KT q)
  · exact Go.pure C (fun hx hc X kt => XS.ifNo X hx rfl (hb hc h1) rfl ((if0 _ _).trans (feq q).1) kt) (KF q)
theorem Go.icmpeq {k : KT} (C : Ctx k l y bytes maxL ret R Z a0 EL wd wr h0 Q) {pc pc' pcT : Nat} {x z : Int32} (hd : DeJ bytes pc (.if_icmp .eq) pc' pcT) (KT : (x = z) → Go k h os cells slots pcT Ls st) (KF : ¬ (x = z) → Go k h os cells slots pc' Ls st) : Go k h os cells slots pc Ls (.int z :: .int x :: st) := by
  obtain ⟨o, h1, rfl, h2, h3⟩ := hd
  by_cases q : (x = z)
  · exact Go.pure C (fun hx hc X kt => XS.icmpYes X hx rfl rfl (hb hc h1) rfl (teq q).1 h2 h3 kt) (KT q)
  · exact Go.pure C (fun hx hc X kt => XS.icmpNo X hx rfl (hb hc h1) rfl (feq q).1 kt) (KF q)
theorem Go.ifne {k : KT} (C : Ctx k l y bytes maxL ret R Z a0 EL wd wr h0 Q) {pc pc' pcT : Nat} {x : Int32} (hd : DeJ bytes pc (.ifCond .ne) pc' pcT) (KT : ¬ (x = 0) → Go k h os cells slots pcT Ls st) (KF : (x = 0) → Go k h os cells slots pc' Ls st) : Go k h os cells slots pc Ls (.int x :: st) := by
  obtain ⟨o, h1, rfl, h2, h3⟩ := hd
  by_cases q : ¬ (x = 0)
  · exact Go.pure C (fun hx hc X kt => XS.ifYes X hx rfl rfl (hb hc h1) rfl ((if0 _ _).trans (feq q).2) h2 h3 kt) (KT q)
  · have q := Decidable.not_not.mp q
    exact Go.pure C (fun hx hc X kt => XS.ifNo X hx rfl (hb hc h1) rfl ((if0 _ _).trans (teq q).2) kt) (KF q)
theorem Go.icmpne {k : KT} (C : Ctx k l y bytes maxL ret R Z a0 EL wd wr h0 Q) {pc pc' pcT : Nat} {x z : Int32} (hd : DeJ bytes pc (.if_icmp .ne) pc' pcT) (KT : ¬ (x = z) → Go k h os cells slots pcT Ls st) (KF : (x = z) → Go k h os cells slots pc' Ls st) : Go k h os cells slots pc Ls (.int z :: .int x :: st) := by
  obtain ⟨o, h1, rfl, h2, h3⟩ := hd
  by_cases q : ¬ (x = z)
  · exact Go.pure C (fun hx hc X kt => XS.icmpYes X hx rfl rfl (hb hc h1) rfl (feq q).2 h2 h3 kt) (KT q)
  · have q := Decidable.not_not.mp q
    exact Go.pure C (fun hx hc X kt => XS.icmpNo X hx rfl (hb hc h1) rfl (teq q).2 kt) (KF q)
theorem Go.iflt {k : KT} (C : Ctx k l y bytes maxL ret R Z a0 EL wd wr h0 Q) {pc pc' pcT : Nat} {x : Int32} (hd : DeJ bytes pc (.ifCond .lt) pc' pcT) (KT : (x < 0) → Go k h os cells slots pcT Ls st) (KF : ¬ (x < 0) → Go k h os cells slots pc' Ls st) : Go k h os cells slots pc Ls (.int x :: st) := by
  obtain ⟨o, h1, rfl, h2, h3⟩ := hd
  by_cases q : (x < 0)
  · exact Go.pure C (fun hx hc X kt => XS.ifYes X hx rfl rfl (hb hc h1) rfl ((if0 _ _).trans (tlt q).1) h2 h3 kt) (KT q)
  · exact Go.pure C (fun hx hc X kt => XS.ifNo X hx rfl (hb hc h1) rfl ((if0 _ _).trans (flt q).1) kt) (KF q)
theorem Go.icmplt {k : KT} (C : Ctx k l y bytes maxL ret R Z a0 EL wd wr h0 Q) {pc pc' pcT : Nat} {x z : Int32} (hd : DeJ bytes pc (.if_icmp .lt) pc' pcT) (KT : (x < z) → Go k h os cells slots pcT Ls st) (KF : ¬ (x < z) → Go k h os cells slots pc' Ls st) : Go k h os cells slots pc Ls (.int z :: .int x :: st) := by
  obtain ⟨o, h1, rfl, h2, h3⟩ := hd
  by_cases q : (x < z)
  · exact Go.pure C (fun hx hc X kt => XS.icmpYes X hx rfl rfl (hb hc h1) rfl (tlt q).1 h2 h3 kt) (KT q)
  · exact Go.pure C (fun hx hc X kt => XS.icmpNo X hx rfl (hb hc h1) rfl (flt q).1 kt) (KF q)
theorem Go.ifge {k : KT} (C : Ctx k l y bytes maxL ret R Z a0 EL wd wr h0 Q) {pc pc' pcT : Nat} {x : Int32} (hd : DeJ bytes pc (.ifCond .ge) pc' pcT) (KT : ¬ (x < 0) → Go k h os cells slots pcT Ls st) (KF : (x < 0) → Go k h os cells slots pc' Ls st) : Go k h os cells slots pc Ls (.int x :: st) := by
  obtain ⟨o, h1, rfl, h2, h3⟩ := hd
  by_cases q : ¬ (x < 0)
  · exact Go.pure C (fun hx hc X kt => XS.ifYes X hx rfl rfl (hb hc h1) rfl ((if0 _ _).trans (flt q).2.1) h2 h3 kt) (KT q)
  · have q := Decidable.not_not.mp q
    exact Go.pure C (fun hx hc X kt => XS.ifNo X hx rfl (hb hc h1) rfl ((if0 _ _).trans (tlt q).2.1) kt) (KF q)
theorem Go.icmpge {k : KT} (C : Ctx k l y bytes maxL ret R Z a0 EL wd wr h0 Q) {pc pc' pcT : Nat} {x z : Int32} (hd : DeJ bytes pc (.if_icmp .ge) pc' pcT) (KT : ¬ (x < z) → Go k h os cells slots pcT Ls st) (KF : (x < z) → Go k h os cells slots pc' Ls st) : Go k h os cells slots pc Ls (.int z :: .int x :: st) := by
  obtain ⟨o, h1, rfl, h2, h3⟩ := hd
  by_cases q : ¬ (x < z)
  · exact Go.pure C (fun hx hc X kt => XS.icmpYes X hx rfl rfl (hb hc h1) rfl (flt q).2.1 h2 h3 kt) (KT q)
  · have q := Decidable.not_not.mp q
    exact Go.pure C (fun hx hc X kt => XS.icmpNo X hx rfl (hb hc h1) rfl (tlt q).2.1 kt) (KF q)
theorem Go.ifgt {k : KT} (C : Ctx k l y bytes maxL ret R Z a0 EL wd wr h0 Q) {pc pc' pcT : Nat} {x : Int32} (hd : DeJ bytes pc (.ifCond .gt) pc' pcT) (KT : (0 < x) → Go k h os cells slots pcT Ls st) (KF : ¬ (0 < x) → Go k h os cells slots pc' Ls st) : Go k h os cells slots pc Ls (.int x :: st) := by
  obtain ⟨o, h1, rfl, h2, h3⟩ := hd
  by_cases q : (0 < x)
  · exact Go.pure C (fun hx hc X kt => XS.ifYes X hx rfl rfl (hb hc h1) rfl ((if0 _ _).trans (tlt q).2.2.1) h2 h3 kt) (KT q)
  · exact Go.pure C (fun hx hc X kt => XS.ifNo X hx rfl (hb hc h1) rfl ((if0 _ _).trans (flt q).2.2.1) kt) (KF q)
theorem Go.icmpgt {k : KT} (C : Ctx k l y bytes maxL ret R Z a0 EL wd wr h0 Q) {pc pc' pcT : Nat} {x z : Int32} (hd : DeJ bytes pc (.if_icmp .gt) pc' pcT) (KT : (z < x) → Go k h os cells slots pcT Ls st) (KF : ¬ (z < x) → Go k h os cells slots pc' Ls st) : Go k h os cells slots pc Ls (.int z :: .int x :: st) := by
  obtain ⟨o, h1, rfl, h2, h3⟩ := hd
  by_cases q : (z < x)
  · exact Go.pure C (fun hx hc X kt => XS.icmpYes X hx rfl rfl (hb hc h1) rfl (tlt q).2.2.1 h2 h3 kt) (KT q)
  · exact Go.pure C (fun hx hc X kt => XS.icmpNo X hx rfl (hb hc h1) rfl (flt q).2.2.1 kt) (KF q)
theorem Go.ifle {k : KT} (C : Ctx k l y bytes maxL ret R Z a0 EL wd wr h0 Q) {pc pc' pcT : Nat} {x : Int32} (hd : DeJ bytes pc (.ifCond .le) pc' pcT) (KT : ¬ (0 < x) → Go k h os cells slots pcT Ls st) (KF : (0 < x) → Go k h os cells slots pc' Ls st) : Go k h os cells slots pc Ls (.int x :: st) := by
  obtain ⟨o, h1, rfl, h2, h3⟩ := hd
  by_cases q : ¬ (0 < x)
  · exact Go.pure C (fun hx hc X kt => XS.ifYes X hx rfl rfl (hb hc h1) rfl ((if0 _ _).trans (flt q).2.2.2) h2 h3 kt) (KT q)
  · have q := Decidable.not_not.mp q
    exact Go.pure C (fun hx hc X kt => XS.ifNo X hx rfl (hb hc h1) rfl ((if0 _ _).trans (tlt q).2.2.2) kt) (KF q)
theorem Go.icmple {k : KT} (C : Ctx k l y bytes maxL ret R Z a0 EL wd wr h0 Q) {pc pc' pcT : Nat} {x z : Int32} (hd : DeJ bytes pc (.if_icmp .le) pc' pcT) (KT : ¬ (z < x) → Go k h os cells slots pcT Ls st) (KF : (z < x) → Go k h os cells slots pc' Ls st) : Go k h os cells slots pc Ls (.int z :: .int x :: st) := by
  obtain ⟨o, h1, rfl, h2, h3⟩ := hd
  by_cases q : ¬ (z < x)
  · exact Go.pure C (fun hx hc X kt => XS.icmpYes X hx rfl rfl (hb hc h1) rfl (flt q).2.2.2 h2 h3 kt) (KT q)
  · have q := Decidable.not_not.mp q
    exact Go.pure C (fun hx hc X kt => XS.icmpNo X hx rfl (hb hc h1) rfl (tlt q).2.2.2 kt) (KF q)
theorem Go.ifnullY {k : KT} (C : Ctx k l y bytes maxL ret R Z a0 EL wd wr h0 Q) {pc pc' pcT : Nat} (hd : DeJ bytes pc .ifnull pc' pcT) (K : Go k h os cells slots pcT Ls st) : Go k h os cells slots pc Ls (.null :: st) :=
  Go.pure C (fun hx hc X kt => by obtain ⟨o, h1, -, h2, h3⟩ := hd; exact XS.ifnullYes X hx rfl rfl (hb hc h1) rfl h2 h3 kt) K
theorem Go.ifnullN {k : KT} (C : Ctx k l y bytes maxL ret R Z a0 EL wd wr h0 Q) {pc pc' pcT : Nat} {b : Addr} (hd : DeJ bytes pc .ifnull pc' pcT) (K : Go k h os cells slots pc' Ls st) : Go k h os cells slots pc Ls (.ref b :: st) :=
  Go.pure C (fun hx hc X kt => by obtain ⟨o, h1, rfl, h2, h3⟩ := hd; exact XS.ifnullNo X hx rfl (hb hc h1) rfl kt) K
theorem Go.ifnonnullY {k : KT} (C : Ctx k l y bytes maxL ret R Z a0 EL wd wr h0 Q) {pc pc' pcT : Nat} {b : Addr} (hd : DeJ bytes pc .ifnonnull pc' pcT) (K : Go k h os cells slots pcT Ls st) : Go k h os cells slots pc Ls (.ref b :: st) :=
  Go.pure C (fun hx hc X kt => by obtain ⟨o, h1, -, h2, h3⟩ := hd; exact XS.ifnonnullYes X hx rfl rfl (hb hc h1) rfl h2 h3 kt) K
theorem Go.ifnonnullN {k : KT} (C : Ctx k l y bytes maxL ret R Z a0 EL wd wr h0 Q) {pc pc' pcT : Nat} (hd : DeJ bytes pc .ifnonnull pc' pcT) (K : Go k h os cells slots pc' Ls st) : Go k h os cells slots pc Ls (.null :: st) :=
  Go.pure C (fun hx hc X kt => by obtain ⟨o, h1, rfl, h2, h3⟩ := hd; exact XS.ifnonnullNo X hx rfl (hb hc h1) rfl kt) K
end Steps
section Heapy
variable {l : Launch} {y : MethodName} {bytes : ByteArray} {maxL : Nat} {ret : Option FieldType} {R : Room} {Z : State} {a0 : Array Value} {EL : List (String × Nat)} {wd : Bool} {wr : List Addr} {h0 : Heap} {Q : QT} {h : Heap} {os : List Addr} {cells slots : Nat} {Ls : Array Slot} {st : List Value}
/-- the run moves on: heap, tables and frame at hand -/
theorem mov {p : Program} {e : Env} {s : State} {m : MethodId} {args : Array Value} {below : List Frame} {meth : Method} {c : Code} {T T' : State} {locs' : List Loc} {vm' : Vm} {h' : Heap} {os' : List Addr} {cells' slots' pc pc' : Nat} {Ls' : Array Slot} {st' : List Value}
    (G : Go ⟨p, l, e, R, s, m, args, below, meth, c, Z, EL, wd, wr, Q⟩ h' os' cells' slots' pc' Ls' st') (X' : Stand p l e R (s.setVm vm') m args below meth c T' locs' cells' slots') (e' : T'.heap = h') (N' : Fr Z.heap.size locs') (S' : s.Since vm' h'.size) (w' : wd = false → s.WarmedH vm')
    (A' : CHr Z EL s.vm s.heap vm' h') (K' : Keep s.heap h' wr) (ow' : ∀ x ∈ os', Own Z s.heap EL wr vm' h' x)
    (stp : ∀ target, Steps p.tables e below (T'.setTop (mkF m pc' Ls' st')) target → Steps p.tables e below (T.setTop (mkF m pc Ls st)) target) : Fen p e below (Done Z EL wd R wr Q s) (T.setTop (mkF m pc Ls st)) :=
  Fen.of stp (G T' locs' vm' X' e' N' S' w' A' K' ow')
theorem ext0 {s : State} {h' : Heap} (E : Ext Z.heap s.heap) (K : Keep s.heap h' wr) (q : ∀ x ∈ wr, Z.heap.size ≤ x) : Ext Z.heap h' :=
  ⟨Nat.le_trans E.1 K.1, fun a c r => K.2.1 a c (E.2 a c r) fun hm => absurd (Array.getElem?_eq_some_iff.mp r).1 (Nat.not_lt.mpr (q a hm))⟩
theorem Go.old {k : KT} (C : Ctx k l y bytes maxL ret R Z a0 EL wd wr h0 Q) {pc : Nat} (K : Ext Z.heap h → Go k h os cells slots pc Ls st) : Go k h os cells slots pc Ls st := by
  obtain ⟨p, l', e, R', s, m, args, below, meth, c, Z', EL', wd', wr', Q'⟩ := k
  have C' := C
  obtain ⟨⟨rfl, rfl, rfl, rfl, rfl, rfl, rfl, rfl⟩, hx, hc, hml, hret, hlk, hnm, hZ, hown, hEL, hE, hwr⟩ := C
  intro T locs vm X e0 N S w A Kp ow
  exact K (ext0 hE Kp hwr) T locs vm X e0 N S w A Kp ow
theorem Go.kept {k : KT} (C : Ctx k l y bytes maxL ret R Z a0 EL wd wr h0 Q) {pc : Nat} (K : Keep h0 h wr → Go k h os cells slots pc Ls st) : Go k h os cells slots pc Ls st := by
  obtain ⟨p, l', e, R', s, m, args, below, meth, c, Z', EL', wd', wr', Q'⟩ := k
  obtain ⟨⟨rfl, rfl, rfl, rfl, rfl, rfl, rfl, rfl⟩, -⟩ := C
  intro T locs vm X e0 N S w A Kp ow
  exact K Kp T locs vm X e0 N S w A Kp ow
/-- fewer owned, more cells -/
theorem Go.less {k : KT} {pc : Nat} {os' : List Addr} (q : ∀ x ∈ os', x ∈ os) (G : Go k h os' cells slots pc Ls st) : Go k h os cells slots pc Ls st := by
  obtain ⟨p, l', e, R', s, m, args, below, meth, c, Z', EL', wd', wr', Q'⟩ := k
  intro T locs vm X e0 N S w A Kp ow
  exact G T locs vm X e0 N S w A Kp fun x hx => ow x (q x hx)
theorem Go.more {k : KT} {pc cells' slots' : Nat} (q1 : cells ≤ cells') (q2 : slots ≤ slots') (G : Go k h os cells' slots' pc Ls st) : Go k h os cells slots pc Ls st := by
  obtain ⟨p, l', e, R', s, m, args, below, meth, c, Z', EL', wd', wr', Q'⟩ := k
  intro T locs vm X e0 N S w A Kp ow
  exact G T locs vm (X.more q1 q2) e0 N S w A Kp ow
theorem ownPush {s : State} {vm : Vm} {h' : Heap} (E0 : Ext Z.heap s.heap) (A : CHr Z EL s.vm s.heap vm h) (Kp : Keep s.heap h wr) (E : Ext h h') (hlt : h.size < h'.size) (ow : ∀ x ∈ os, Own Z s.heap EL wr vm h x) : ∀ x ∈ h.size :: os, Own Z s.heap EL wr vm h' x := fun x hx => by
  rcases List.mem_cons.mp hx with rfl | hx
  · exact ⟨Safe.ext E A.1 (Safe.new (Nat.le_refl _)), Nat.le_trans E0.1 Kp.1, hlt, Or.inr Kp.1⟩
  · exact (ow x hx).chr (CHr.ext E A.1)
theorem Go.new {k : KT} (C : Ctx k l y bytes maxL ret R Z a0 EL wd wr h0 Q) {pc pc' i n : Nat} {Cn : String} {F : FL} {vs : List Value} (w1 : (Cond.classLink y.cls i Cn).before a0 Z = true) (w2 : (Cond.instantiable Cn n).before a0 Z = true) (w3 : (Cond.initialized Cn).before a0 Z = true)
    (LF : LaidL Z a0 Cn F) (dv : F.map (fun q => (parseFieldDescriptor q.2.2).map defaultValue) = vs.map some) (hd : De bytes pc (.new i) 3 pc') (hc : cells + 1 ≤ R.cells) (hl : slots + n ≤ R.slots)
    (K : ∀ (b : Addr) (h' : Heap), b = h.size → Keep h h' [] → Obj Z h' b Cn F vs → Go k h' (b :: os) (cells + 1) (slots + n) pc' Ls (.ref b :: st)) : Go k h os cells slots pc Ls st := by
  obtain ⟨p, l', e, R', s, m, args, below, meth, c, Z', EL', wd', wr', Q'⟩ := k
  obtain ⟨⟨rfl, rfl, rfl, rfl, rfl, rfl, rfl, rfl⟩, hx, hc', hml, hret, hlk, hnm, hZ, hown, hEL, hE, hwr⟩ := C
  obtain ⟨h1, rfl⟩ := hd
  intro T locs vm X e0 N S w A Kp ow
  have hZ' : Z'.Warmed39 (s.setVm vm).vm := State.Warmed39.trans (t := s) hZ S.1
  have hown' : (s.setVm vm).vm.findClass y.cls = some m.cls := (S.1.alike.findClass _ _).trans hown
  obtain ⟨T', h', X', e', E, Ex, D, -, stp⟩ := newO X hx hZ' hown' w1 w2 w3 e0 (g := mkF m pc Ls st) rfl (hb hc' h1) hc hl
  exact mov (K h.size h' rfl (Keep.ofExt E) (Obj.new (A := Ex) D LF dv)) X' e' N (Since.up S E.1) w (A.trans (CHr.ext E A.1)) (Kp.ext E) (ownPush hE A Kp E Ex.lt ow) stp
theorem Go.newarray {k : KT} (C : Ctx k l y bytes maxL ret R Z a0 EL wd wr h0 Q) {pc pc' : Nat} {aty : ArrayType} {z : Int32} (w1 : (Cond.arrayClass (newarray.typeOf aty)).before a0 Z = true) (hd : De bytes pc (.newarray aty) 2 pc') (hz : ¬ z < 0) (n : Nat) (hn : z.toNatClampNeg = n) {cap : Nat} (hcap : n ≤ cap) (hb8 : cap * 8 ≤ 536870912)
    (hc : cells + 1 ≤ R.cells) (hl : slots + cap ≤ R.slots)
    (K : ∀ (b : Addr) (h' : Heap), b = h.size → Keep h h' [] → Av Z h' b (newarray.typeOf aty) (List.replicate n (defaultValue (newarray.typeOf aty))) → Go k h' (b :: os) (cells + 1) (slots + cap) pc' Ls (.ref b :: st)) : Go k h os cells slots pc Ls (.int z :: st) := by
  obtain ⟨p, l', e, R', s, m, args, below, meth, c, Z', EL', wd', wr', Q'⟩ := k
  obtain ⟨⟨rfl, rfl, rfl, rfl, rfl, rfl, rfl, rfl⟩, hx, hc', hml, hret, hlk, hnm, hZ, hown, hEL, hE, hwr⟩ := C
  obtain ⟨h1, rfl⟩ := hd
  intro T locs vm X e0 N S w A Kp ow
  have hZ' : Z'.Warmed39 (s.setVm vm).vm := State.Warmed39.trans (t := s) hZ S.1
  obtain ⟨T', h', cA, X', e', E, Ar, stp⟩ := newP X hx hZ' w1 e0 (g := mkF m pc Ls (.int z :: st)) rfl (hb hc' h1) rfl hz (cap := cap) (by rw [hn]; exact hcap) hb8 hc hl
  exact mov (K h.size h' rfl (Keep.ofExt E) (Av.new Ar hz hn)) X' e' N (Since.up S E.1) w (A.trans (CHr.ext E A.1)) (Kp.ext E) (ownPush hE A Kp E Ar.lt ow) stp
theorem Go.getF {k : KT} (C : Ctx k l y bytes maxL ret R Z a0 EL wd wr h0 Q) {pc pc' i : Nat} {a : Addr} {Cn R0 host : String} {F : FL} {vs : List Value} {v : Value} {q : String × String × String} (O : Obj Z h a Cn F vs) (j : Nat) (hq : F[j]? = some q) (hv : vs[j]? = some v)
    (w : (Cond.fieldLink y.cls i R0 q.2.1 q.2.2).before a0 Z = true ∨ (Cond.fieldLinkNest y.cls i R0 q.2.1 q.2.2 host).before a0 Z = true) (via : Via Z R0 q.1 q.2.1 q.2.2) (hd : De bytes pc (.getfield i) 3 pc') (K : Go k h os cells slots pc' Ls (v :: st)) : Go k h os cells slots pc Ls (.ref a :: st) := by
  obtain ⟨p, l', e, R', s, m, args, below, meth, c, Z', EL', wd', wr', Q'⟩ := k
  obtain ⟨⟨rfl, rfl, rfl, rfl, rfl, rfl, rfl, rfl⟩, hx, hc', hml, hret, hlk, hnm, hZ, hown, hEL, hE, hwr⟩ := C
  obtain ⟨h1, rfl⟩ := hd
  intro T locs vm X e0 N S w' A Kp ow
  have hZ' : Z'.Warmed39 (s.setVm vm).vm := State.Warmed39.trans (t := s) hZ S.1
  have hown' : (s.setVm vm).vm.findClass y.cls = some m.cls := (S.1.alike.findClass _ _).trans hown
  obtain ⟨T', X', e', stp⟩ := RoadKit.getF X hx hZ' hown' w via e0 (O.2.2 j q v hq hv) (g := mkF m pc Ls (.ref a :: st)) rfl rfl (hb hc' h1)
  exact mov K X' e' N S w' A Kp ow stp
theorem Go.getS {k : KT} (C : Ctx k l y bytes maxL ret R Z a0 EL wd wr h0 Q) {pc pc' i : Nat} {R0 O n d host : String} {v : Value} (F : Sta Z Z.heap O n d v)
    (w : (Cond.fieldLink y.cls i R0 n d).before a0 Z = true ∨ (Cond.fieldLinkNest y.cls i R0 n d host).before a0 Z = true) (via : Via Z R0 O n d) (hd : De bytes pc (.getstatic i) 3 pc') (K : Go k h os cells slots pc' Ls (v :: st)) : Go k h os cells slots pc Ls st := by
  obtain ⟨p, l', e, R', s, m, args, below, meth, c, Z', EL', wd', wr', Q'⟩ := k
  obtain ⟨⟨rfl, rfl, rfl, rfl, rfl, rfl, rfl, rfl⟩, hx, hc', hml, hret, hlk, hnm, hZ, hown, hEL, hE, hwr⟩ := C
  obtain ⟨h1, rfl⟩ := hd
  intro T locs vm X e0 N S w' A Kp ow
  have hZ' : Z'.Warmed39 (s.setVm vm).vm := State.Warmed39.trans (t := s) hZ S.1
  have hown' : (s.setVm vm).vm.findClass y.cls = some m.cls := (S.1.alike.findClass _ _).trans hown
  obtain ⟨T', X', e', stp⟩ := getS2 X hx hZ' hown' w via e0 (F.ext (ext0 hE Kp hwr)) (g := mkF m pc Ls st) rfl (hb hc' h1)
  exact mov K X' e' N S w' A Kp ow stp
theorem Go.putF {k : KT} (C : Ctx k l y bytes maxL ret R Z a0 EL wd wr h0 Q) {pc pc' i kk : Nat} {a : Addr} {Cn R0 : String} {F : FL} {vs vs' : List Value} {v v' : Value} {ty : FieldType} {q : String × String × String} (O : Obj Z h a Cn F vs) (ho : a ∈ os) (j : Nat) (hq : F[j]? = some q)
    (w : (Cond.fieldLink y.cls i R0 q.2.1 q.2.2).before a0 Z = true) (via : Via Z R0 q.1 q.2.1 q.2.2) (Lw : (Cond.lays Cn q.1 q.2.1 q.2.2).before a0 Z = true ∨ ((Cond.laysFinal Cn q.1 q.2.1 q.2.2).before a0 Z = true ∧ y.cls = q.1 ∧ y.name = "<init>")) (wi : (Cond.instantiable Cn kk).before a0 Z = true)
    (LF : LaidL Z a0 Cn F) (nd : (F.map (fun q => q.2.1)).Nodup) (hty : parseFieldDescriptor q.2.2 = some ty) (hn : narrow ty v = v') (hf : fits ty v' = true) (hvs : vs.set j v' = vs') (hd : De bytes pc (.putfield i) 3 pc')
    (K : ∀ h' : Heap, Keep h h' [a] → Obj Z h' a Cn F vs' → Go k h' os cells slots pc' Ls st) : Go k h os cells slots pc Ls (v :: .ref a :: st) := by
  obtain ⟨p, l', e, R', s, m, args, below, meth, c, Z', EL', wd', wr', Q'⟩ := k
  obtain ⟨⟨rfl, rfl, rfl, rfl, rfl, rfl, rfl, rfl⟩, hx, hc', hml, hret, hlk, hnm, hZ, hown, hEL, hE, hwr⟩ := C
  obtain ⟨h1, rfl⟩ := hd
  intro T locs vm X e0 N S w' A Kp ow
  have hZ' : Z'.Warmed39 (s.setVm vm).vm := State.Warmed39.trans (t := s) hZ S.1
  have hown' : (s.setVm vm).vm.findClass y.cls = some m.cls := (S.1.alike.findClass _ _).trans hown
  have hj : j < vs.length := by rw [← O.2.1]; exact (List.getElem?_eq_some_iff.mp hq).1
  obtain ⟨T', h', X', e', W, stp⟩ := putFN X hx hZ' hown' w via e0 (O.2.2 j q _ hq (List.getElem?_eq_getElem hj)) O.1 (Lw.imp id fun z => ⟨z.1, z.2.1, hnm.trans z.2.2⟩) wi hty hn hf (g := mkF m pc Ls (v :: .ref a :: st)) rfl rfl (hb hc' h1)
  have KW := Keep.of_wr W
  have os1 : ∀ x ∈ [a], x ∈ os := fun x hx => by cases List.mem_singleton.mp hx; exact ho
  have Ch := CHr.keep KW (safeOs ow os1) A.1
  subst hvs
  exact mov (K h' KW (O.put W hq LF nd)) X' e' (Fr.snoc X' N (ow a ho).2.1) (Since.up S KW.1) w' (A.trans Ch) (keepOs Kp KW ow os1) (fun x hx => (ow x hx).chr Ch) stp
theorem av_in {a : Addr} {ty : FieldType} {vs : List Value} {c : Cell} {z j : Int32} {i : Nat} (r2 : c.slots.size = z.toNatClampNeg) (e : z.toNatClampNeg = vs.length) (hj : ¬ j < 0) (hi : j.toNatClampNeg = i) (hlt : i < vs.length) : ¬ (j < 0 ∨ c.slots.size ≤ j.toNatClampNeg) := by
  rintro (q | q)
  · exact hj q
  · rw [r2, e, hi] at q; omega
theorem has_at {c : Cell} {vs : List Value} {d : Value} (H : Has c vs d) {i : Nat} {v : Value} (hi : i < c.slots.size) (hv : vs[i]? = some v) : c.slots[i]? = some v := by
  rw [H i hi, List.getD_eq_getElem?_getD, hv]; rfl
theorem Go.arraylength {k : KT} (C : Ctx k l y bytes maxL ret R Z a0 EL wd wr h0 Q) {pc pc' : Nat} {a : Addr} {ty : FieldType} {vs : List Value} (V : Av Z h a ty vs) (v : Int32) (hv : vs.length.toInt32 = v) (hd : De bytes pc .arraylength 1 pc') (K : Go k h os cells slots pc' Ls (.int v :: st)) : Go k h os cells slots pc Ls (.ref a :: st) := by
  obtain ⟨p, l', e, R', s, m, args, below, meth, c, Z', EL', wd', wr', Q'⟩ := k
  obtain ⟨⟨rfl, rfl, rfl, rfl, rfl, rfl, rfl, rfl⟩, hx, hc', hml, hret, hlk, hnm, hZ, hown, hEL, hE, hwr⟩ := C
  obtain ⟨h1, rfl⟩ := hd
  intro T locs vm X e0 N S w' A Kp ow
  have hZ' : Z'.Warmed39 (s.setVm vm).vm := State.Warmed39.trans (t := s) hZ S.1
  obtain ⟨kc, z, ⟨cl, Ar, r1, r2, r3, H, G⟩, ez⟩ := V
  refine Fen.of (fun t kt => X.arraylength hx (by rw [e0]; exact Ar.1) (State.isArrayOf_alike hZ'.alike Ar.2.1) (g := mkF m pc Ls (.ref a :: st)) rfl rfl (hb hc' h1) t ?_) (K T locs vm X e0 N S w' A Kp ow)
  rw [r2, ez, hv]; exact kt
theorem Go.iaload {k : KT} (C : Ctx k l y bytes maxL ret R Z a0 EL wd wr h0 Q) {pc pc' : Nat} {a : Addr} {vs : List Value} {j : Int32} {v : Value} (V : Av Z h a .int vs) (i : Nat) (hj : ¬ j < 0) (hi : j.toNatClampNeg = i) (hv : vs[i]? = some v) (hd : De bytes pc .iaload 1 pc') (K : Go k h os cells slots pc' Ls (v :: st)) : Go k h os cells slots pc Ls (.int j :: .ref a :: st) := by
  obtain ⟨p, l', e, R', s, m, args, below, meth, c, Z', EL', wd', wr', Q'⟩ := k
  obtain ⟨⟨rfl, rfl, rfl, rfl, rfl, rfl, rfl, rfl⟩, hx, hc', hml, hret, hlk, hnm, hZ, hown, hEL, hE, hwr⟩ := C
  obtain ⟨h1, rfl⟩ := hd
  intro T locs vm X e0 N S w' A Kp ow
  have hZ' : Z'.Warmed39 (s.setVm vm).vm := State.Warmed39.trans (t := s) hZ S.1
  obtain ⟨kc, z, ⟨cl, Ar, r1, r2, r3, H, G⟩, ez⟩ := V
  have hlt := (List.getElem?_eq_some_iff.mp hv).1
  refine Fen.of (fun t kt => X.iaload hx (j := j) (v := v) (by rw [e0]; exact Ar.1) (State.isArrayOf_alike hZ'.alike Ar.2.1) Ar.2.2 (av_in (a := a) (ty := .int) (vs := vs) r2 ez hj hi hlt) (by rw [hi]; exact has_at H (by rw [r2, ez]; exact hlt) hv) (g := mkF m pc Ls (.int j :: .ref a :: st)) rfl rfl (hb hc' h1) t kt) (K T locs vm X e0 N S w' A Kp ow)
theorem Go.laload {k : KT} (C : Ctx k l y bytes maxL ret R Z a0 EL wd wr h0 Q) {pc pc' : Nat} {a : Addr} {vs : List Value} {j : Int32} {v : Value} (V : Av Z h a .long vs) (i : Nat) (hj : ¬ j < 0) (hi : j.toNatClampNeg = i) (hv : vs[i]? = some v) (hd : De bytes pc .laload 1 pc') (K : Go k h os cells slots pc' Ls (v :: st)) : Go k h os cells slots pc Ls (.int j :: .ref a :: st) := by
  obtain ⟨p, l', e, R', s, m, args, below, meth, c, Z', EL', wd', wr', Q'⟩ := k
  obtain ⟨⟨rfl, rfl, rfl, rfl, rfl, rfl, rfl, rfl⟩, hx, hc', hml, hret, hlk, hnm, hZ, hown, hEL, hE, hwr⟩ := C
  obtain ⟨h1, rfl⟩ := hd
  intro T locs vm X e0 N S w' A Kp ow
  have hZ' : Z'.Warmed39 (s.setVm vm).vm := State.Warmed39.trans (t := s) hZ S.1
  obtain ⟨kc, z, ⟨cl, Ar, r1, r2, r3, H, G⟩, ez⟩ := V
  have hlt := (List.getElem?_eq_some_iff.mp hv).1
  refine Fen.of (fun t kt => X.laload hx (j := j) (v := v) (by rw [e0]; exact Ar.1) (State.isArrayOf_alike hZ'.alike Ar.2.1) Ar.2.2 (av_in (a := a) (ty := .long) (vs := vs) r2 ez hj hi hlt) (by rw [hi]; exact has_at H (by rw [r2, ez]; exact hlt) hv) (g := mkF m pc Ls (.int j :: .ref a :: st)) rfl rfl (hb hc' h1) t kt) (K T locs vm X e0 N S w' A Kp ow)
theorem Go.caload {k : KT} (C : Ctx k l y bytes maxL ret R Z a0 EL wd wr h0 Q) {pc pc' : Nat} {a : Addr} {vs : List Value} {j : Int32} {v : Value} (V : Av Z h a .char vs) (i : Nat) (hj : ¬ j < 0) (hi : j.toNatClampNeg = i) (hv : vs[i]? = some v) (hd : De bytes pc .caload 1 pc') (K : Go k h os cells slots pc' Ls (v :: st)) : Go k h os cells slots pc Ls (.int j :: .ref a :: st) := by
  obtain ⟨p, l', e, R', s, m, args, below, meth, c, Z', EL', wd', wr', Q'⟩ := k
  obtain ⟨⟨rfl, rfl, rfl, rfl, rfl, rfl, rfl, rfl⟩, hx, hc', hml, hret, hlk, hnm, hZ, hown, hEL, hE, hwr⟩ := C
  obtain ⟨h1, rfl⟩ := hd
  intro T locs vm X e0 N S w' A Kp ow
  have hZ' : Z'.Warmed39 (s.setVm vm).vm := State.Warmed39.trans (t := s) hZ S.1
  obtain ⟨kc, z, ⟨cl, Ar, r1, r2, r3, H, G⟩, ez⟩ := V
  have hlt := (List.getElem?_eq_some_iff.mp hv).1
  refine Fen.of (fun t kt => X.caload hx (j := j) (v := v) (by rw [e0]; exact Ar.1) (State.isArrayOf_alike hZ'.alike Ar.2.1) Ar.2.2 (av_in (a := a) (ty := .char) (vs := vs) r2 ez hj hi hlt) (by rw [hi]; exact has_at H (by rw [r2, ez]; exact hlt) hv) (g := mkF m pc Ls (.int j :: .ref a :: st)) rfl rfl (hb hc' h1) t kt) (K T locs vm X e0 N S w' A Kp ow)
theorem Go.saload {k : KT} (C : Ctx k l y bytes maxL ret R Z a0 EL wd wr h0 Q) {pc pc' : Nat} {a : Addr} {vs : List Value} {j : Int32} {v : Value} (V : Av Z h a .short vs) (i : Nat) (hj : ¬ j < 0) (hi : j.toNatClampNeg = i) (hv : vs[i]? = some v) (hd : De bytes pc .saload 1 pc') (K : Go k h os cells slots pc' Ls (v :: st)) : Go k h os cells slots pc Ls (.int j :: .ref a :: st) := by
  obtain ⟨p, l', e, R', s, m, args, below, meth, c, Z', EL', wd', wr', Q'⟩ := k
  obtain ⟨⟨rfl, rfl, rfl, rfl, rfl, rfl, rfl, rfl⟩, hx, hc', hml, hret, hlk, hnm, hZ, hown, hEL, hE, hwr⟩ := C
  obtain ⟨h1, rfl⟩ := hd
  intro T locs vm X e0 N S w' A Kp ow
  have hZ' : Z'.Warmed39 (s.setVm vm).vm := State.Warmed39.trans (t := s) hZ S.1
  obtain ⟨kc, z, ⟨cl, Ar, r1, r2, r3, H, G⟩, ez⟩ := V
  have hlt := (List.getElem?_eq_some_iff.mp hv).1
  refine Fen.of (fun t kt => X.saload hx (j := j) (v := v) (by rw [e0]; exact Ar.1) (State.isArrayOf_alike hZ'.alike Ar.2.1) Ar.2.2 (av_in (a := a) (ty := .short) (vs := vs) r2 ez hj hi hlt) (by rw [hi]; exact has_at H (by rw [r2, ez]; exact hlt) hv) (g := mkF m pc Ls (.int j :: .ref a :: st)) rfl rfl (hb hc' h1) t kt) (K T locs vm X e0 N S w' A Kp ow)
theorem Go.baload {k : KT} (C : Ctx k l y bytes maxL ret R Z a0 EL wd wr h0 Q) {pc pc' : Nat} {a : Addr} {vs : List Value} {j : Int32} {v : Value} (V : Av Z h a .byte vs) (i : Nat) (hj : ¬ j < 0) (hi : j.toNatClampNeg = i) (hv : vs[i]? = some v) (hd : De bytes pc .baload 1 pc') (K : Go k h os cells slots pc' Ls (v :: st)) : Go k h os cells slots pc Ls (.int j :: .ref a :: st) := by
  obtain ⟨p, l', e, R', s, m, args, below, meth, c, Z', EL', wd', wr', Q'⟩ := k
  obtain ⟨⟨rfl, rfl, rfl, rfl, rfl, rfl, rfl, rfl⟩, hx, hc', hml, hret, hlk, hnm, hZ, hown, hEL, hE, hwr⟩ := C
  obtain ⟨h1, rfl⟩ := hd
  intro T locs vm X e0 N S w' A Kp ow
  have hZ' : Z'.Warmed39 (s.setVm vm).vm := State.Warmed39.trans (t := s) hZ S.1
  obtain ⟨kc, z, ⟨cl, Ar, r1, r2, r3, H, G⟩, ez⟩ := V
  have hlt := (List.getElem?_eq_some_iff.mp hv).1
  refine Fen.of (fun t kt => X.baloadBytes hx (j := j) (v := v) (by rw [e0]; exact Ar.1) (State.isArrayOf_alike hZ'.alike Ar.2.1) Ar.2.2 (av_in (a := a) (ty := .byte) (vs := vs) r2 ez hj hi hlt) (by rw [hi]; exact has_at H (by rw [r2, ez]; exact hlt) hv) (g := mkF m pc Ls (.int j :: .ref a :: st)) rfl rfl (hb hc' h1) t kt) (K T locs vm X e0 N S w' A Kp ow)
theorem Go.aaload {k : KT} (C : Ctx k l y bytes maxL ret R Z a0 EL wd wr h0 Q) {pc pc' : Nat} {a : Addr} {vs : List Value} {j : Int32} {v : Value} {ty : FieldType} (hty : ty.isReference = true) (V : Av Z h a ty vs) (i : Nat) (hj : ¬ j < 0) (hi : j.toNatClampNeg = i) (hv : vs[i]? = some v) (hd : De bytes pc .aaload 1 pc') (K : Go k h os cells slots pc' Ls (v :: st)) : Go k h os cells slots pc Ls (.int j :: .ref a :: st) := by
  obtain ⟨p, l', e, R', s, m, args, below, meth, c, Z', EL', wd', wr', Q'⟩ := k
  obtain ⟨⟨rfl, rfl, rfl, rfl, rfl, rfl, rfl, rfl⟩, hx, hc', hml, hret, hlk, hnm, hZ, hown, hEL, hE, hwr⟩ := C
  obtain ⟨h1, rfl⟩ := hd
  intro T locs vm X e0 N S w' A Kp ow
  have hZ' : Z'.Warmed39 (s.setVm vm).vm := State.Warmed39.trans (t := s) hZ S.1
  obtain ⟨kc, z, ⟨cl, Ar, r1, r2, r3, H, G⟩, ez⟩ := V
  have hlt := (List.getElem?_eq_some_iff.mp hv).1
  refine Fen.of (fun t kt => X.aaload hx (j := j) (v := v) (by rw [e0]; exact Ar.1) (State.isArrayOf_alike hZ'.alike Ar.2.1) hty Ar.2.2 (av_in (a := a) (ty := ty) (vs := vs) r2 ez hj hi hlt) (by rw [hi]; exact has_at H (by rw [r2, ez]; exact hlt) hv) (g := mkF m pc Ls (.int j :: .ref a :: st)) rfl rfl (hb hc' h1) t kt) (K T locs vm X e0 N S w' A Kp ow)
theorem Go.iastore {k : KT} (C : Ctx k l y bytes maxL ret R Z a0 EL wd wr h0 Q) {pc pc' : Nat} {a : Addr} {vs vs' : List Value} {j : Int32} {x : Int32} (V : Av Z h a .int vs) (ho : a ∈ os) (i : Nat) (hj : ¬ j < 0) (hi : j.toNatClampNeg = i) (hlt : i < vs.length) (hvs : vs.set i (.int x) = vs') (hd : De bytes pc .iastore 1 pc')
    (K : ∀ h' : Heap, Keep h h' [a] → Av Z h' a .int vs' → Go k h' os cells slots pc' Ls st) : Go k h os cells slots pc Ls (.int x :: .int j :: .ref a :: st) := by
  obtain ⟨p, l', e, R', s, m, args, below, meth, c, Z', EL', wd', wr', Q'⟩ := k
  obtain ⟨⟨rfl, rfl, rfl, rfl, rfl, rfl, rfl, rfl⟩, hx, hc', hml, hret, hlk, hnm, hZ, hown, hEL, hE, hwr⟩ := C
  obtain ⟨h1, rfl⟩ := hd
  intro T locs vm X e0 N S w' A Kp ow
  have hZ' : Z'.Warmed39 (s.setVm vm).vm := State.Warmed39.trans (t := s) hZ S.1
  obtain ⟨kc, z, ⟨cl, Ar, r1, r2, r3, H, G⟩, ez⟩ := V
  obtain ⟨T', h', X', e', W, stp⟩ := stI X hx hZ' e0 Ar (j := j) (av_in (a := a) (ty := .int) (vs := vs) r2 ez hj hi hlt) (g := mkF m pc Ls (.int x :: .int j :: .ref a :: st)) rfl rfl (hb hc' h1)
  have KW := Keep.of_wr W
  have os1 : ∀ x ∈ [a], x ∈ os := fun x hx => by cases List.mem_singleton.mp hx; exact ho
  have Ch := CHr.keep KW (safeOs ow os1) A.1
  subst hvs
  exact mov (K h' KW ⟨kc, z, Arv.set Ar r1 r2 r3 H G rfl W i hi hlt, by simpa using ez⟩) X' e' (Fr.snoc X' N (ow a ho).2.1) (Since.up S KW.1) w' (A.trans Ch) (keepOs Kp KW ow os1) (fun x hx => (ow x hx).chr Ch) stp
theorem Go.lastore {k : KT} (C : Ctx k l y bytes maxL ret R Z a0 EL wd wr h0 Q) {pc pc' : Nat} {a : Addr} {vs vs' : List Value} {j : Int32} {x : Int64} (V : Av Z h a .long vs) (ho : a ∈ os) (i : Nat) (hj : ¬ j < 0) (hi : j.toNatClampNeg = i) (hlt : i < vs.length) (hvs : vs.set i (.long x) = vs') (hd : De bytes pc .lastore 1 pc')
    (K : ∀ h' : Heap, Keep h h' [a] → Av Z h' a .long vs' → Go k h' os cells slots pc' Ls st) : Go k h os cells slots pc Ls (.long x :: .int j :: .ref a :: st) := by
  obtain ⟨p, l', e, R', s, m, args, below, meth, c, Z', EL', wd', wr', Q'⟩ := k
  obtain ⟨⟨rfl, rfl, rfl, rfl, rfl, rfl, rfl, rfl⟩, hx, hc', hml, hret, hlk, hnm, hZ, hown, hEL, hE, hwr⟩ := C
  obtain ⟨h1, rfl⟩ := hd
  intro T locs vm X e0 N S w' A Kp ow
  have hZ' : Z'.Warmed39 (s.setVm vm).vm := State.Warmed39.trans (t := s) hZ S.1
  obtain ⟨kc, z, ⟨cl, Ar, r1, r2, r3, H, G⟩, ez⟩ := V
  obtain ⟨T', h', X', e', W, stp⟩ := stJ X hx hZ' e0 Ar (j := j) (av_in (a := a) (ty := .long) (vs := vs) r2 ez hj hi hlt) (g := mkF m pc Ls (.long x :: .int j :: .ref a :: st)) rfl rfl (hb hc' h1)
  have KW := Keep.of_wr W
  have os1 : ∀ x ∈ [a], x ∈ os := fun x hx => by cases List.mem_singleton.mp hx; exact ho
  have Ch := CHr.keep KW (safeOs ow os1) A.1
  subst hvs
  exact mov (K h' KW ⟨kc, z, Arv.set Ar r1 r2 r3 H G rfl W i hi hlt, by simpa using ez⟩) X' e' (Fr.snoc X' N (ow a ho).2.1) (Since.up S KW.1) w' (A.trans Ch) (keepOs Kp KW ow os1) (fun x hx => (ow x hx).chr Ch) stp
theorem Go.castore {k : KT} (C : Ctx k l y bytes maxL ret R Z a0 EL wd wr h0 Q) {pc pc' : Nat} {a : Addr} {vs vs' : List Value} {j : Int32} {x x' : Int32} (V : Av Z h a .char vs) (ho : a ∈ os) (i : Nat) (hj : ¬ j < 0) (hi : j.toNatClampNeg = i) (hlt : i < vs.length) (hn : nar .char x = x') (hvs : vs.set i (.int x') = vs') (hd : De bytes pc .castore 1 pc')
    (K : ∀ h' : Heap, Keep h h' [a] → Av Z h' a .char vs' → Go k h' os cells slots pc' Ls st) : Go k h os cells slots pc Ls (.int x :: .int j :: .ref a :: st) := by
  obtain ⟨p, l', e, R', s, m, args, below, meth, c, Z', EL', wd', wr', Q'⟩ := k
  obtain ⟨⟨rfl, rfl, rfl, rfl, rfl, rfl, rfl, rfl⟩, hx, hc', hml, hret, hlk, hnm, hZ, hown, hEL, hE, hwr⟩ := C
  obtain ⟨h1, rfl⟩ := hd
  intro T locs vm X e0 N S w' A Kp ow
  have hZ' : Z'.Warmed39 (s.setVm vm).vm := State.Warmed39.trans (t := s) hZ S.1
  obtain ⟨kc, z, ⟨cl, Ar, r1, r2, r3, H, G⟩, ez⟩ := V
  obtain ⟨T', h', X', e', W, stp⟩ := stC X hx hZ' e0 Ar (j := j) (av_in (a := a) (ty := .char) (vs := vs) r2 ez hj hi hlt) (g := mkF m pc Ls (.int x :: .int j :: .ref a :: st)) rfl rfl (hb hc' h1)
  have KW := Keep.of_wr W
  have os1 : ∀ x ∈ [a], x ∈ os := fun x hx => by cases List.mem_singleton.mp hx; exact ho
  have Ch := CHr.keep KW (safeOs ow os1) A.1
  subst hn
  subst hvs
  exact mov (K h' KW ⟨kc, z, Arv.set Ar r1 r2 r3 H G (fits_nar_char x) W i hi hlt, by simpa using ez⟩) X' e' (Fr.snoc X' N (ow a ho).2.1) (Since.up S KW.1) w' (A.trans Ch) (keepOs Kp KW ow os1) (fun x hx => (ow x hx).chr Ch) stp
theorem Go.sastore {k : KT} (C : Ctx k l y bytes maxL ret R Z a0 EL wd wr h0 Q) {pc pc' : Nat} {a : Addr} {vs vs' : List Value} {j : Int32} {x x' : Int32} (V : Av Z h a .short vs) (ho : a ∈ os) (i : Nat) (hj : ¬ j < 0) (hi : j.toNatClampNeg = i) (hlt : i < vs.length) (hn : nar .short x = x') (hvs : vs.set i (.int x') = vs') (hd : De bytes pc .sastore 1 pc')
    (K : ∀ h' : Heap, Keep h h' [a] → Av Z h' a .short vs' → Go k h' os cells slots pc' Ls st) : Go k h os cells slots pc Ls (.int x :: .int j :: .ref a :: st) := by
  obtain ⟨p, l', e, R', s, m, args, below, meth, c, Z', EL', wd', wr', Q'⟩ := k
  obtain ⟨⟨rfl, rfl, rfl, rfl, rfl, rfl, rfl, rfl⟩, hx, hc', hml, hret, hlk, hnm, hZ, hown, hEL, hE, hwr⟩ := C
  obtain ⟨h1, rfl⟩ := hd
  intro T locs vm X e0 N S w' A Kp ow
  have hZ' : Z'.Warmed39 (s.setVm vm).vm := State.Warmed39.trans (t := s) hZ S.1
  obtain ⟨kc, z, ⟨cl, Ar, r1, r2, r3, H, G⟩, ez⟩ := V
  obtain ⟨T', h', X', e', W, stp⟩ := stS X hx hZ' e0 Ar (j := j) (av_in (a := a) (ty := .short) (vs := vs) r2 ez hj hi hlt) (g := mkF m pc Ls (.int x :: .int j :: .ref a :: st)) rfl rfl (hb hc' h1)
  have KW := Keep.of_wr W
  have os1 : ∀ x ∈ [a], x ∈ os := fun x hx => by cases List.mem_singleton.mp hx; exact ho
  have Ch := CHr.keep KW (safeOs ow os1) A.1
  subst hn
  subst hvs
  exact mov (K h' KW ⟨kc, z, Arv.set Ar r1 r2 r3 H G (fits_nar_short x) W i hi hlt, by simpa using ez⟩) X' e' (Fr.snoc X' N (ow a ho).2.1) (Since.up S KW.1) w' (A.trans Ch) (keepOs Kp KW ow os1) (fun x hx => (ow x hx).chr Ch) stp
theorem Go.bastore {k : KT} (C : Ctx k l y bytes maxL ret R Z a0 EL wd wr h0 Q) {pc pc' : Nat} {a : Addr} {vs vs' : List Value} {j : Int32} {x x' : Int32} (V : Av Z h a .byte vs) (ho : a ∈ os) (i : Nat) (hj : ¬ j < 0) (hi : j.toNatClampNeg = i) (hlt : i < vs.length) (hn : nar .byte x = x') (hvs : vs.set i (.int x') = vs') (hd : De bytes pc .bastore 1 pc')
    (K : ∀ h' : Heap, Keep h h' [a] → Av Z h' a .byte vs' → Go k h' os cells slots pc' Ls st) : Go k h os cells slots pc Ls (.int x :: .int j :: .ref a :: st) := by
  obtain ⟨p, l', e, R', s, m, args, below, meth, c, Z', EL', wd', wr', Q'⟩ := k
  obtain ⟨⟨rfl, rfl, rfl, rfl, rfl, rfl, rfl, rfl⟩, hx, hc', hml, hret, hlk, hnm, hZ, hown, hEL, hE, hwr⟩ := C
  obtain ⟨h1, rfl⟩ := hd
  intro T locs vm X e0 N S w' A Kp ow
  have hZ' : Z'.Warmed39 (s.setVm vm).vm := State.Warmed39.trans (t := s) hZ S.1
  obtain ⟨kc, z, ⟨cl, Ar, r1, r2, r3, H, G⟩, ez⟩ := V
  obtain ⟨T', h', X', e', W, stp⟩ := stB X hx hZ' e0 Ar (j := j) (av_in (a := a) (ty := .byte) (vs := vs) r2 ez hj hi hlt) (g := mkF m pc Ls (.int x :: .int j :: .ref a :: st)) rfl rfl (hb hc' h1)
  have KW := Keep.of_wr W
  have os1 : ∀ x ∈ [a], x ∈ os := fun x hx => by cases List.mem_singleton.mp hx; exact ho
  have Ch := CHr.keep KW (safeOs ow os1) A.1
  subst hn
  subst hvs
  exact mov (K h' KW ⟨kc, z, Arv.set Ar r1 r2 r3 H G (fits_nar_byte x) W i hi hlt, by simpa using ez⟩) X' e' (Fr.snoc X' N (ow a ho).2.1) (Since.up S KW.1) w' (A.trans Ch) (keepOs Kp KW ow os1) (fun x hx => (ow x hx).chr Ch) stp
theorem Go.zastore {k : KT} (C : Ctx k l y bytes maxL ret R Z a0 EL wd wr h0 Q) {pc pc' : Nat} {a : Addr} {vs vs' : List Value} {j : Int32} {x x' : Int32} (V : Av Z h a .boolean vs) (ho : a ∈ os) (i : Nat) (hj : ¬ j < 0) (hi : j.toNatClampNeg = i) (hlt : i < vs.length) (hn : nar .boolean x = x') (hvs : vs.set i (.int x') = vs') (hd : De bytes pc .bastore 1 pc')
    (K : ∀ h' : Heap, Keep h h' [a] → Av Z h' a .boolean vs' → Go k h' os cells slots pc' Ls st) : Go k h os cells slots pc Ls (.int x :: .int j :: .ref a :: st) := by
  obtain ⟨p, l', e, R', s, m, args, below, meth, c, Z', EL', wd', wr', Q'⟩ := k
  obtain ⟨⟨rfl, rfl, rfl, rfl, rfl, rfl, rfl, rfl⟩, hx, hc', hml, hret, hlk, hnm, hZ, hown, hEL, hE, hwr⟩ := C
  obtain ⟨h1, rfl⟩ := hd
  intro T locs vm X e0 N S w' A Kp ow
  have hZ' : Z'.Warmed39 (s.setVm vm).vm := State.Warmed39.trans (t := s) hZ S.1
  obtain ⟨kc, z, ⟨cl, Ar, r1, r2, r3, H, G⟩, ez⟩ := V
  obtain ⟨T', h', X', e', W, stp⟩ := stZ X hx hZ' e0 Ar (j := j) (av_in (a := a) (ty := .boolean) (vs := vs) r2 ez hj hi hlt) (g := mkF m pc Ls (.int x :: .int j :: .ref a :: st)) rfl rfl (hb hc' h1)
  have KW := Keep.of_wr W
  have os1 : ∀ x ∈ [a], x ∈ os := fun x hx => by cases List.mem_singleton.mp hx; exact ho
  have Ch := CHr.keep KW (safeOs ow os1) A.1
  subst hn
  subst hvs
  exact mov (K h' KW ⟨kc, z, Arv.set Ar r1 r2 r3 H G (fits_nar_bool x) W i hi hlt, by simpa using ez⟩) X' e' (Fr.snoc X' N (ow a ho).2.1) (Since.up S KW.1) w' (A.trans Ch) (keepOs Kp KW ow os1) (fun x hx => (ow x hx).chr Ch) stp
theorem Go.anewarray {k : KT} (C : Ctx k l y bytes maxL ret R Z a0 EL wd wr h0 Q) {pc pc' i : Nat} {Cn : String} {z : Int32} (w1 : (Cond.classLink y.cls i Cn).before a0 Z = true) (w2 : (Cond.arrayOver (.object Cn)).before a0 Z = true) (hd : De bytes pc (.anewarray i) 3 pc') (hz : ¬ z < 0) (n : Nat) (hn : z.toNatClampNeg = n) {cap : Nat} (hcap : n ≤ cap) (hb8 : cap * 8 ≤ 536870912)
    (hc : cells + 1 ≤ R.cells) (hl : slots + cap ≤ R.slots)
    (K : ∀ (b : Addr) (h' : Heap), b = h.size → Keep h h' [] → Avr Z h' b Cn (List.replicate n .null) → Go k h' (b :: os) (cells + 1) (slots + cap) pc' Ls (.ref b :: st)) : Go k h os cells slots pc Ls (.int z :: st) := by
  obtain ⟨p, l', e, R', s, m, args, below, meth, c, Z', EL', wd', wr', Q'⟩ := k
  obtain ⟨⟨rfl, rfl, rfl, rfl, rfl, rfl, rfl, rfl⟩, hx, hc', hml, hret, hlk, hnm, hZ, hown, hEL, hE, hwr⟩ := C
  obtain ⟨h1, rfl⟩ := hd
  intro T locs vm X e0 N S w A Kp ow
  have hZ' : Z'.Warmed39 (s.setVm vm).vm := State.Warmed39.trans (t := s) hZ S.1
  have hown' : (s.setVm vm).vm.findClass y.cls = some m.cls := (S.1.alike.findClass _ _).trans hown
  obtain ⟨T', h', cA, X', e', E, Ar, O, stp⟩ := newR X hx hZ' hown' w1 w2 e0 (g := mkF m pc Ls (.int z :: st)) rfl (hb hc' h1) rfl hz (cap := cap) (by rw [hn]; exact hcap) hb8 hc hl
  have V : Avr Z' h' h.size Cn (List.replicate n .null) := ⟨cA, z, by have := (Arv.new Ar hz).pad (pad_rep [] (.null) n); simpa [defaultValue] using this, by simpa using hn, O⟩
  exact mov (K h.size h' rfl (Keep.ofExt E) V) X' e' N (Since.up S E.1) w (A.trans (CHr.ext E A.1)) (Kp.ext E) (ownPush hE A Kp E Ar.lt ow) stp
theorem Go.aastore {k : KT} (C : Ctx k l y bytes maxL ret R Z a0 EL wd wr h0 Q) {pc pc' : Nat} {a b : Addr} {Cn : String} {vs vs' : List Value} {j : Int32} (V : Avr Z h a Cn vs) (ho : a ∈ os) (I : Ins Z h b Cn true) (i : Nat) (hj : ¬ j < 0) (hi : j.toNatClampNeg = i) (hlt : i < vs.length) (hvs : vs.set i (.ref b) = vs') (hd : De bytes pc .aastore 1 pc')
    (K : ∀ h' : Heap, Keep h h' [a] → Avr Z h' a Cn vs' → Go k h' os cells slots pc' Ls st) : Go k h os cells slots pc Ls (.ref b :: .int j :: .ref a :: st) := by
  obtain ⟨p, l', e, R', s, m, args, below, meth, c, Z', EL', wd', wr', Q'⟩ := k
  obtain ⟨⟨rfl, rfl, rfl, rfl, rfl, rfl, rfl, rfl⟩, hx, hc', hml, hret, hlk, hnm, hZ, hown, hEL, hE, hwr⟩ := C
  obtain ⟨h1, rfl⟩ := hd
  intro T locs vm X e0 N S w' A Kp ow
  have hZ' : Z'.Warmed39 (s.setVm vm).vm := State.Warmed39.trans (t := s) hZ S.1
  obtain ⟨kc, z, ⟨cl, Ar, r1, r2, r3, H, G⟩, ez, Ov⟩ := V
  obtain ⟨T', h', X', e', W, stp⟩ := stR X hx hZ' e0 Ar (j := j) (av_in (a := a) (ty := .int) (vs := vs) r2 ez hj hi hlt) rfl (Sto.ofV Ar r1 Ov I) (g := mkF m pc Ls (.ref b :: .int j :: .ref a :: st)) rfl rfl (hb hc' h1)
  have KW := Keep.of_wr W
  have os1 : ∀ x ∈ [a], x ∈ os := fun x hx => by cases List.mem_singleton.mp hx; exact ho
  have Ch := CHr.keep KW (safeOs ow os1) A.1
  subst hvs
  exact mov (K h' KW ⟨kc, z, Arv.set Ar r1 r2 r3 H G rfl W i hi hlt, by simpa using ez, Ov⟩) X' e' (Fr.snoc X' N (ow a ho).2.1) (Since.up S KW.1) w' (A.trans Ch) (keepOs Kp KW ow os1) (fun x hx => (ow x hx).chr Ch) stp
theorem copy_us {vs : List Value} {d : Value} {m n : Nat} (q : m + n ≤ vs.length) : ((List.range n).map fun i => vs.getD (m + i) d) = (vs.drop m).take n := by
  refine List.ext_getElem? fun i => ?_
  by_cases hi : i < n
  · simp [List.getElem?_take, hi, List.getD_eq_getElem?_getD, show m + i < vs.length by omega]
  · simp [List.getElem?_take, hi]
theorem Go.arraycopy {k : KT} (C : Ctx k l y bytes maxL ret R Z a0 EL wd wr h0 Q) {pc pc' i : Nat} {a b : Addr} {ty : FieldType} {vs vd vd' : List Value} {sp dp nn : Int32} (V : Av Z h a ty vs) (U : Av Z h b ty vd) (ho : b ∈ os) (hty : refKind ty = false) (w1 : (Cond.methodLink y.cls i Jvm.Stand.acN).before a0 Z = true) (w2 : (Cond.native Jvm.Stand.acN).before a0 Z = true) (w3 : (Cond.static Jvm.Stand.acN).before a0 Z = true) (w4 : (Cond.initialized "java/lang/System").before a0 Z = true)
    (h1 : ¬ sp < 0) (h2 : ¬ dp < 0) (h3 : ¬ nn < 0) (ms md n : Nat) (e1 : sp.toNatClampNeg = ms) (e2 : dp.toNatClampNeg = md) (e3 : nn.toNatClampNeg = n) (h4 : ms + n ≤ vs.length) (h5 : md + n ≤ vd.length) (hvd : vd.take md ++ (vs.drop ms).take n ++ vd.drop (md + n) = vd') (hd : De bytes pc (.invokestatic i) 3 pc') (hsz : Ls.size = maxL) (hf : 1 ≤ R.frames) (hlo : (st.map fun v => v.category).sum + 18 ≤ R.locals)
    (K : ∀ h' : Heap, Keep h h' [b] → Av Z h' b ty vd' → Go k h' os cells slots pc' Ls st) : Go k h os cells slots pc Ls (.int nn :: .int dp :: .ref b :: .int sp :: .ref a :: st) := by
  obtain ⟨p, l', e, R', s, m, args, below, meth, c, Z', EL', wd', wr', Q'⟩ := k
  obtain ⟨⟨rfl, rfl, rfl, rfl, rfl, rfl, rfl, rfl⟩, hx, hc', hml, hret, hlk, hnm, hZ, hown, hEL, hE, hwr⟩ := C
  obtain ⟨g1, rfl⟩ := hd
  intro T locs vm X e0 N S w' A Kp ow
  have hZ' : Z'.Warmed39 (s.setVm vm).vm := State.Warmed39.trans (t := s) hZ S.1
  have hown' : (s.setVm vm).vm.findClass y.cls = some m.cls := (S.1.alike.findClass _ _).trans hown
  obtain ⟨k1, z1, A1, ez1⟩ := V
  obtain ⟨k2, z2, A2, ez2⟩ := U
  obtain ⟨T', h', L, X', e', N', KW, Aw, stp⟩ := cpA X hx hZ' hown' w1 w2 w3 w4 e0 A1 A2 (Or.inl ⟨rfl, hty⟩) h1 h2 h3 (by rw [e1, e3, ez1]; exact h4) (by rw [e2, e3, ez2]; exact h5) (us := (vs.drop ms).take n) (by rw [e1, e3]; exact (copy_us h4).symm) (by rw [e2, e3]; exact h5) N (ow b ho).2.1 (g := mkF m pc Ls (.int nn :: .int dp :: .ref b :: .int sp :: .ref a :: st)) rfl (hsz.trans hml.symm) rfl (hb hc' g1) hf (W := (st.map fun v => v.category).sum) (by show 2 * 0 + _ ≤ _; omega) hlo
  rw [e2, e3, hvd] at Aw
  have os1 : ∀ x ∈ [b], x ∈ os := fun x hx => by cases List.mem_singleton.mp hx; exact ho
  have Ch := CHr.keep KW (safeOs ow os1) A.1
  refine mov (K h' KW ⟨k2, z2, Aw, ?_⟩) X' e' N' (Since.up S KW.1) w' (A.trans Ch) (keepOs Kp KW ow os1) (fun x hx => (ow x hx).chr Ch) stp
  rw [ez2, ← hvd]; simp; omega
theorem Go.ldcO {k : KT} (C : Ctx k l y bytes maxL ret R Z a0 EL true wr h0 Q) {pc pc' i : Nat} {text : String} (w : (Cond.stringLink y.cls i text).before a0 Z = true) (wS : ∀ a ∈ Bundle.stringAtoms, a.before a0 Z = true) (hd : De bytes pc (.ldc i) 2 pc') {n : Nat} (hn : 4 * text.toList.length ≤ n) (hbig : n ≤ 536870912) (hc : cells + 2 ≤ R.cells) (hl : slots + (n + 4) ≤ R.slots)
    (K : ∀ (a : Addr) (h' : Heap), Keep h h' [] → Go k h' os (cells + 2) (slots + (n + 4)) pc' Ls (.ref a :: st)) : Go k h os cells slots pc Ls st := by
  obtain ⟨p, l', e, R', s, m, args, below, meth, c, Z', EL', wd', wr', Q'⟩ := k
  obtain ⟨⟨rfl, rfl, rfl, rfl, rfl, rfl, rfl, rfl⟩, hx, hc', hml, hret, hlk, hnm, hZ, hown, hEL, hE, hwr⟩ := C
  obtain ⟨h1, rfl⟩ := hd
  intro T locs vm X e0 N S w' A Kp ow
  have hZ' : Z'.Warmed39 vm := State.Warmed39.trans (t := s) hZ S.1
  have hown' : vm.findClass y.cls = some m.cls := (S.1.alike.findClass _ _).trans hown
  obtain ⟨a, T', h', k1, X', e', E, S', hk1, -, -, Ch, -, stp⟩ := ldcOH X hx hZ' hown' w wS e0 S (Nat.le_refl _) hEL A.1 (g := mkF m pc Ls st) rfl (hb hc' h1) hn hbig hc hl
  refine mov (K a h' (Keep.ofExt E)) X' e' N (Since.up S' hk1) (fun q => Bool.noConfusion q) (A.trans Ch) (Kp.ext E) (fun x hx => (ow x hx).chr Ch) stp
theorem Go.checkcast {k : KT} (C : Ctx k l y bytes maxL ret R Z a0 EL wd wr h0 Q) {pc pc' i : Nat} {a : Addr} {Kn : String} (I : Ins Z h a Kn true) (w : (Cond.classLink y.cls i Kn).before a0 Z = true) (hd : De bytes pc (.checkcast i) 3 pc') (K : Go k h os cells slots pc' Ls (.ref a :: st)) : Go k h os cells slots pc Ls (.ref a :: st) := by
  obtain ⟨p, l', e, R', s, m, args, below, meth, c, Z', EL', wd', wr', Q'⟩ := k
  obtain ⟨⟨rfl, rfl, rfl, rfl, rfl, rfl, rfl, rfl⟩, hx, hc', hml, hret, hlk, hnm, hZ, hown, hEL, hE, hwr⟩ := C
  obtain ⟨h1, rfl⟩ := hd
  intro T locs vm X e0 N S w' A Kp ow
  have hZ' : Z'.Warmed39 (s.setVm vm).vm := State.Warmed39.trans (t := s) hZ S.1
  have hown' : (s.setVm vm).vm.findClass y.cls = some m.cls := (S.1.alike.findClass _ _).trans hown
  obtain ⟨T', X', e', stp⟩ := castY X hx hZ' hown' w e0 I (g := mkF m pc Ls (.ref a :: st)) rfl rfl (hb hc' h1)
  exact mov K X' e' N S w' A Kp ow stp
theorem Go.checkcastNull {k : KT} (C : Ctx k l y bytes maxL ret R Z a0 EL wd wr h0 Q) {pc pc' i : Nat} (hd : De bytes pc (.checkcast i) 3 pc') (K : Go k h os cells slots pc' Ls (.null :: st)) : Go k h os cells slots pc Ls (.null :: st) := by
  obtain ⟨p, l', e, R', s, m, args, below, meth, c, Z', EL', wd', wr', Q'⟩ := k
  obtain ⟨⟨rfl, rfl, rfl, rfl, rfl, rfl, rfl, rfl⟩, hx, hc', hml, hret, hlk, hnm, hZ, hown, hEL, hE, hwr⟩ := C
  obtain ⟨h1, rfl⟩ := hd
  intro T locs vm X e0 N S w' A Kp ow
  exact mov K X e0 N S w' A Kp ow (X.checkcastNull hx (g := mkF m pc Ls (.null :: st)) rfl rfl (hb hc' h1))
theorem Go.instanceofYes {k : KT} (C : Ctx k l y bytes maxL ret R Z a0 EL wd wr h0 Q) {pc pc' i : Nat} {a : Addr} {Kn : String} (I : Ins Z h a Kn true) (w : (Cond.classLink y.cls i Kn).before a0 Z = true) (hd : De bytes pc (.instanceof i) 3 pc') (K : Go k h os cells slots pc' Ls (.int 1 :: st)) : Go k h os cells slots pc Ls (.ref a :: st) := by
  obtain ⟨p, l', e, R', s, m, args, below, meth, c, Z', EL', wd', wr', Q'⟩ := k
  obtain ⟨⟨rfl, rfl, rfl, rfl, rfl, rfl, rfl, rfl⟩, hx, hc', hml, hret, hlk, hnm, hZ, hown, hEL, hE, hwr⟩ := C
  obtain ⟨h1, rfl⟩ := hd
  intro T locs vm X e0 N S w' A Kp ow
  have hZ' : Z'.Warmed39 (s.setVm vm).vm := State.Warmed39.trans (t := s) hZ S.1
  have hown' : (s.setVm vm).vm.findClass y.cls = some m.cls := (S.1.alike.findClass _ _).trans hown
  obtain ⟨T', X', e', stp⟩ := instY X hx hZ' hown' w e0 I (g := mkF m pc Ls (.ref a :: st)) rfl rfl (hb hc' h1)
  exact mov K X' e' N S w' A Kp ow stp
theorem noSub {C O K : String} {n : Nat} (w1 : (Cond.superclass C O).before a0 Z = true) (w0 : (Cond.noSuperclass O).before a0 Z = true) (wk : (Cond.instantiable K n).before a0 Z = true) (q1 : C ≠ K) (q2 : O ≠ K) : ∃ c t, Z.vm.findClass C = some c ∧ Z.vm.findClass K = some t ∧ Z.vm.assignable c t = false := by
  obtain ⟨c, hc⟩ := found_sup w1
  obtain ⟨o, k, kp, a1, a2, a3, a4, a5, a6, a7⟩ := Cond.superclass_spec hc w1
  obtain ⟨o', ko, b1, b2, b3, -, -⟩ := Cond.noSuperclass_spec w0
  obtain ⟨t, kt, t1, t2, t3, t4, -⟩ := Cond.instantiable_spec wk
  cases a1.symm.trans b1
  have n1 := ids_ne hc t1 q1
  have n2 := ids_ne b1 t1 q2
  have hi : kt.isInterface = false := (Bool.or_eq_false_iff.mp t4).1
  refine ⟨c, t, hc, t1, ?_⟩
  have sub : ∀ fuel, Z.vm.isSubclassAux fuel c t = false := fun fuel => by
    rcases fuel with _ | _ | f
    · rfl
    · simp [Vm.isSubclassAux, n1, a2, a4]
    · simp [Vm.isSubclassAux, n1, n2, a2, a4, b2, b3]
  show Z.vm.assignableAux (255 + 1) c t = false
  simp [Vm.assignableAux, n1, a2, t2, a5, t3, hi, Vm.isSubclass, sub]
theorem Go.instanceofNo {k : KT} (C : Ctx k l y bytes maxL ret R Z a0 EL wd wr h0 Q) {pc pc' i : Nat} {a : Addr} {Cn Kn : String} (E : Exa Z h a Cn) (F : ∃ c t, Z.vm.findClass Cn = some c ∧ Z.vm.findClass Kn = some t ∧ Z.vm.assignable c t = false) (w : (Cond.classLink y.cls i Kn).before a0 Z = true) (hd : De bytes pc (.instanceof i) 3 pc') (K : Go k h os cells slots pc' Ls (.int 0 :: st)) : Go k h os cells slots pc Ls (.ref a :: st) := by
  obtain ⟨p, l', e, R', s, m, args, below, meth, c, Z', EL', wd', wr', Q'⟩ := k
  obtain ⟨⟨rfl, rfl, rfl, rfl, rfl, rfl, rfl, rfl⟩, hx, hc', hml, hret, hlk, hnm, hZ, hown, hEL, hE, hwr⟩ := C
  obtain ⟨h1, rfl⟩ := hd
  intro T locs vm X e0 N S w' A Kp ow
  have hZ' : Z'.Warmed39 (s.setVm vm).vm := State.Warmed39.trans (t := s) hZ S.1
  have hown' : (s.setVm vm).vm.findClass y.cls = some m.cls := (S.1.alike.findClass _ _).trans hown
  obtain ⟨T', X', e', stp⟩ := instNo X hx hZ' hown' w e0 E F (g := mkF m pc Ls (.ref a :: st)) rfl rfl (hb hc' h1)
  exact mov K X' e' N S w' A Kp ow stp
theorem Go.instanceofNull {k : KT} (C : Ctx k l y bytes maxL ret R Z a0 EL wd wr h0 Q) {pc pc' i : Nat} (hd : De bytes pc (.instanceof i) 3 pc') (K : Go k h os cells slots pc' Ls (.int 0 :: st)) : Go k h os cells slots pc Ls (.null :: st) := by
  obtain ⟨p, l', e, R', s, m, args, below, meth, c, Z', EL', wd', wr', Q'⟩ := k
  obtain ⟨⟨rfl, rfl, rfl, rfl, rfl, rfl, rfl, rfl⟩, hx, hc', hml, hret, hlk, hnm, hZ, hown, hEL, hE, hwr⟩ := C
  obtain ⟨h1, rfl⟩ := hd
  intro T locs vm X e0 N S w' A Kp ow
  exact mov K X e0 N S w' A Kp ow (X.instanceofNull hx (g := mkF m pc Ls (.null :: st)) rfl rfl (hb hc' h1))
theorem Go.initO {k : KT} (C : Ctx k l y bytes maxL ret R Z a0 EL wd wr h0 Q) {pc pc' i : Nat} {a : Addr} (w1 : (Cond.methodLink y.cls i Lib.objectInit).before a0 Z = true) (w2 : (Cond.instanceMethod Lib.objectInit).before a0 Z = true) (w3 : (Cond.code Lib.objectInit ⟨#[0xb1]⟩ 1 none).before a0 Z = true)
    (hd : De bytes pc (.invokespecial i) 3 pc') (hs : Ls.size = maxL) (hf : 1 ≤ R.frames) (hl : (st.map fun v => v.category).sum + 12 ≤ R.locals) (K : Go k h os cells slots pc' Ls st) : Go k h os cells slots pc Ls (.ref a :: st) := by
  obtain ⟨p, l', e, R', s, m, args, below, meth, c, Z', EL', wd', wr', Q'⟩ := k
  obtain ⟨⟨rfl, rfl, rfl, rfl, rfl, rfl, rfl, rfl⟩, hx, hc', hml, hret, hlk, hnm, hZ, hown, hEL, hE, hwr⟩ := C
  obtain ⟨h1, rfl⟩ := hd
  intro T locs vm X e0 N S w' A Kp ow
  have hZ' : Z'.Warmed39 (s.setVm vm).vm := State.Warmed39.trans (t := s) hZ S.1
  have hown' : (s.setVm vm).vm.findClass y.cls = some m.cls := (S.1.alike.findClass _ _).trans hown
  obtain ⟨T', X', e', stp⟩ := RoadKit.initO X hx hZ' hown' w1 w2 w3 e0 (g := mkF m pc Ls (.ref a :: st)) rfl (hs.trans hml.symm) rfl (hb hc' h1) hf (W := (st.map fun v => v.category).sum) (by show 2 * 0 + _ ≤ _; omega) hl
  exact mov K X' e' N S w' A Kp ow stp
theorem Go.acmp {k : KT} (C : Ctx k l y bytes maxL ret R Z a0 EL wd wr h0 Q) {pc pc' pcT : Nat} {cd : ACond} {u v : Value} (same : Bool) (hd : DeJ bytes pc (.if_acmp cd) pc' pcT) (h1 : u.isRef = true) (h2 : v.isRef = true) (hq : decide (u = v) = same) {pcN : Nat} (hp : pcN = if acV cd same = true then pcT else pc') (K : Go k h os cells slots pcN Ls st) : Go k h os cells slots pc Ls (v :: u :: st) := by
  obtain ⟨p, l', e, R', s, m, args, below, meth, c, Z', EL', wd', wr', Q'⟩ := k
  obtain ⟨⟨rfl, rfl, rfl, rfl, rfl, rfl, rfl, rfl⟩, hx, hc', hml, hret, hlk, hnm, hZ, hown, hEL, hE, hwr⟩ := C
  obtain ⟨o, g1, rfl, g2, g3⟩ := hd
  intro T locs vm X e0 N S w' A Kp ow
  refine Fen.of (fun t kt => RoadKit.acmp X hx (g := mkF m pc Ls (v :: u :: st)) rfl h1 h2 (pc0 := pc) (pc' := pcN) (same := same) rfl (hb hc' g1) rfl hq g2 (by rw [hp, g3]) kt) (K T locs vm X e0 N S w' A Kp ow)
theorem Go.eqI {k : KT} {pc : Nat} {x x' : Int32} (e : x = x') (K : Go k h os cells slots pc Ls (.int x' :: st)) : Go k h os cells slots pc Ls (.int x :: st) := e ▸ K
theorem Go.eqJ {k : KT} {pc : Nat} {x x' : Int64} (e : x = x') (K : Go k h os cells slots pc Ls (.long x' :: st)) : Go k h os cells slots pc Ls (.long x :: st) := e ▸ K
theorem ne_lt {a b n : Nat} (q : a < n) (e : n ≤ b) : a ≠ b := Nat.ne_of_lt (Nat.lt_of_lt_of_le q e)
theorem ge_of {b n : Nat} (e : b = n) : n ≤ b := Nat.le_of_eq e.symm
theorem Go.ldcI {k : KT} (C : Ctx k l y bytes maxL ret R Z a0 EL wd wr h0 Q) {pc pc' i : Nat} {v : Int32} (w : (Cond.constant y.cls i v).before a0 Z = true) (hd : De bytes pc (.ldc i) 2 pc') (K : Go k h os cells slots pc' Ls (.int v :: st)) : Go k h os cells slots pc Ls st := by
  obtain ⟨p, l', e, R', s, m, args, below, meth, c, Z', EL', wd', wr', Q'⟩ := k
  obtain ⟨⟨rfl, rfl, rfl, rfl, rfl, rfl, rfl, rfl⟩, hx, hc', hml, hret, hlk, hnm, hZ, hown, hEL, hE, hwr⟩ := C
  obtain ⟨h1, rfl⟩ := hd
  intro T locs vm X e0 N S w' A Kp ow
  have hZ' : Z'.Warmed39 (s.setVm vm).vm := State.Warmed39.trans (t := s) hZ S.1
  have hown' : (s.setVm vm).vm.findClass y.cls = some m.cls := (S.1.alike.findClass _ _).trans hown
  exact mov K X e0 N S w' A Kp ow (X.ldcInt hx hown' (mvT hZ' w) (g := mkF m pc Ls st) rfl (hb hc' h1))
theorem Go.ldcWI {k : KT} (C : Ctx k l y bytes maxL ret R Z a0 EL wd wr h0 Q) {pc pc' i : Nat} {v : Int32} (w : (Cond.constant y.cls i v).before a0 Z = true) (hd : De bytes pc (.ldc_w i) 3 pc') (K : Go k h os cells slots pc' Ls (.int v :: st)) : Go k h os cells slots pc Ls st := by
  obtain ⟨p, l', e, R', s, m, args, below, meth, c, Z', EL', wd', wr', Q'⟩ := k
  obtain ⟨⟨rfl, rfl, rfl, rfl, rfl, rfl, rfl, rfl⟩, hx, hc', hml, hret, hlk, hnm, hZ, hown, hEL, hE, hwr⟩ := C
  obtain ⟨h1, rfl⟩ := hd
  intro T locs vm X e0 N S w' A Kp ow
  have hZ' : Z'.Warmed39 (s.setVm vm).vm := State.Warmed39.trans (t := s) hZ S.1
  have hown' : (s.setVm vm).vm.findClass y.cls = some m.cls := (S.1.alike.findClass _ _).trans hown
  exact mov K X e0 N S w' A Kp ow (X.ldcwInt hx hown' (mvT hZ' w) (g := mkF m pc Ls st) rfl (hb hc' h1))
theorem Go.ldcJ {k : KT} (C : Ctx k l y bytes maxL ret R Z a0 EL wd wr h0 Q) {pc pc' i : Nat} {v : Int64} (w : (Cond.constantLong y.cls i v).before a0 Z = true) (hd : De bytes pc (.ldc2_w i) 3 pc') (K : Go k h os cells slots pc' Ls (.long v :: st)) : Go k h os cells slots pc Ls st := by
  obtain ⟨p, l', e, R', s, m, args, below, meth, c, Z', EL', wd', wr', Q'⟩ := k
  obtain ⟨⟨rfl, rfl, rfl, rfl, rfl, rfl, rfl, rfl⟩, hx, hc', hml, hret, hlk, hnm, hZ, hown, hEL, hE, hwr⟩ := C
  obtain ⟨h1, rfl⟩ := hd
  intro T locs vm X e0 N S w' A Kp ow
  have hZ' : Z'.Warmed39 (s.setVm vm).vm := State.Warmed39.trans (t := s) hZ S.1
  have hown' : (s.setVm vm).vm.findClass y.cls = some m.cls := (S.1.alike.findClass _ _).trans hown
  exact mov K X e0 N S w' A Kp ow (X.ldc2Long hx hown' (mvT hZ' w) (g := mkF m pc Ls st) rfl (hb hc' h1))
theorem sizeExt {h' : Heap} {a : Addr} {C : String} (E : Exa Z h' a C) : a < h'.size := E.lt
theorem Go.ldcStr {k : KT} (C : Ctx k l y bytes maxL ret R Z a0 EL true wr h0 Q) {pc pc' i : Nat} {text : String} (w : (Cond.stringLink y.cls i text).before a0 Z = true) (wS : ∀ a ∈ Bundle.stringAtoms, a.before a0 Z = true) (hmem : (y.cls, i) ∈ EL) {bs : List Int32}
    (ht : (∀ c ∈ text.toList, c.toNat < 256) ∧ text.toList.map (fun c => Value.int (Jvm.Lit.byteI c.toNat.toUInt16)) = bs.map .int) (hln : (Int32.ofNat bs.length).toNatClampNeg = bs.length ∧ ¬ (Int32.ofNat bs.length) < 0) (hd : De bytes pc (.ldc i) 2 pc') {n : Nat} (hn : 4 * text.toList.length ≤ n) (hbig : n ≤ 536870912) (hc : cells + 2 ≤ R.cells) (hl : slots + (n + 4) ≤ R.slots)
    (K : ∀ (a t : Addr) (h' : Heap), Keep h h' [] → Str Z h' a t bs → (∀ x ∈ os, a ≠ x ∧ t ≠ x) → Go k h' os (cells + 2) (slots + (n + 4)) pc' Ls (.ref a :: st)) : Go k h os cells slots pc Ls st := by
  obtain ⟨p, l', e, R', s, m, args, below, meth, c, Z', EL', wd', wr', Q'⟩ := k
  obtain ⟨⟨rfl, rfl, rfl, rfl, rfl, rfl, rfl, rfl⟩, hx, hc', hml, hret, hlk, hnm, hZ, hown, hEL, hE, hwr⟩ := C
  obtain ⟨h1, rfl⟩ := hd
  intro T locs vm X e0 N S w' A Kp ow
  have hZ' : Z'.Warmed39 vm := State.Warmed39.trans (t := s) hZ S.1
  have hown' : vm.findClass y.cls = some m.cls := (S.1.alike.findClass _ _).trans hown
  obtain ⟨a, T', h', k1, b, kc, X', e', E, S', hk1, -, -, Ex, Fc, Fv, Av1, -, -, Ch, -, hsf, stp⟩ := ldcCH X hx hZ' hown' w wS e0 S (Nat.le_refl _) hEL hmem A.1 (vs := bs.map .int) (z := Int32.ofNat bs.length) ht hln.2 (by rw [hln.1]; simp) (g := mkF m pc Ls st) rfl (hb hc' h1) hn hbig hc hl
  have Sx : Str Z' h' a b bs := ⟨⟨Ex, rfl, fun i q v g1 g2 => by
    match i, g1, g2 with
    | 0, g1, g2 => cases g1; cases g2; exact Fv
    | 1, g1, g2 => cases g1; cases g2; exact Fc
    | i + 2, g1, g2 => simp [fStr] at g1⟩, ⟨kc, Int32.ofNat bs.length, Av1, by rw [hln.1]; simp⟩⟩
  have Kx : Keep h h' [] := Keep.ofExt E
  refine mov (K a b h' Kx Sx fun x hx => ⟨fun q => (hsf x ((ow x hx).chr Ch).1).1 q.symm, fun q => (hsf x ((ow x hx).chr Ch).1).2 q.symm⟩) X' e' N (Since.up S' hk1) (fun q => Bool.noConfusion q) (A.trans Ch) (Kp.ext E) (fun x hx => (ow x hx).chr Ch) stp
theorem Go.acmpne {k : KT} (C : Ctx k l y bytes maxL ret R Z a0 EL wd wr h0 Q) {pc pc' pcT : Nat} {a b : Addr} (hd : DeJ bytes pc (.if_acmp .ne) pc' pcT) (KD : ¬ (a = b) → Go k h os cells slots pcT Ls st) (KS : a = b → Go k h os cells slots pc' Ls st) : Go k h os cells slots pc Ls (.ref b :: .ref a :: st) := by
  by_cases q : a = b
  · exact Go.acmp C true hd rfl rfl (decide_eq_true (congrArg _ q)) rfl (KS q)
  · exact Go.acmp C false hd rfl rfl (decide_eq_false fun z => q (Value.ref.inj z)) rfl (KD q)
theorem Go.acmpeq {k : KT} (C : Ctx k l y bytes maxL ret R Z a0 EL wd wr h0 Q) {pc pc' pcT : Nat} {a b : Addr} (hd : DeJ bytes pc (.if_acmp .eq) pc' pcT) (KS : a = b → Go k h os cells slots pcT Ls st) (KD : ¬ (a = b) → Go k h os cells slots pc' Ls st) : Go k h os cells slots pc Ls (.ref b :: .ref a :: st) := by
  by_cases q : a = b
  · exact Go.acmp C true hd rfl rfl (decide_eq_true (congrArg _ q)) rfl (KS q)
  · exact Go.acmp C false hd rfl rfl (decide_eq_false fun z => q (Value.ref.inj z)) rfl (KD q)
/-- a callee's contract, as its caller takes it -/
theorem conBack {p : Program} {e : Env} {s : State} {args : Array Value} {below : List Frame} {z : MethodName} {bz : ByteArray} {mz : Nat} {rz : Option FieldType} {rm : Room} {as' : Array Value} {wr' : List Addr} {Q' : QT} {vm : Vm} {len W : Nat}
    (M : Con l Z EL wd z bz mz rz rm [] as' h wr' Q') (hZ : Z.Warmed39 vm) (wc : (Cond.code z bz mz rz).before a0 Z = true) (wz : (Cond.initialized z.cls).before a0 Z = true) (hf : rm.frames + 1 ≤ R.frames) (hl : W + (mz + 11) + rm.locals ≤ R.locals) (hEL : EW Z a0 EL) (H : CHv Z EL vm h) (hE : Ext Z.heap h) (hs : ∀ x ∈ wr', Safe Z EL vm h x ∧ Z.heap.size ≤ x ∧ x < h.size) :
    BackS l R p e below (s.setVm vm) args z len W (fun A a => a = as' ∧ A.U.heap = h ∧ A.cells + rm.cells ≤ R.cells ∧ A.slots + rm.slots ≤ R.slots)
      (fun A _ v B => ∃ L os, Q' v B.U.heap os ∧ (∀ x ∈ os, Safe Z EL B.U.vm B.U.heap x ∧ h.size ≤ x ∧ x < B.U.heap.size) ∧ Keep h B.U.heap wr' ∧ Fr Z.heap.size L ∧ CHr Z EL vm h B.U.vm B.U.heap ∧ (wd = false → (s.setVm vm).WarmedH B.U.vm) ∧ B.locs = A.locs ++ L ∧ B.cells = A.cells + rm.cells ∧ B.slots = A.slots + rm.slots) :=
  BackS.of_freeW (bytes := bz) (maxL := mz) (ret := rz) (E := fun _ first o t L k n => k = rm.cells ∧ n = rm.slots ∧ (∃ v os, o = .returned v ∧ Q' v t.heap os ∧ (∀ x ∈ os, Safe Z EL t.vm t.heap x ∧ first.heap.size ≤ x ∧ x < t.heap.size) ∧ Keep first.heap t.heap wr' ∧ Fr Z.heap.size L) ∧ CHr Z EL first.vm first.heap t.vm t.heap ∧ (wd = false → first.WarmedH t.vm)) M hf hl
    (fun m meth c A a Y hp => have hU : Z.Warmed39 A.U.vm := wtrans (s := s.setVm vm) hZ Y.warmed
      ⟨by show (Cond.and _ .tt).before a A.U = true; rw [Cond.before_and, mv hU wc]; rfl, mv hU wc, mv hU wz, hp.2.2.1, hp.2.2.2⟩)
    (fun m meth c A a g mk Y hp => ⟨hp.1, wtrans (s := s.setVm vm) hZ Y.warmed, hp.2.1, (CHv.at Y hZ hEL H).1, hE, fun x hx => ⟨(CHv.at Y hZ hEL H).safe (hs x hx).2.2 (hs x hx).1, (hs x hx).2⟩⟩) (fun _ _ _ _ _ _ _ _ _ => trivial)
    (fun _ _ _ _ ⟨v, L, os, h1, h2, h3, h4, h5, h6, h7, h8⟩ => ⟨L, _, _, h7, rfl, rfl, ⟨v, os, h1, h2, h3, h4, h5⟩, h6, fun q => (h8 q).2.1⟩)
    (fun m meth c A a g mk v t L k n Y hp _ _ ⟨e1, e2, ⟨v', os, e3, e4, e5, e6, e7⟩, e8, e9⟩ => by
      cases e3; subst e1 e2
      have eh : (A.U.calling g mk a).heap = h := hp.2.1
      rw [eh] at e6 e8
      refine ⟨L, os, e4, fun x hx => ?_, e6, e7, (CHv.at Y hZ hEL H).trans e8, fun q => State.WarmedH.trans Y.warmed (e9 q), rfl, rfl, rfl⟩
      have := e5 x hx
      rw [eh] at this; exact this)
theorem afterCall {p : Program} {e : Env} {s : State} {m : MethodId} {args : Array Value} {below : List Frame} {meth : Method} {c : Code} {T : State} {locs : List Loc} {vm : Vm} {rm : Room} {wr' : List Addr} {Q' : QT} {pc pc' : Nat} {st0 : List Value} {v : Option Value} {B : Pt} {L : List Loc} {os' : List Addr}
    (N : Fr Z.heap.size locs) (S : s.Since vm h.size) (w : wd = false → s.WarmedH vm) (A : CHr Z EL s.vm s.heap vm h) (Kp : Keep s.heap h wr) (hE : Ext Z.heap s.heap) (ow : ∀ x ∈ os, Own Z s.heap EL wr vm h x) (how : ∀ x ∈ wr', x ∈ os)
    (K : Go ⟨p, l, e, R, s, m, args, below, meth, c, Z, EL, wd, wr, Q⟩ B.U.heap (os' ++ os) (cells + rm.cells) (slots + rm.slots) pc' Ls (v.toList ++ st))
    (X' : Stand p l e R ((s.setVm vm).setVm B.U.vm) m args below meth c B.U B.locs B.cells B.slots) (hS : (s.setVm vm).Since B.U.vm B.U.heap.size) (hgr : h.size ≤ B.U.heap.size)
    (q2 : ∀ x ∈ os', Safe Z EL B.U.vm B.U.heap x ∧ h.size ≤ x ∧ x < B.U.heap.size) (q3 : Keep h B.U.heap wr') (q4 : Fr Z.heap.size L) (q5 : CHr Z EL vm h B.U.vm B.U.heap) (q6 : wd = false → (s.setVm vm).WarmedH B.U.vm) (q7 : B.locs = locs ++ L) (q8 : B.cells = cells + rm.cells) (q9 : B.slots = slots + rm.slots)
    (stp : Steps p.tables e below (T.setTop (mkF m pc Ls st0)) (B.U.setTop (mkF m pc' Ls (v.toList ++ st)))) : Fen p e below (Done Z EL wd R wr Q s) (T.setTop (mkF m pc Ls st0)) := by
  rw [q7, q8, q9] at X'
  refine mov (vm' := B.U.vm) K X' rfl (N.app q4) (S.trans hS hgr) (fun q => State.WarmedH.trans (w q) (q6 q)) (A.trans q5) (keepOs Kp q3 ow how) (fun x hx => ?_) (fun t kt => stp.trans kt)
  rcases List.mem_append.mp hx with hx | hx
  · obtain ⟨z1, z2, z3⟩ := q2 x hx
    exact ⟨z1, Nat.le_trans hE.1 (Nat.le_trans Kp.1 z2), z3, Or.inr (Nat.le_trans Kp.1 z2)⟩
  · exact (ow x hx).chr q5
theorem Go.callS {k : KT} (C : Ctx k l y bytes maxL ret R Z a0 EL wd wr h0 Q) {pc pc' : Nat} {i : Nat} {z : MethodName} {bz : ByteArray} {mz : Nat} {rz : Option FieldType} {rm : Room} {wr' : List Addr} {Q' : QT} {argsL : List Value} {ps : List FieldType} {rr : Option FieldType}
    (M : Con l Z EL wd z bz mz rz rm [] argsL.toArray h wr' Q') (w1 : (Cond.methodLink y.cls i z).before a0 Z = true) (w2 : (Cond.static z).before a0 Z = true) (w3 : (Cond.initialized z.cls).before a0 Z = true) (w4 : (Cond.code z bz mz rz).before a0 Z = true) (hd : De bytes pc (.invokestatic i) 3 pc') (hpd : parseMethodDescriptor z.desc = some ⟨ps, rr⟩) (hln : argsL.length = ps.length) (hmh : z.cls ≠ "java/lang/invoke/MethodHandle" ∧ z.cls ≠ "java/lang/invoke/VarHandle") (hsz : Ls.size = maxL) {st0 : List Value} (hst : st0 = argsL.reverse ++ st) (hfr : rm.frames + 1 ≤ R.frames) (hlo : (st.map fun v => v.category).sum + (mz + 11) + rm.locals ≤ R.locals) (hce : cells + rm.cells ≤ R.cells) (hsl : slots + rm.slots ≤ R.slots) (how : ∀ x ∈ wr', x ∈ os)
    (K : ∀ (v : Option Value) (h' : Heap) (os' : List Addr), Q' v h' os' → Keep h h' wr' → (∀ x ∈ os', h.size ≤ x ∧ x < h'.size) → Go k h' (os' ++ os) (cells + rm.cells) (slots + rm.slots) pc' Ls (v.toList ++ st)) : Go k h os cells slots pc Ls st0 := by
  obtain ⟨p, l', e, R', s, m, args, below, meth, c, Z', EL', wd', wr', Q'⟩ := k
  obtain ⟨⟨rfl, rfl, rfl, rfl, rfl, rfl, rfl, rfl⟩, hx, hc', hml, hret, hlk, hnm, hZ, hown, hEL, hE, hwr⟩ := C
  obtain ⟨h1, rfl⟩ := hd
  intro T locs vm X e0 N S w' A Kp ow
  have hZ' : Z'.Warmed39 (s.setVm vm).vm := State.Warmed39.trans (t := s) hZ S.1
  have hown' : (s.setVm vm).vm.findClass y.cls = some m.cls := (S.1.alike.findClass _ _).trans hown
  subst hst
  obtain ⟨v, vm₁, B, -, X', hS, hgr, hpost, stp⟩ := callSS X hx hown' (mvT hZ' w1) (mvT hZ' w2) (mvT hZ' w3) (mvT hZ' w4) hmh (conBack (p := p) (e := e) (below := below) (s := s) (args := args) M hZ' w4 w3 hfr hlo hEL A.1 (ext0 hE Kp hwr) (fun x hx => ⟨(ow x (how x hx)).1, (ow x (how x hx)).2.1, (ow x (how x hx)).2.2.1⟩)) (g := mkF m pc Ls (argsL.reverse ++ st)) rfl (hsz.trans hml.symm) (argsL := argsL) (rest := st) (lenOf hpd hln) rfl (by show 2 * 0 + _ ≤ _; exact Nat.le_of_eq (Nat.zero_add _)) (hb hc' h1) (fun _ _ => ⟨rfl, e0, hce, hsl⟩)
  obtain ⟨L, os', q1, q2, q3, q4, q5, q6, q7, q8, q9⟩ := hpost
  exact afterCall (Q' := Q') (rm := rm) N S w' A Kp hE ow how (K v B.U.heap os' q1 q3 fun x hx => (q2 x hx).2) X' hS (e0 ▸ hgr) q2 q3 q4 q5 q6 q7 q8 q9 stp
theorem Go.callI {k : KT} (C : Ctx k l y bytes maxL ret R Z a0 EL wd wr h0 Q) {pc pc' : Nat} {i : Nat} {a : Addr} {z : MethodName} {bz : ByteArray} {mz : Nat} {rm : Room} {wr' : List Addr} {Q' : QT} {argsL : List Value} {ps : List FieldType} {rr : Option FieldType}
    (M : Con l Z EL wd z bz mz none rm [] (.ref a :: argsL).toArray h wr' Q') (hin : z.name = "<init>") (w1 : (Cond.methodLink y.cls i z).before a0 Z = true) (w2 : (Cond.instanceMethod z).before a0 Z = true) (w3 : (Cond.initialized z.cls).before a0 Z = true) (w4 : (Cond.code z bz mz none).before a0 Z = true) (hd : De bytes pc (.invokespecial i) 3 pc') (hpd : parseMethodDescriptor z.desc = some ⟨ps, rr⟩) (hln : argsL.length = ps.length) (hmh : z.cls ≠ "java/lang/invoke/MethodHandle" ∧ z.cls ≠ "java/lang/invoke/VarHandle") (hsz : Ls.size = maxL) {st0 : List Value} (hst : st0 = argsL.reverse ++ .ref a :: st) (hfr : rm.frames + 1 ≤ R.frames) (hlo : (st.map fun v => v.category).sum + (mz + 11) + rm.locals ≤ R.locals) (hce : cells + rm.cells ≤ R.cells) (hsl : slots + rm.slots ≤ R.slots) (how : ∀ x ∈ wr', x ∈ os)
    (K : ∀ (v : Option Value) (h' : Heap) (os' : List Addr), Q' v h' os' → Keep h h' wr' → (∀ x ∈ os', h.size ≤ x ∧ x < h'.size) → Go k h' (os' ++ os) (cells + rm.cells) (slots + rm.slots) pc' Ls (v.toList ++ st)) : Go k h os cells slots pc Ls st0 := by
  obtain ⟨p, l', e, R', s, m, args, below, meth, c, Z', EL', wd', wr', Q'⟩ := k
  obtain ⟨⟨rfl, rfl, rfl, rfl, rfl, rfl, rfl, rfl⟩, hx, hc', hml, hret, hlk, hnm, hZ, hown, hEL, hE, hwr⟩ := C
  obtain ⟨h1, rfl⟩ := hd
  intro T locs vm X e0 N S w' A Kp ow
  have hZ' : Z'.Warmed39 (s.setVm vm).vm := State.Warmed39.trans (t := s) hZ S.1
  have hown' : (s.setVm vm).vm.findClass y.cls = some m.cls := (S.1.alike.findClass _ _).trans hown
  subst hst
  obtain ⟨v, vm₁, B, -, X', hS, hgr, hpost, stp⟩ := X.specialBackS hx hin hown' (mvT hZ' w1) (mvT hZ' w2) (mvT hZ' w4) hmh (conBack (p := p) (e := e) (below := below) (s := s) (args := args) M hZ' w4 w3 hfr hlo hEL A.1 (ext0 hE Kp hwr) (fun x hx => ⟨(ow x (how x hx)).1, (ow x (how x hx)).2.1, (ow x (how x hx)).2.2.1⟩)) (g := mkF m pc Ls (argsL.reverse ++ .ref a :: st)) rfl (hsz.trans hml.symm) (Steps.refl _) (a := a) (argsL := argsL) (rest := st) (lenOf hpd hln) rfl (by show 2 * 0 + _ ≤ _; exact Nat.le_of_eq (Nat.zero_add _)) (hb hc' h1) (fun _ _ => ⟨rfl, e0, hce, hsl⟩)
  obtain ⟨L, os', q1, q2, q3, q4, q5, q6, q7, q8, q9⟩ := hpost
  exact afterCall (Q' := Q') (rm := rm) N S w' A Kp hE ow how (K v B.U.heap os' q1 q3 fun x hx => (q2 x hx).2) X' hS (e0 ▸ hgr) q2 q3 q4 q5 q6 q7 q8 q9 stp
theorem Go.callV {k : KT} (C : Ctx k l y bytes maxL ret R Z a0 EL wd wr h0 Q) {pc pc' : Nat} {i : Nat} {a : Addr} {Cn : String} {zr : MethodName} {z : MethodName} {bz : ByteArray} {mz : Nat} {rz : Option FieldType} {rm : Room} {wr' : List Addr} {Q' : QT} {argsL : List Value} {ps : List FieldType} {rr : Option FieldType}
    (M : Con l Z EL wd z bz mz rz rm [] (.ref a :: argsL).toArray h wr' Q') (Ex : Exa Z h a Cn) (w1 : (Cond.methodLink y.cls i zr).before a0 Z = true) (wd1 : (Cond.declares zr).before a0 Z = true) (nf : ∀ {s : State}, Z.Warmed39 s.vm → NotFace s zr) (ws : (Cond.selects Cn zr z).before a0 Z = true) (w2 : (Cond.instanceMethod z).before a0 Z = true) (w3 : (Cond.initialized z.cls).before a0 Z = true) (w4 : (Cond.code z bz mz rz).before a0 Z = true) (hd : De bytes pc (.invokevirtual i) 3 pc') (hpd : parseMethodDescriptor zr.desc = some ⟨ps, rr⟩) (hln : argsL.length = ps.length) (hmh : zr.cls ≠ "java/lang/invoke/MethodHandle" ∧ zr.cls ≠ "java/lang/invoke/VarHandle") (hsz : Ls.size = maxL) {st0 : List Value} (hst : st0 = argsL.reverse ++ .ref a :: st) (hfr : rm.frames + 1 ≤ R.frames) (hlo : (st.map fun v => v.category).sum + (mz + 11) + rm.locals ≤ R.locals) (hce : cells + rm.cells ≤ R.cells) (hsl : slots + rm.slots ≤ R.slots) (how : ∀ x ∈ wr', x ∈ os)
    (K : ∀ (v : Option Value) (h' : Heap) (os' : List Addr), Q' v h' os' → Keep h h' wr' → (∀ x ∈ os', h.size ≤ x ∧ x < h'.size) → Go k h' (os' ++ os) (cells + rm.cells) (slots + rm.slots) pc' Ls (v.toList ++ st)) : Go k h os cells slots pc Ls st0 := by
  obtain ⟨p, l', e, R', s, m, args, below, meth, c, Z', EL', wd', wr', Q'⟩ := k
  obtain ⟨⟨rfl, rfl, rfl, rfl, rfl, rfl, rfl, rfl⟩, hx, hc', hml, hret, hlk, hnm, hZ, hown, hEL, hE, hwr⟩ := C
  obtain ⟨h1, rfl⟩ := hd
  intro T locs vm X e0 N S w' A Kp ow
  have hZ' : Z'.Warmed39 (s.setVm vm).vm := State.Warmed39.trans (t := s) hZ S.1
  have hown' : (s.setVm vm).vm.findClass y.cls = some m.cls := (S.1.alike.findClass _ _).trans hown
  subst hst
  obtain ⟨cq, kq, q1a, q1b, q1c⟩ := isOf hZ' e0 Ex
  obtain ⟨v, vm₁, B, -, X', hS, hgr, hpost, stp⟩ := X.virtualBackS hx hown' (mvT hZ' w1) (mvT hZ' wd1) (nf hZ') (mvT hZ' ws) (mvT hZ' w2) hmh (conBack (p := p) (e := e) (below := below) (s := s) (args := args) M hZ' w4 w3 hfr hlo hEL A.1 (ext0 hE Kp hwr) (fun x hx => ⟨(ow x (how x hx)).1, (ow x (how x hx)).2.1, (ow x (how x hx)).2.2.1⟩)) q1a q1c (g := mkF m pc Ls (argsL.reverse ++ .ref a :: st)) rfl (hsz.trans hml.symm) (Steps.refl _) (argsL := argsL) (rest := st) (lenOf hpd hln) rfl (by show 2 * 0 + _ ≤ _; exact Nat.le_of_eq (Nat.zero_add _)) (hb hc' h1) (fun _ _ => ⟨rfl, e0, hce, hsl⟩)
  obtain ⟨L, os', q1, q2, q3, q4, q5, q6, q7, q8, q9⟩ := hpost
  exact afterCall (Q' := Q') (rm := rm) N S w' A Kp hE ow how (K v B.U.heap os' q1 q3 fun x hx => (q2 x hx).2) X' hS (e0 ▸ hgr) q2 q3 q4 q5 q6 q7 q8 q9 stp
theorem Go.callF {k : KT} (C : Ctx k l y bytes maxL ret R Z a0 EL wd wr h0 Q) {pc pc' : Nat} {i n : Nat} {a : Addr} {Cn : String} {zr : MethodName} {z : MethodName} {bz : ByteArray} {mz : Nat} {rz : Option FieldType} {rm : Room} {wr' : List Addr} {Q' : QT} {argsL : List Value} {ps : List FieldType} {rr : Option FieldType}
    (M : Con l Z EL wd z bz mz rz rm [] (.ref a :: argsL).toArray h wr' Q') (Ex : Exa Z h a Cn) (w1 : (Cond.methodLink y.cls i zr).before a0 Z = true) (wd1 : (Cond.declares zr).before a0 Z = true) (wf : ∀ (s : State) (as : Array Value), Z.Warmed39 s.vm → (Cond.interfaceMethod zr.cls zr.cls zr.name zr.desc).before as s = true) (ws : (Cond.selects Cn zr z).before a0 Z = true) (w2 : (Cond.instanceMethod z).before a0 Z = true) (wp : (Cond.publicMethod z).before a0 Z = true) (wu : (Cond.unhidden Cn zr.name zr.desc).before a0 Z = true) (wc : (Cond.castable Cn zr.cls).before a0 Z = true) (w3 : (Cond.initialized z.cls).before a0 Z = true) (w4 : (Cond.code z bz mz rz).before a0 Z = true) (hd : De bytes pc (.invokeinterface i n) 5 pc') (hpd : parseMethodDescriptor zr.desc = some ⟨ps, rr⟩) (hln : argsL.length = ps.length) (hmh : zr.cls ≠ "java/lang/invoke/MethodHandle" ∧ zr.cls ≠ "java/lang/invoke/VarHandle") (hsz : Ls.size = maxL) {st0 : List Value} (hst : st0 = argsL.reverse ++ .ref a :: st) (hfr : rm.frames + 1 ≤ R.frames) (hlo : (st.map fun v => v.category).sum + (mz + 11) + rm.locals ≤ R.locals) (hce : cells + rm.cells ≤ R.cells) (hsl : slots + rm.slots ≤ R.slots) (how : ∀ x ∈ wr', x ∈ os)
    (K : ∀ (v : Option Value) (h' : Heap) (os' : List Addr), Q' v h' os' → Keep h h' wr' → (∀ x ∈ os', h.size ≤ x ∧ x < h'.size) → Go k h' (os' ++ os) (cells + rm.cells) (slots + rm.slots) pc' Ls (v.toList ++ st)) : Go k h os cells slots pc Ls st0 := by
  obtain ⟨p, l', e, R', s, m, args, below, meth, c, Z', EL', wd', wr', Q'⟩ := k
  obtain ⟨⟨rfl, rfl, rfl, rfl, rfl, rfl, rfl, rfl⟩, hx, hc', hml, hret, hlk, hnm, hZ, hown, hEL, hE, hwr⟩ := C
  obtain ⟨h1, rfl⟩ := hd
  intro T locs vm X e0 N S w' A Kp ow
  have hZ' : Z'.Warmed39 (s.setVm vm).vm := State.Warmed39.trans (t := s) hZ S.1
  have hown' : (s.setVm vm).vm.findClass y.cls = some m.cls := (S.1.alike.findClass _ _).trans hown
  subst hst
  obtain ⟨cq, kq, q1a, q1b, q1c⟩ := isOf hZ' e0 Ex
  obtain ⟨v, vm₁, B, -, X', hS, hgr, hpost, stp⟩ := X.interfaceBackS hx hown' (mvT hZ' w1) (mvT hZ' wd1) (wf _ _ hZ') (mvT hZ' ws) (mvT hZ' w2) (mvT hZ' wp) (mvT hZ' wu) (mvT hZ' wc) hmh (conBack (p := p) (e := e) (below := below) (s := s) (args := args) M hZ' w4 w3 hfr hlo hEL A.1 (ext0 hE Kp hwr) (fun x hx => ⟨(ow x (how x hx)).1, (ow x (how x hx)).2.1, (ow x (how x hx)).2.2.1⟩)) q1a q1b q1c (g := mkF m pc Ls (argsL.reverse ++ .ref a :: st)) rfl (hsz.trans hml.symm) (Steps.refl _) (argsL := argsL) (rest := st) (lenOf hpd hln) rfl (by show 2 * 0 + _ ≤ _; exact Nat.le_of_eq (Nat.zero_add _)) (hb hc' h1) (fun _ _ => ⟨rfl, e0, hce, hsl⟩)
  obtain ⟨L, os', q1, q2, q3, q4, q5, q6, q7, q8, q9⟩ := hpost
  exact afterCall (Q' := Q') (rm := rm) N S w' A Kp hE ow how (K v B.U.heap os' q1 q3 fun x hx => (q2 x hx).2) X' hS (e0 ▸ hgr) q2 q3 q4 q5 q6 q7 q8 q9 stp
theorem Go.callP {k : KT} (C : Ctx k l y bytes maxL ret R Z a0 EL wd wr h0 Q) {pc pc' : Nat} {i : Nat} {a : Addr} {Cn : String} {z : MethodName} {bz : ByteArray} {mz : Nat} {rz : Option FieldType} {rm : Room} {wr' : List Addr} {Q' : QT} {argsL : List Value} {ps : List FieldType} {rr : Option FieldType}
    (M : Con l Z EL wd z bz mz rz rm [] (.ref a :: argsL).toArray h wr' Q') (Ex : Exa Z h a Cn) (w1 : (Cond.methodLink y.cls i z).before a0 Z = true) (w2 : (Cond.instanceMethod z).before a0 Z = true) (ws : (Cond.selects z.cls z z).before a0 Z = true) (wp : (Cond.privateMethod z).before a0 Z = true) (w3 : (Cond.initialized z.cls).before a0 Z = true) (w4 : (Cond.code z bz mz rz).before a0 Z = true) (hd : De bytes pc (.invokevirtual i) 3 pc') (hpd : parseMethodDescriptor z.desc = some ⟨ps, rr⟩) (hln : argsL.length = ps.length) (hmh : z.cls ≠ "java/lang/invoke/MethodHandle" ∧ z.cls ≠ "java/lang/invoke/VarHandle") (hsz : Ls.size = maxL) {st0 : List Value} (hst : st0 = argsL.reverse ++ .ref a :: st) (hfr : rm.frames + 1 ≤ R.frames) (hlo : (st.map fun v => v.category).sum + (mz + 11) + rm.locals ≤ R.locals) (hce : cells + rm.cells ≤ R.cells) (hsl : slots + rm.slots ≤ R.slots) (how : ∀ x ∈ wr', x ∈ os)
    (K : ∀ (v : Option Value) (h' : Heap) (os' : List Addr), Q' v h' os' → Keep h h' wr' → (∀ x ∈ os', h.size ≤ x ∧ x < h'.size) → Go k h' (os' ++ os) (cells + rm.cells) (slots + rm.slots) pc' Ls (v.toList ++ st)) : Go k h os cells slots pc Ls st0 := by
  obtain ⟨p, l', e, R', s, m, args, below, meth, c, Z', EL', wd', wr', Q'⟩ := k
  obtain ⟨⟨rfl, rfl, rfl, rfl, rfl, rfl, rfl, rfl⟩, hx, hc', hml, hret, hlk, hnm, hZ, hown, hEL, hE, hwr⟩ := C
  obtain ⟨h1, rfl⟩ := hd
  intro T locs vm X e0 N S w' A Kp ow
  have hZ' : Z'.Warmed39 (s.setVm vm).vm := State.Warmed39.trans (t := s) hZ S.1
  have hown' : (s.setVm vm).vm.findClass y.cls = some m.cls := (S.1.alike.findClass _ _).trans hown
  subst hst
  obtain ⟨cq, q1a, q1b⟩ := Ex.cell
  obtain ⟨v, vm₁, B, -, X', hS, hgr, hpost, stp⟩ := X.privateBackS hx hown' (mvT hZ' w1) (mvT hZ' w2) (mvT hZ' ws) (Cond.privateMethod_at (mvP hZ' wp (args := #[]))) (mvT hZ' w4) hmh (conBack (p := p) (e := e) (below := below) (s := s) (args := args) M hZ' w4 w3 hfr hlo hEL A.1 (ext0 hE Kp hwr) (fun x hx => ⟨(ow x (how x hx)).1, (ow x (how x hx)).2.1, (ow x (how x hx)).2.2.1⟩)) (g := mkF m pc Ls (argsL.reverse ++ .ref a :: st)) rfl (hsz.trans hml.symm) (Steps.refl _) (a := a) (by rw [e0]; exact q1a) q1b (argsL := argsL) (rest := st) (lenOf hpd hln) rfl (by show 2 * 0 + _ ≤ _; exact Nat.le_of_eq (Nat.zero_add _)) (hb hc' h1) (fun _ _ => ⟨rfl, e0, hce, hsl⟩)
  obtain ⟨L, os', q1, q2, q3, q4, q5, q6, q7, q8, q9⟩ := hpost
  exact afterCall (Q' := Q') (rm := rm) N S w' A Kp hE ow how (K v B.U.heap os' q1 q3 fun x hx => (q2 x hx).2) X' hS (e0 ▸ hgr) q2 q3 q4 q5 q6 q7 q8 q9 stp
theorem Go.ireturn {k : KT} {x x' : Int32} {t : FieldType} (C : Ctx k l y bytes maxL (some t) R Z a0 EL wd wr h0 Q) {pc pc' : Nat} (hd : De bytes pc .ireturn 1 pc') (hce : cells ≤ R.cells) (hsl : slots ≤ R.slots) (ht : t = .int ∨ t = .boolean ∨ t = .byte ∨ t = .char ∨ t = .short) (hn : nar t x = x') (os' : List Addr) (ho : ∀ x ∈ os', x ∈ os ∧ h0.size ≤ x) (q : Q (some (.int x')) h os') : Go k h os cells slots pc Ls (.int x :: st) := by
  obtain ⟨p, l', e, R', s, m, args, below, meth, c, Z', EL', wd', wr', Q'⟩ := k
  obtain ⟨⟨rfl, rfl, rfl, rfl, rfl, rfl, rfl, rfl⟩, hx, hc', hml, hret, hlk, hnm, hZ, hown, hEL, hE, hwr⟩ := C
  obtain ⟨h1, rfl⟩ := hd
  intro T locs vm X e0 N S w' A Kp ow
  have hZ' : Z'.Warmed39 (s.setVm vm).vm := State.Warmed39.trans (t := s) hZ S.1
  obtain ⟨fs, hr, g1, g2, hW, hs0⟩ := X.leave (v := (some (.int x'))) (fun h => by rw [hret] at h; cases h) hlk
  obtain ⟨r1, r2, r3⟩ := S.ended (U := T.setFrames fs) hW (Nat.le_of_eq (by rw [← e0]; rfl)) hs0
  have Ch := A.trans (CHv.at X hZ' hEL A.1)
  refine ⟨T.setFrames fs, _, ?_, g1, g2, (some (.int x')), locs, os', rfl, ?_, ?_, ?_, N, ?_, ⟨⟨_, rfl⟩, r1, r2, r3.mono hce hsl⟩, fun q => ⟨⟨_, rfl⟩, State.WarmedH.trans (w' q) hW, r3.mono hce hsl⟩⟩
  · subst hn
    rcases ht with rfl | ht
    · exact retOut X hx hret rfl (Or.inl ⟨rfl, Or.inl rfl, _, rfl⟩) (hb hc' h1) hr
    · exact retN X hx hret ht (hb hc' h1) hr
  · show Q' _ T.heap os'
    rw [e0]; exact q
  · intro x hx
    obtain ⟨z1, z2⟩ := ho x hx
    obtain ⟨o1, o2, o3, o4⟩ := ow x z1
    show Safe Z' EL' T.vm T.heap x ∧ s.heap.size ≤ x ∧ x < T.heap.size
    rw [e0]
    exact ⟨(CHv.at X hZ' hEL A.1).safe o3 o1, z2, o3⟩
  · show Keep s.heap T.heap wr'
    rw [e0]; exact Kp
  · show CHr Z' EL' s.vm s.heap T.vm T.heap
    rw [e0]; exact Ch
theorem Go.lreturn {k : KT} {x : Int64} (C : Ctx k l y bytes maxL (some .long) R Z a0 EL wd wr h0 Q) {pc pc' : Nat} (hd : De bytes pc .lreturn 1 pc') (hce : cells ≤ R.cells) (hsl : slots ≤ R.slots) (os' : List Addr) (ho : ∀ x ∈ os', x ∈ os ∧ h0.size ≤ x) (q : Q (some (.long x)) h os') : Go k h os cells slots pc Ls (.long x :: st) := by
  obtain ⟨p, l', e, R', s, m, args, below, meth, c, Z', EL', wd', wr', Q'⟩ := k
  obtain ⟨⟨rfl, rfl, rfl, rfl, rfl, rfl, rfl, rfl⟩, hx, hc', hml, hret, hlk, hnm, hZ, hown, hEL, hE, hwr⟩ := C
  obtain ⟨h1, rfl⟩ := hd
  intro T locs vm X e0 N S w' A Kp ow
  have hZ' : Z'.Warmed39 (s.setVm vm).vm := State.Warmed39.trans (t := s) hZ S.1
  obtain ⟨fs, hr, g1, g2, hW, hs0⟩ := X.leave (v := (some (.long x))) (fun h => by rw [hret] at h; cases h) hlk
  obtain ⟨r1, r2, r3⟩ := S.ended (U := T.setFrames fs) hW (Nat.le_of_eq (by rw [← e0]; rfl)) hs0
  have Ch := A.trans (CHv.at X hZ' hEL A.1)
  refine ⟨T.setFrames fs, _, ?_, g1, g2, (some (.long x)), locs, os', rfl, ?_, ?_, ?_, N, ?_, ⟨⟨_, rfl⟩, r1, r2, r3.mono hce hsl⟩, fun q => ⟨⟨_, rfl⟩, State.WarmedH.trans (w' q) hW, r3.mono hce hsl⟩⟩
  · exact retOut X hx hret rfl (Or.inr (Or.inl ⟨rfl, rfl, _, rfl⟩)) (hb hc' h1) hr
  · show Q' _ T.heap os'
    rw [e0]; exact q
  · intro x hx
    obtain ⟨z1, z2⟩ := ho x hx
    obtain ⟨o1, o2, o3, o4⟩ := ow x z1
    show Safe Z' EL' T.vm T.heap x ∧ s.heap.size ≤ x ∧ x < T.heap.size
    rw [e0]
    exact ⟨(CHv.at X hZ' hEL A.1).safe o3 o1, z2, o3⟩
  · show Keep s.heap T.heap wr'
    rw [e0]; exact Kp
  · show CHr Z' EL' s.vm s.heap T.vm T.heap
    rw [e0]; exact Ch
theorem Go.dreturn {k : KT} {x : UInt64} (C : Ctx k l y bytes maxL (some .double) R Z a0 EL wd wr h0 Q) {pc pc' : Nat} (hd : De bytes pc .dreturn 1 pc') (hce : cells ≤ R.cells) (hsl : slots ≤ R.slots) (os' : List Addr) (ho : ∀ x ∈ os', x ∈ os ∧ h0.size ≤ x) (q : Q (some (.double x)) h os') : Go k h os cells slots pc Ls (.double x :: st) := by
  obtain ⟨p, l', e, R', s, m, args, below, meth, c, Z', EL', wd', wr', Q'⟩ := k
  obtain ⟨⟨rfl, rfl, rfl, rfl, rfl, rfl, rfl, rfl⟩, hx, hc', hml, hret, hlk, hnm, hZ, hown, hEL, hE, hwr⟩ := C
  obtain ⟨h1, rfl⟩ := hd
  intro T locs vm X e0 N S w' A Kp ow
  have hZ' : Z'.Warmed39 (s.setVm vm).vm := State.Warmed39.trans (t := s) hZ S.1
  obtain ⟨fs, hr, g1, g2, hW, hs0⟩ := X.leave (v := (some (.double x))) (fun h => by rw [hret] at h; cases h) hlk
  obtain ⟨r1, r2, r3⟩ := S.ended (U := T.setFrames fs) hW (Nat.le_of_eq (by rw [← e0]; rfl)) hs0
  have Ch := A.trans (CHv.at X hZ' hEL A.1)
  refine ⟨T.setFrames fs, _, ?_, g1, g2, (some (.double x)), locs, os', rfl, ?_, ?_, ?_, N, ?_, ⟨⟨_, rfl⟩, r1, r2, r3.mono hce hsl⟩, fun q => ⟨⟨_, rfl⟩, State.WarmedH.trans (w' q) hW, r3.mono hce hsl⟩⟩
  · exact retOut X hx hret rfl (Or.inr (Or.inr (Or.inl ⟨rfl, rfl, _, rfl⟩))) (hb hc' h1) hr
  · show Q' _ T.heap os'
    rw [e0]; exact q
  · intro x hx
    obtain ⟨z1, z2⟩ := ho x hx
    obtain ⟨o1, o2, o3, o4⟩ := ow x z1
    show Safe Z' EL' T.vm T.heap x ∧ s.heap.size ≤ x ∧ x < T.heap.size
    rw [e0]
    exact ⟨(CHv.at X hZ' hEL A.1).safe o3 o1, z2, o3⟩
  · show Keep s.heap T.heap wr'
    rw [e0]; exact Kp
  · show CHr Z' EL' s.vm s.heap T.vm T.heap
    rw [e0]; exact Ch
theorem Go.areturn {k : KT} {v : Value} {t : FieldType} (C : Ctx k l y bytes maxL (some t) R Z a0 EL wd wr h0 Q) {pc pc' : Nat} (hd : De bytes pc .areturn 1 pc') (hce : cells ≤ R.cells) (hsl : slots ≤ R.slots) (ht : t.isReference = true) (hvr : v.isRef = true) (os' : List Addr) (ho : ∀ x ∈ os', x ∈ os ∧ h0.size ≤ x) (q : Q (some v) h os') : Go k h os cells slots pc Ls (v :: st) := by
  obtain ⟨p, l', e, R', s, m, args, below, meth, c, Z', EL', wd', wr', Q'⟩ := k
  obtain ⟨⟨rfl, rfl, rfl, rfl, rfl, rfl, rfl, rfl⟩, hx, hc', hml, hret, hlk, hnm, hZ, hown, hEL, hE, hwr⟩ := C
  obtain ⟨h1, rfl⟩ := hd
  intro T locs vm X e0 N S w' A Kp ow
  have hZ' : Z'.Warmed39 (s.setVm vm).vm := State.Warmed39.trans (t := s) hZ S.1
  obtain ⟨fs, hr, g1, g2, hW, hs0⟩ := X.leave (v := (some v)) (fun h => by rw [hret] at h; cases h) hlk
  obtain ⟨r1, r2, r3⟩ := S.ended (U := T.setFrames fs) hW (Nat.le_of_eq (by rw [← e0]; rfl)) hs0
  have Ch := A.trans (CHv.at X hZ' hEL A.1)
  refine ⟨T.setFrames fs, _, ?_, g1, g2, (some v), locs, os', rfl, ?_, ?_, ?_, N, ?_, ⟨⟨_, rfl⟩, r1, r2, r3.mono hce hsl⟩, fun q => ⟨⟨_, rfl⟩, State.WarmedH.trans (w' q) hW, r3.mono hce hsl⟩⟩
  · exact retOut X hx hret (by cases t <;> first | rfl | cases ht) (Or.inr (Or.inr (Or.inr (Or.inr ⟨rfl, ht, hvr⟩)))) (hb hc' h1) hr
  · show Q' _ T.heap os'
    rw [e0]; exact q
  · intro x hx
    obtain ⟨z1, z2⟩ := ho x hx
    obtain ⟨o1, o2, o3, o4⟩ := ow x z1
    show Safe Z' EL' T.vm T.heap x ∧ s.heap.size ≤ x ∧ x < T.heap.size
    rw [e0]
    exact ⟨(CHv.at X hZ' hEL A.1).safe o3 o1, z2, o3⟩
  · show Keep s.heap T.heap wr'
    rw [e0]; exact Kp
  · show CHr Z' EL' s.vm s.heap T.vm T.heap
    rw [e0]; exact Ch
theorem Go.retV {k : KT}  (C : Ctx k l y bytes maxL none R Z a0 EL wd wr h0 Q) {pc pc' : Nat} (hd : De bytes pc .return_ 1 pc') (hce : cells ≤ R.cells) (hsl : slots ≤ R.slots) (os' : List Addr) (ho : ∀ x ∈ os', x ∈ os ∧ h0.size ≤ x) (q : Q none h os') : Go k h os cells slots pc Ls (([] : List Value)) := by
  obtain ⟨p, l', e, R', s, m, args, below, meth, c, Z', EL', wd', wr', Q'⟩ := k
  obtain ⟨⟨rfl, rfl, rfl, rfl, rfl, rfl, rfl, rfl⟩, hx, hc', hml, hret, hlk, hnm, hZ, hown, hEL, hE, hwr⟩ := C
  obtain ⟨h1, rfl⟩ := hd
  intro T locs vm X e0 N S w' A Kp ow
  have hZ' : Z'.Warmed39 (s.setVm vm).vm := State.Warmed39.trans (t := s) hZ S.1
  obtain ⟨fs, hr, g1, g2, hW, hs0⟩ := X.leave (v := none) (fun _ => rfl) hlk
  obtain ⟨r1, r2, r3⟩ := S.ended (U := T.setFrames fs) hW (Nat.le_of_eq (by rw [← e0]; rfl)) hs0
  have Ch := A.trans (CHv.at X hZ' hEL A.1)
  refine ⟨T.setFrames fs, _, ?_, g1, g2, none, locs, os', rfl, ?_, ?_, ?_, N, ?_, ⟨⟨_, rfl⟩, r1, r2, r3.mono hce hsl⟩, fun q => ⟨⟨_, rfl⟩, State.WarmedH.trans (w' q) hW, r3.mono hce hsl⟩⟩
  · exact X.returnOut hx hret (hb hc' h1) hr
  · show Q' _ T.heap os'
    rw [e0]; exact q
  · intro x hx
    obtain ⟨z1, z2⟩ := ho x hx
    obtain ⟨o1, o2, o3, o4⟩ := ow x z1
    show Safe Z' EL' T.vm T.heap x ∧ s.heap.size ≤ x ∧ x < T.heap.size
    rw [e0]
    exact ⟨(CHv.at X hZ' hEL A.1).safe o3 o1, z2, o3⟩
  · show Keep s.heap T.heap wr'
    rw [e0]; exact Kp
  · show CHr Z' EL' s.vm s.heap T.vm T.heap
    rw [e0]; exact Ch
theorem Con.intro {ws : List Jvm.Cond} {as' : Array Value} {rm : Room} (hpl : plainFor y = true) (hEL : EW Z a0 EL) (hen : ∀ m, entryFrame m as' maxL = mkF m 0 Ls [])
    (G : ∀ k, Ctx k l y bytes maxL ret rm Z a0 EL wd wr h Q → Go k h wr 0 0 0 Ls []) : Con l Z EL wd y bytes maxL ret rm ws as' h wr Q := by
  refine MetFree.of_bodySF hpl hisR ?_
  intro p e s m args below meth c s₁ Bd hml hP hK
  obtain ⟨rfl, hZ, rfl, H, hE, hsf⟩ := hP
  have X0 : Stand p l e rm s m args below meth c s₁ [] 0 0 := Stand.of_body Bd
  have e0 : s₁.heap = s.heap := by rw [Bd.state]; rfl
  have G' := G ⟨p, l, e, rm, s, m, args, below, meth, c, Z, EL, wd, wr, Q⟩ ⟨⟨rfl, rfl, rfl, rfl, rfl, rfl, rfl, rfl⟩, Bd.exec, Bd.bytes, hml, Bd.returns, Bd.notSynchronized, (name_of_methodNamed Bd.named Bd.method).1, hZ, findClass_of_methodNamed Bd.named, hEL, hE, fun x hx => (hsf x hx).2.1⟩
    s₁ [] s.vm X0 e0 (Fr.nil _) ((State.WarmedH.refl s).since _) (fun _ => State.WarmedH.refl s) (CHr.refl H) (Keep.refl _ _) (fun x hx => ⟨(hsf x hx).1, (hsf x hx).2.1, (hsf x hx).2.2, Or.inl hx⟩)
  obtain ⟨s', o, g1, g2, g3, g4⟩ := G'
  exact ⟨s', o, castTop (hen m) g1, g2, g3, g4⟩
end Heapy
end Jvm.OwnGo
namespace Jvm.Pilot.@@N@@
open Jvm Jvm.ClassFile Sem Op Lib Jvm.Free Jvm.Stand Jvm.LawKit Jvm.RoadKit Jvm.OwnGo Bundle Jvm.Pilot.@@N@@.Jvm.D
abbrev own_EL : List (String × Nat) := [("java/lang/String", 7)]
theorem own_ite1 {P : Prop} [Decidable P] (q : ¬ ((if P then (1 : Int32) else 0) = 0)) : (if P then (1 : Int32) else 0) = 1 := by
  by_cases h : P
  · exact if_pos h
  · exact absurd (if_neg h) q
theorem own_shr0 (x : Int32) : x >>> ((0 : Int32) &&& 31) = x := by
  rw [show ((0 : Int32) &&& 31) = 0 from by decide]; exact Int32.shiftRight_zero
def own_b (c : Int32) : Int32 := c.toInt8.toInt32
def own_L (c : Int32) : Prop := ¬ c < 0 ∧ ¬ (255 : Int32) < c
def own_lat (cs : List Int32) : Prop := ∀ c ∈ cs, own_L c
theorem own_b_nar (c : Int32) : nar .byte (own_b c) = own_b c := by
  show (c.toInt8.toInt32).toInt8.toInt32 = c.toInt8.toInt32
  rw [Int8.toInt8_toInt32]
theorem own_nil {cs : List Int32} (hl : cs.length < 2147483648) (q : Int32.ofNat cs.length = 0) : cs = [] := by
  have : Int32.ofNat cs.length = Int32.ofNat 0 := q
  exact List.eq_nil_of_length_eq_zero ((nI_eq hl (by omega)).mp this)
theorem own_set {cs : List Int32} {c : Int32} {i n : Nat} (q : i + (n + 1) = cs.length) (hc : cs[i]? = some c) : (List.map Value.int ((cs.take i).map own_b ++ List.replicate (n + 1) 0)).set i (.int (own_b c)) = List.map Value.int ((cs.take (i + 1)).map own_b ++ List.replicate n 0) := by
  have hi : i < cs.length := by omega
  have ht : (cs.take i).length = i := by simp; omega
  rw [← List.map_set, List.set_append_right _ _ (by simp [ht]; omega), List.take_add_one, hc]
  simp [ht, List.replicate_succ, show min i cs.length = i by omega]
theorem own_L_int {x : Int32} (h : own_L x) : 0 ≤ x.toInt ∧ x.toInt ≤ 255 := by
  obtain ⟨h1, h2⟩ := h
  rw [Int32.lt_iff_toInt_lt] at h1 h2
  have e0 : (0 : Int32).toInt = 0 := rfl
  have e1 : (255 : Int32).toInt = 255 := rfl
  omega
theorem own_L_of {x : Int32} (h1 : 0 ≤ x.toInt) (h2 : x.toInt ≤ 255) : own_L x := by
  have e0 : (0 : Int32).toInt = 0 := rfl
  have e1 : (255 : Int32).toInt = 255 := rfl
  constructor <;> rw [Int32.lt_iff_toInt_lt] <;> omega
theorem own_c_nar (x : Int32) : nar .char (x.toUInt32.toUInt16.toUInt32.toInt32) = x.toUInt32.toUInt16.toUInt32.toInt32 := by
  obtain ⟨-, h1, h2⟩ := c_i2c x
  obtain ⟨g0, g1, g2⟩ := c_i2c (x.toUInt32.toUInt16.toUInt32.toInt32)
  exact Int32.toInt_inj.mp (by show (x.toUInt32.toUInt16.toUInt32.toInt32).toUInt32.toUInt16.toUInt32.toInt32.toInt = _; omega)
theorem own_nar_lat {x : Int32} (h : own_L x) : nar .char x = x := by
  obtain ⟨h1, h2⟩ := own_L_int h
  obtain ⟨g0, g1, g2⟩ := c_i2c x
  exact Int32.toInt_inj.mp (by show x.toUInt32.toUInt16.toUInt32.toInt32.toInt = _; omega)
theorem own_c8i {x z : Int32} (e : (x &&& (255 : Int32)).toUInt32.toUInt16.toUInt32.toInt32 = z) : own_L z := by
  subst e
  have a := c_mask x 255 8 (by decide) (by decide)
  have a' : (x &&& 255).toInt = x.toInt % 256 := a
  obtain ⟨g0, g1, g2⟩ := c_i2c (x &&& (255 : Int32))
  exact own_L_of (by omega) (by omega)
theorem own_c8 {x : Int64} {z : Int32} (e : ((x &&& (255 : Int64)).toInt32).toUInt32.toUInt16.toUInt32.toInt32 = z) : own_L z := by
  subst e
  have a := c_maskL x 255 8 (by decide) (by decide)
  have a' : (x &&& 255).toInt = x.toInt % 256 := a
  have b := c_l2i (x &&& 255)
  obtain ⟨g0, g1, g2⟩ := c_i2c ((x &&& (255 : Int64)).toInt32)
  have r := rng32 ((x &&& (255 : Int64)).toInt32)
  exact own_L_of (by omega) (by omega)
theorem own_lat2 {p q : Int32} (h1 : own_L p) (h2 : own_L q) : own_lat [p, q] := fun c hc => by
  simp only [List.mem_cons, List.not_mem_nil, or_false] at hc
  rcases hc with rfl | rfl
  · exact h1
  · exact h2
theorem own_b_inj {x y : Int32} (hx : own_L x) (hy : own_L y) (e : own_b x = own_b y) : x = y := by
  obtain ⟨a1, a2⟩ := own_L_int hx
  obtain ⟨b1, b2⟩ := own_L_int hy
  obtain ⟨c1, -, -⟩ := c_i2b x
  obtain ⟨d1, -, -⟩ := c_i2b y
  have e' : x.toInt8.toInt32.toInt = y.toInt8.toInt32.toInt := congrArg Int32.toInt e
  exact Int32.toInt_inj.mp (by omega)
theorem own_it0 {P : Prop} [Decidable P] (h : (if P then (1 : Int32) else 0) = 0) : ¬ P := fun q => by rw [if_pos q] at h; exact absurd h (by decide)
theorem own_it1 {P : Prop} [Decidable P] (h : ¬ ((if P then (1 : Int32) else 0) = 0)) : P := Decidable.byContradiction fun q => h (if_neg q)
theorem own_bv {x : Int32} (h : own_L x) : x.toBitVec.toNat < 256 := by
  obtain ⟨h1, h2⟩ := own_L_int h
  have e : x.toInt = x.toBitVec.toInt := rfl
  rw [BitVec.toInt_eq_toNat_cond] at e
  split at e <;> omega
theorem own_xor {a d : Int32} (ha : own_L a) (hd : own_L d) : own_L (a ^^^ d) := by
  have h1 := own_bv ha
  have h2 := own_bv hd
  have e : (a ^^^ d).toInt = (a ^^^ d).toBitVec.toInt := rfl
  have e2 : (a ^^^ d).toBitVec.toNat < 256 := by
    rw [Int32.toBitVec_xor, BitVec.toNat_xor]
    exact Nat.xor_lt_two_pow (n := 8) h1 h2
  rw [BitVec.toInt_eq_toNat_cond] at e
  split at e
  · exact own_L_of (by omega) (by omega)
  · omega
theorem own_cx {a d z : Int32} (ha : own_L a) (hd : own_L d) (e : (a ^^^ d).toUInt32.toUInt16.toUInt32.toInt32 = z) : own_L z := by
  subst e
  have h := own_xor ha hd
  have q := own_nar_lat h
  show own_L (nar .char (a ^^^ d))
  rw [q]; exact h
def own_dl (m b : Int32) (q : Int64) (s : Int32) : Int32 := if (((m.toUInt32 >>> (b &&& 31).toUInt32).toInt32) &&& (1 : Int32)) = 0 then (0 : Int32) else (((((q.toUInt64 >>> (s &&& 0x3f).toInt64.toUInt64).toInt64) &&& (255 : Int64)).toInt32).toUInt32.toUInt16.toUInt32.toInt32)
theorem own_dl_lat (m b : Int32) (q : Int64) (s : Int32) : own_L (own_dl m b q s) := by
  unfold own_dl
  split
  · exact own_L_of (by decide) (by decide)
  · exact own_c8 rfl
def own_mk (n p q : Int32) : List Int32 := if n = 0 then [] else if n = 1 then [p] else [p, q]
theorem own_mk0 {n p q : Int32} (h : n = 0) : own_mk n p q = [] := if_pos h
theorem own_mk1 {n p q : Int32} (h : ¬ n = 0) (h1 : n = 1) : own_mk n p q = [p] := (if_neg h).trans (if_pos h1)
theorem own_mk2 {n p q : Int32} (h : ¬ n = 0) (h1 : ¬ n = 1) : own_mk n p q = [p, q] := (if_neg h).trans (if_neg h1)
abbrev own_same (n p q n' p' q' : Int32) : Prop := n = n' ∧ (n < 1 ∨ p = p') ∧ (n < 2 ∨ q = q')
theorem own_key {n n' p q p' q' : Int32} (h : own_lat [p, q]) (h' : own_lat [p', q']) (hn : n = 0 ∨ n = 1 ∨ n = 2) (hn' : n' = 0 ∨ n' = 1 ∨ n' = 2) : (List.map own_b (own_mk n p q) = List.map own_b (own_mk n' p' q')) ↔ own_same n p q n' p' q' := by
  have hp : own_L p := h p (by simp)
  have hq : own_L q := h q (by simp)
  have hp' : own_L p' := h' p' (by simp)
  have hq' : own_L q' := h' q' (by simp)
  have i1 : own_b p = own_b p' ↔ p = p' := ⟨own_b_inj hp hp', fun e => by rw [e]⟩
  have i2 : own_b q = own_b q' ↔ q = q' := ⟨own_b_inj hq hq', fun e => by rw [e]⟩
  rcases hn with rfl | rfl | rfl <;> rcases hn' with rfl | rfl | rfl <;> simp [own_mk, own_same, i1, i2, show ¬ ((1 : Int32) < 1) by decide, show (1 : Int32) < 2 by decide, show ¬ ((2 : Int32) < 1) by decide, show ¬ ((2 : Int32) < 2) by decide, show (0 : Int32) < 1 by decide, show (0 : Int32) < 2 by decide]
theorem own_m3 {x z : Int32} (e : ((x &&& (3 : Int32)) % (3 : Int32)) = z) : z = 0 ∨ z = 1 ∨ z = 2 := by
  subst e
  have a := c_mask x 3 2 (by decide) (by decide)
  have a' : (x &&& 3).toInt = x.toInt % 4 := a
  have b := (c_irem (x &&& 3) 3 3 rfl).1 (by omega)
  have c : ((x &&& 3) % 3).toInt = 0 ∨ ((x &&& 3) % 3).toInt = 1 ∨ ((x &&& 3) % 3).toInt = 2 := by omega
  rcases c with c | c | c
  · exact Or.inl (Int32.toInt_inj.mp c)
  · exact Or.inr (Or.inl (Int32.toInt_inj.mp c))
  · exact Or.inr (Or.inr (Int32.toInt_inj.mp c))
abbrev y_11 : MethodName := ⟨"com/example/text_span_search/textspansearch/trec/Topic", "equals", "(Ljava/lang/Object;)Z"⟩
abbrev y_10 : MethodName := ⟨"com/example/text_span_search/textspansearch/trec/TopicEqualsPinLaw", "same", "(ICCICC)Z"⟩
abbrev y_9 : MethodName := ⟨"com/example/text_span_search/textspansearch/trec/Topic", "<init>", "(Ljava/lang/String;Ljava/lang/String;)V"⟩
abbrev y_8 : MethodName := ⟨"com/example/text_span_search/textspansearch/trec/TopicEqualsPinLaw", "mk", "(ICC)Ljava/lang/String;"⟩
abbrev y_7 : MethodName := ⟨"com/example/text_span_search/textspansearch/trec/TopicEqualsPinLaw", "dl", "(IIJI)C"⟩
abbrev y_6 : MethodName := ⟨"java/lang/String", "equals", "(Ljava/lang/Object;)Z"⟩
abbrev y_5 : MethodName := ⟨"java/lang/StringLatin1", "equals", "([B[B)Z"⟩
abbrev y_4 : MethodName := ⟨"java/lang/String", "<init>", "([C)V"⟩
abbrev y_3 : MethodName := ⟨"java/lang/String", "<init>", "([CIILjava/lang/Void;)V"⟩
abbrev y_2 : MethodName := ⟨"java/lang/StringUTF16", "coderFromArrayLen", "([BI)B"⟩
abbrev y_1 : MethodName := ⟨"java/lang/StringUTF16", "compress", "([CII)[B"⟩
abbrev y_0 : MethodName := ⟨"java/lang/StringUTF16", "compress", "([CI[BII)I"⟩
theorem d0_0 : De code 0 (.iload_n 0) 1 1 := ⟨by decide +kernel, rfl⟩
theorem d0_1 : De code 1 (.ldc 7) 2 3 := ⟨by decide +kernel, rfl⟩
theorem d0_3 : De code 3 (.iand) 1 4 := ⟨by decide +kernel, rfl⟩
theorem d0_4 : De code 4 (.iconst 4) 1 5 := ⟨by decide +kernel, rfl⟩
theorem d0_5 : De code 5 (.irem) 1 6 := ⟨by decide +kernel, rfl⟩
theorem d0_6 : De code 6 (.istore 5) 2 8 := ⟨by decide +kernel, rfl⟩
theorem d0_8 : De code 8 (.iload_n 0) 1 9 := ⟨by decide +kernel, rfl⟩
theorem d0_9 : De code 9 (.iconst 2) 1 10 := ⟨by decide +kernel, rfl⟩
theorem d0_10 : De code 10 (.iushr) 1 11 := ⟨by decide +kernel, rfl⟩
theorem d0_11 : De code 11 (.iconst 3) 1 12 := ⟨by decide +kernel, rfl⟩
theorem d0_12 : De code 12 (.iand) 1 13 := ⟨by decide +kernel, rfl⟩
theorem d0_13 : De code 13 (.iconst 3) 1 14 := ⟨by decide +kernel, rfl⟩
theorem d0_14 : De code 14 (.irem) 1 15 := ⟨by decide +kernel, rfl⟩
theorem d0_15 : De code 15 (.istore 6) 2 17 := ⟨by decide +kernel, rfl⟩
theorem d0_17 : De code 17 (.iload_n 0) 1 18 := ⟨by decide +kernel, rfl⟩
theorem d0_18 : De code 18 (.iconst 4) 1 19 := ⟨by decide +kernel, rfl⟩
theorem d0_19 : De code 19 (.iushr) 1 20 := ⟨by decide +kernel, rfl⟩
theorem d0_20 : De code 20 (.iconst 3) 1 21 := ⟨by decide +kernel, rfl⟩
theorem d0_21 : De code 21 (.iand) 1 22 := ⟨by decide +kernel, rfl⟩
theorem d0_22 : De code 22 (.iconst 3) 1 23 := ⟨by decide +kernel, rfl⟩
theorem d0_23 : De code 23 (.irem) 1 24 := ⟨by decide +kernel, rfl⟩
theorem d0_24 : De code 24 (.istore 7) 2 26 := ⟨by decide +kernel, rfl⟩
theorem d0_26 : De code 26 (.iload_n 0) 1 27 := ⟨by decide +kernel, rfl⟩
theorem d0_27 : De code 27 (.bipush 6) 2 29 := ⟨by decide +kernel, rfl⟩
theorem d0_29 : De code 29 (.iushr) 1 30 := ⟨by decide +kernel, rfl⟩
theorem d0_30 : De code 30 (.iconst 3) 1 31 := ⟨by decide +kernel, rfl⟩
theorem d0_31 : De code 31 (.iand) 1 32 := ⟨by decide +kernel, rfl⟩
theorem d0_32 : De code 32 (.iconst 3) 1 33 := ⟨by decide +kernel, rfl⟩
theorem d0_33 : De code 33 (.irem) 1 34 := ⟨by decide +kernel, rfl⟩
theorem d0_34 : De code 34 (.istore 8) 2 36 := ⟨by decide +kernel, rfl⟩
theorem d0_36 : De code 36 (.iload_n 0) 1 37 := ⟨by decide +kernel, rfl⟩
theorem d0_37 : De code 37 (.bipush 8) 2 39 := ⟨by decide +kernel, rfl⟩
theorem d0_39 : De code 39 (.iushr) 1 40 := ⟨by decide +kernel, rfl⟩
theorem d0_40 : De code 40 (.iconst 3) 1 41 := ⟨by decide +kernel, rfl⟩
theorem d0_41 : De code 41 (.iand) 1 42 := ⟨by decide +kernel, rfl⟩
theorem d0_42 : De code 42 (.iconst 3) 1 43 := ⟨by decide +kernel, rfl⟩
theorem d0_43 : De code 43 (.irem) 1 44 := ⟨by decide +kernel, rfl⟩
theorem d0_44 : De code 44 (.istore 9) 2 46 := ⟨by decide +kernel, rfl⟩
theorem d0_46 : De code 46 (.lload_n 1) 1 47 := ⟨by decide +kernel, rfl⟩
theorem d0_47 : De code 47 (.ldc2_w 8) 3 50 := ⟨by decide +kernel, rfl⟩
theorem d0_50 : De code 50 (.land) 1 51 := ⟨by decide +kernel, rfl⟩
theorem d0_51 : De code 51 (.l2i) 1 52 := ⟨by decide +kernel, rfl⟩
theorem d0_52 : De code 52 (.i2c) 1 53 := ⟨by decide +kernel, rfl⟩
theorem d0_53 : De code 53 (.istore 10) 2 55 := ⟨by decide +kernel, rfl⟩
theorem d0_55 : De code 55 (.lload_n 1) 1 56 := ⟨by decide +kernel, rfl⟩
theorem d0_56 : De code 56 (.bipush 8) 2 58 := ⟨by decide +kernel, rfl⟩
theorem d0_58 : De code 58 (.lushr) 1 59 := ⟨by decide +kernel, rfl⟩
theorem d0_59 : De code 59 (.ldc2_w 8) 3 62 := ⟨by decide +kernel, rfl⟩
theorem d0_62 : De code 62 (.land) 1 63 := ⟨by decide +kernel, rfl⟩
theorem d0_63 : De code 63 (.l2i) 1 64 := ⟨by decide +kernel, rfl⟩
theorem d0_64 : De code 64 (.i2c) 1 65 := ⟨by decide +kernel, rfl⟩
theorem d0_65 : De code 65 (.istore 11) 2 67 := ⟨by decide +kernel, rfl⟩
theorem d0_67 : De code 67 (.lload_n 1) 1 68 := ⟨by decide +kernel, rfl⟩
theorem d0_68 : De code 68 (.bipush 16) 2 70 := ⟨by decide +kernel, rfl⟩
theorem d0_70 : De code 70 (.lushr) 1 71 := ⟨by decide +kernel, rfl⟩
theorem d0_71 : De code 71 (.ldc2_w 8) 3 74 := ⟨by decide +kernel, rfl⟩
theorem d0_74 : De code 74 (.land) 1 75 := ⟨by decide +kernel, rfl⟩
theorem d0_75 : De code 75 (.l2i) 1 76 := ⟨by decide +kernel, rfl⟩
theorem d0_76 : De code 76 (.i2c) 1 77 := ⟨by decide +kernel, rfl⟩
theorem d0_77 : De code 77 (.istore 12) 2 79 := ⟨by decide +kernel, rfl⟩
theorem d0_79 : De code 79 (.lload_n 1) 1 80 := ⟨by decide +kernel, rfl⟩
theorem d0_80 : De code 80 (.bipush 24) 2 82 := ⟨by decide +kernel, rfl⟩
theorem d0_82 : De code 82 (.lushr) 1 83 := ⟨by decide +kernel, rfl⟩
theorem d0_83 : De code 83 (.ldc2_w 8) 3 86 := ⟨by decide +kernel, rfl⟩
theorem d0_86 : De code 86 (.land) 1 87 := ⟨by decide +kernel, rfl⟩
theorem d0_87 : De code 87 (.l2i) 1 88 := ⟨by decide +kernel, rfl⟩
theorem d0_88 : De code 88 (.i2c) 1 89 := ⟨by decide +kernel, rfl⟩
theorem d0_89 : De code 89 (.istore 13) 2 91 := ⟨by decide +kernel, rfl⟩
theorem d0_91 : De code 91 (.iload 10) 2 93 := ⟨by decide +kernel, rfl⟩
theorem d0_93 : De code 93 (.iload_n 0) 1 94 := ⟨by decide +kernel, rfl⟩
theorem d0_94 : De code 94 (.bipush 10) 2 96 := ⟨by decide +kernel, rfl⟩
theorem d0_96 : De code 96 (.lload_n 3) 1 97 := ⟨by decide +kernel, rfl⟩
theorem d0_97 : De code 97 (.iconst 0) 1 98 := ⟨by decide +kernel, rfl⟩
theorem d0_98 : De code 98 (.invokestatic 10) 3 101 := ⟨by decide +kernel, rfl⟩
theorem d0_101 : De code 101 (.ixor) 1 102 := ⟨by decide +kernel, rfl⟩
theorem d0_102 : De code 102 (.i2c) 1 103 := ⟨by decide +kernel, rfl⟩
theorem d0_103 : De code 103 (.istore 14) 2 105 := ⟨by decide +kernel, rfl⟩
theorem d0_105 : De code 105 (.iload 11) 2 107 := ⟨by decide +kernel, rfl⟩
theorem d0_107 : De code 107 (.iload_n 0) 1 108 := ⟨by decide +kernel, rfl⟩
theorem d0_108 : De code 108 (.bipush 11) 2 110 := ⟨by decide +kernel, rfl⟩
theorem d0_110 : De code 110 (.lload_n 3) 1 111 := ⟨by decide +kernel, rfl⟩
theorem d0_111 : De code 111 (.bipush 8) 2 113 := ⟨by decide +kernel, rfl⟩
theorem d0_113 : De code 113 (.invokestatic 10) 3 116 := ⟨by decide +kernel, rfl⟩
theorem d0_116 : De code 116 (.ixor) 1 117 := ⟨by decide +kernel, rfl⟩
theorem d0_117 : De code 117 (.i2c) 1 118 := ⟨by decide +kernel, rfl⟩
theorem d0_118 : De code 118 (.istore 15) 2 120 := ⟨by decide +kernel, rfl⟩
theorem d0_120 : De code 120 (.iload 12) 2 122 := ⟨by decide +kernel, rfl⟩
theorem d0_122 : De code 122 (.iload_n 0) 1 123 := ⟨by decide +kernel, rfl⟩
theorem d0_123 : De code 123 (.bipush 12) 2 125 := ⟨by decide +kernel, rfl⟩
theorem d0_125 : De code 125 (.lload_n 3) 1 126 := ⟨by decide +kernel, rfl⟩
theorem d0_126 : De code 126 (.bipush 16) 2 128 := ⟨by decide +kernel, rfl⟩
theorem d0_128 : De code 128 (.invokestatic 10) 3 131 := ⟨by decide +kernel, rfl⟩
theorem d0_131 : De code 131 (.ixor) 1 132 := ⟨by decide +kernel, rfl⟩
theorem d0_132 : De code 132 (.i2c) 1 133 := ⟨by decide +kernel, rfl⟩
theorem d0_133 : De code 133 (.istore 16) 2 135 := ⟨by decide +kernel, rfl⟩
theorem d0_135 : De code 135 (.iload 13) 2 137 := ⟨by decide +kernel, rfl⟩
theorem d0_137 : De code 137 (.iload_n 0) 1 138 := ⟨by decide +kernel, rfl⟩
theorem d0_138 : De code 138 (.bipush 13) 2 140 := ⟨by decide +kernel, rfl⟩
theorem d0_140 : De code 140 (.lload_n 3) 1 141 := ⟨by decide +kernel, rfl⟩
theorem d0_141 : De code 141 (.bipush 24) 2 143 := ⟨by decide +kernel, rfl⟩
theorem d0_143 : De code 143 (.invokestatic 10) 3 146 := ⟨by decide +kernel, rfl⟩
theorem d0_146 : De code 146 (.ixor) 1 147 := ⟨by decide +kernel, rfl⟩
theorem d0_147 : De code 147 (.i2c) 1 148 := ⟨by decide +kernel, rfl⟩
theorem d0_148 : De code 148 (.istore 17) 2 150 := ⟨by decide +kernel, rfl⟩
theorem d0_150 : De code 150 (.iload 6) 2 152 := ⟨by decide +kernel, rfl⟩
theorem d0_152 : De code 152 (.iload 10) 2 154 := ⟨by decide +kernel, rfl⟩
theorem d0_154 : De code 154 (.iload 11) 2 156 := ⟨by decide +kernel, rfl⟩
theorem d0_156 : De code 156 (.invokestatic 16) 3 159 := ⟨by decide +kernel, rfl⟩
theorem d0_159 : De code 159 (.astore 18) 2 161 := ⟨by decide +kernel, rfl⟩
theorem d0_161 : De code 161 (.iload 7) 2 163 := ⟨by decide +kernel, rfl⟩
theorem d0_163 : De code 163 (.iload 12) 2 165 := ⟨by decide +kernel, rfl⟩
theorem d0_165 : De code 165 (.iload 13) 2 167 := ⟨by decide +kernel, rfl⟩
theorem d0_167 : De code 167 (.invokestatic 16) 3 170 := ⟨by decide +kernel, rfl⟩
theorem d0_170 : De code 170 (.astore 19) 2 172 := ⟨by decide +kernel, rfl⟩
theorem d0_172 : De code 172 (.iload 8) 2 174 := ⟨by decide +kernel, rfl⟩
theorem d0_174 : De code 174 (.iload 14) 2 176 := ⟨by decide +kernel, rfl⟩
theorem d0_176 : De code 176 (.iload 15) 2 178 := ⟨by decide +kernel, rfl⟩
theorem d0_178 : De code 178 (.invokestatic 16) 3 181 := ⟨by decide +kernel, rfl⟩
theorem d0_181 : De code 181 (.astore 20) 2 183 := ⟨by decide +kernel, rfl⟩
theorem d0_183 : De code 183 (.iload 9) 2 185 := ⟨by decide +kernel, rfl⟩
theorem d0_185 : De code 185 (.iload 16) 2 187 := ⟨by decide +kernel, rfl⟩
theorem d0_187 : De code 187 (.iload 17) 2 189 := ⟨by decide +kernel, rfl⟩
theorem d0_189 : De code 189 (.invokestatic 16) 3 192 := ⟨by decide +kernel, rfl⟩
theorem d0_192 : De code 192 (.astore 21) 2 194 := ⟨by decide +kernel, rfl⟩
theorem d0_194 : De code 194 (.new 20) 3 197 := ⟨by decide +kernel, rfl⟩
theorem d0_197 : De code 197 (.dup) 1 198 := ⟨by decide +kernel, rfl⟩
theorem d0_198 : De code 198 (.aload 18) 2 200 := ⟨by decide +kernel, rfl⟩
theorem d0_200 : De code 200 (.aload 19) 2 202 := ⟨by decide +kernel, rfl⟩
theorem d0_202 : De code 202 (.invokespecial 22) 3 205 := ⟨by decide +kernel, rfl⟩
theorem d0_205 : De code 205 (.astore 22) 2 207 := ⟨by decide +kernel, rfl⟩
theorem d0_207 : De code 207 (.new 20) 3 210 := ⟨by decide +kernel, rfl⟩
theorem d0_210 : De code 210 (.dup) 1 211 := ⟨by decide +kernel, rfl⟩
theorem d0_211 : De code 211 (.aload 20) 2 213 := ⟨by decide +kernel, rfl⟩
theorem d0_213 : De code 213 (.aload 21) 2 215 := ⟨by decide +kernel, rfl⟩
theorem d0_215 : De code 215 (.invokespecial 22) 3 218 := ⟨by decide +kernel, rfl⟩
theorem d0_218 : De code 218 (.astore 23) 2 220 := ⟨by decide +kernel, rfl⟩
theorem d0_220 : De code 220 (.iload 5) 2 222 := ⟨by decide +kernel, rfl⟩
theorem d0_222 : De code 222 (.iconst 1) 1 223 := ⟨by decide +kernel, rfl⟩
theorem d0_223 : DeJ code 223 (.if_icmp .ne) 226 241 := ⟨18, by decide +kernel, rfl, by decide, by decide⟩
theorem d0_226 : De code 226 (.aload 22) 2 228 := ⟨by decide +kernel, rfl⟩
theorem d0_228 : De code 228 (.aconst_null) 1 229 := ⟨by decide +kernel, rfl⟩
theorem d0_229 : De code 229 (.invokevirtual 25) 3 232 := ⟨by decide +kernel, rfl⟩
theorem d0_232 : DeJ code 232 (.ifCond .ne) 235 239 := ⟨7, by decide +kernel, rfl, by decide, by decide⟩
theorem d0_235 : De code 235 (.iconst 1) 1 236 := ⟨by decide +kernel, rfl⟩
theorem d0_236 : DeJ code 236 .goto 239 240 := ⟨4, by decide +kernel, rfl, by decide, by decide⟩
theorem d0_240 : De code 240 (.ireturn) 1 241 := ⟨by decide +kernel, rfl⟩
theorem d0_241 : De code 241 (.iload 5) 2 243 := ⟨by decide +kernel, rfl⟩
theorem d0_243 : De code 243 (.iconst 2) 1 244 := ⟨by decide +kernel, rfl⟩
theorem d0_244 : DeJ code 244 (.if_icmp .ne) 247 263 := ⟨19, by decide +kernel, rfl, by decide, by decide⟩
theorem d0_247 : De code 247 (.aload 22) 2 249 := ⟨by decide +kernel, rfl⟩
theorem d0_249 : De code 249 (.aload 18) 2 251 := ⟨by decide +kernel, rfl⟩
theorem d0_251 : De code 251 (.invokevirtual 25) 3 254 := ⟨by decide +kernel, rfl⟩
theorem d0_254 : DeJ code 254 (.ifCond .ne) 257 261 := ⟨7, by decide +kernel, rfl, by decide, by decide⟩
theorem d0_257 : De code 257 (.iconst 1) 1 258 := ⟨by decide +kernel, rfl⟩
theorem d0_258 : DeJ code 258 .goto 261 262 := ⟨4, by decide +kernel, rfl, by decide, by decide⟩
theorem d0_262 : De code 262 (.ireturn) 1 263 := ⟨by decide +kernel, rfl⟩
theorem d0_263 : De code 263 (.iload 5) 2 265 := ⟨by decide +kernel, rfl⟩
theorem d0_265 : De code 265 (.iconst 3) 1 266 := ⟨by decide +kernel, rfl⟩
theorem d0_266 : DeJ code 266 (.if_icmp .ne) 269 277 := ⟨11, by decide +kernel, rfl, by decide, by decide⟩
theorem d0_269 : De code 269 (.aload 22) 2 271 := ⟨by decide +kernel, rfl⟩
theorem d0_271 : De code 271 (.aload 22) 2 273 := ⟨by decide +kernel, rfl⟩
theorem d0_273 : De code 273 (.invokevirtual 25) 3 276 := ⟨by decide +kernel, rfl⟩
theorem d0_276 : De code 276 (.ireturn) 1 277 := ⟨by decide +kernel, rfl⟩
theorem d0_277 : De code 277 (.iload 6) 2 279 := ⟨by decide +kernel, rfl⟩
theorem d0_279 : De code 279 (.iload 10) 2 281 := ⟨by decide +kernel, rfl⟩
theorem d0_281 : De code 281 (.iload 11) 2 283 := ⟨by decide +kernel, rfl⟩
theorem d0_283 : De code 283 (.iload 8) 2 285 := ⟨by decide +kernel, rfl⟩
theorem d0_285 : De code 285 (.iload 14) 2 287 := ⟨by decide +kernel, rfl⟩
theorem d0_287 : De code 287 (.iload 15) 2 289 := ⟨by decide +kernel, rfl⟩
theorem d0_289 : De code 289 (.invokestatic 29) 3 292 := ⟨by decide +kernel, rfl⟩
theorem d0_292 : DeJ code 292 (.ifCond .eq) 295 317 := ⟨25, by decide +kernel, rfl, by decide, by decide⟩
theorem d0_295 : De code 295 (.iload 7) 2 297 := ⟨by decide +kernel, rfl⟩
theorem d0_297 : De code 297 (.iload 12) 2 299 := ⟨by decide +kernel, rfl⟩
theorem d0_299 : De code 299 (.iload 13) 2 301 := ⟨by decide +kernel, rfl⟩
theorem d0_301 : De code 301 (.iload 9) 2 303 := ⟨by decide +kernel, rfl⟩
theorem d0_303 : De code 303 (.iload 16) 2 305 := ⟨by decide +kernel, rfl⟩
theorem d0_305 : De code 305 (.iload 17) 2 307 := ⟨by decide +kernel, rfl⟩
theorem d0_307 : De code 307 (.invokestatic 29) 3 310 := ⟨by decide +kernel, rfl⟩
theorem d0_310 : DeJ code 310 (.ifCond .eq) 313 317 := ⟨7, by decide +kernel, rfl, by decide, by decide⟩
theorem d0_313 : De code 313 (.iconst 1) 1 314 := ⟨by decide +kernel, rfl⟩
theorem d0_314 : DeJ code 314 .goto 317 318 := ⟨4, by decide +kernel, rfl, by decide, by decide⟩
theorem d0_317 : De code 317 (.iconst 0) 1 318 := ⟨by decide +kernel, rfl⟩
theorem d0_318 : De code 318 (.istore 24) 2 320 := ⟨by decide +kernel, rfl⟩
theorem d0_320 : De code 320 (.aload 22) 2 322 := ⟨by decide +kernel, rfl⟩
theorem d0_322 : De code 322 (.aload 23) 2 324 := ⟨by decide +kernel, rfl⟩
theorem d0_324 : De code 324 (.invokevirtual 25) 3 327 := ⟨by decide +kernel, rfl⟩
theorem d0_327 : De code 327 (.iload 24) 2 329 := ⟨by decide +kernel, rfl⟩
theorem d0_329 : DeJ code 329 (.if_icmp .ne) 332 348 := ⟨19, by decide +kernel, rfl, by decide, by decide⟩
theorem d0_332 : De code 332 (.aload 23) 2 334 := ⟨by decide +kernel, rfl⟩
theorem d0_334 : De code 334 (.aload 22) 2 336 := ⟨by decide +kernel, rfl⟩
theorem d0_336 : De code 336 (.invokevirtual 25) 3 339 := ⟨by decide +kernel, rfl⟩
theorem d0_339 : De code 339 (.iload 24) 2 341 := ⟨by decide +kernel, rfl⟩
theorem d0_341 : DeJ code 341 (.if_icmp .ne) 344 348 := ⟨7, by decide +kernel, rfl, by decide, by decide⟩
theorem d0_344 : De code 344 (.iconst 1) 1 345 := ⟨by decide +kernel, rfl⟩
theorem d0_345 : DeJ code 345 .goto 348 349 := ⟨4, by decide +kernel, rfl, by decide, by decide⟩
theorem d0_349 : De code 349 (.ireturn) 1 350 := ⟨by decide +kernel, rfl⟩
theorem d1_0 : De method_3_code 0 (.iload_n 0) 1 1 := ⟨by decide +kernel, rfl⟩
theorem d1_1 : De method_3_code 1 (.iload_n 1) 1 2 := ⟨by decide +kernel, rfl⟩
theorem d1_2 : De method_3_code 2 (.iushr) 1 3 := ⟨by decide +kernel, rfl⟩
theorem d1_3 : De method_3_code 3 (.iconst 1) 1 4 := ⟨by decide +kernel, rfl⟩
theorem d1_4 : De method_3_code 4 (.iand) 1 5 := ⟨by decide +kernel, rfl⟩
theorem d1_5 : DeJ method_3_code 5 (.ifCond .ne) 8 10 := ⟨5, by decide +kernel, rfl, by decide, by decide⟩
theorem d1_8 : De method_3_code 8 (.iconst 0) 1 9 := ⟨by decide +kernel, rfl⟩
theorem d1_9 : De method_3_code 9 (.ireturn) 1 10 := ⟨by decide +kernel, rfl⟩
theorem d1_10 : De method_3_code 10 (.lload_n 2) 1 11 := ⟨by decide +kernel, rfl⟩
theorem d1_11 : De method_3_code 11 (.iload 4) 2 13 := ⟨by decide +kernel, rfl⟩
theorem d1_13 : De method_3_code 13 (.lushr) 1 14 := ⟨by decide +kernel, rfl⟩
theorem d1_14 : De method_3_code 14 (.ldc2_w 8) 3 17 := ⟨by decide +kernel, rfl⟩
theorem d1_17 : De method_3_code 17 (.land) 1 18 := ⟨by decide +kernel, rfl⟩
theorem d1_18 : De method_3_code 18 (.l2i) 1 19 := ⟨by decide +kernel, rfl⟩
theorem d1_19 : De method_3_code 19 (.i2c) 1 20 := ⟨by decide +kernel, rfl⟩
theorem d1_20 : De method_3_code 20 (.ireturn) 1 21 := ⟨by decide +kernel, rfl⟩
theorem d2_0 : De method_4_code 0 (.iload_n 0) 1 1 := ⟨by decide +kernel, rfl⟩
theorem d2_1 : DeJ method_4_code 1 (.ifCond .ne) 4 15 := ⟨14, by decide +kernel, rfl, by decide, by decide⟩
theorem d2_4 : De method_4_code 4 (.new 33) 3 7 := ⟨by decide +kernel, rfl⟩
theorem d2_7 : De method_4_code 7 (.dup) 1 8 := ⟨by decide +kernel, rfl⟩
theorem d2_8 : De method_4_code 8 (.iconst 0) 1 9 := ⟨by decide +kernel, rfl⟩
theorem d2_9 : De method_4_code 9 (.newarray .char) 2 11 := ⟨by decide +kernel, rfl⟩
theorem d2_11 : De method_4_code 11 (.invokespecial 35) 3 14 := ⟨by decide +kernel, rfl⟩
theorem d2_14 : De method_4_code 14 (.areturn) 1 15 := ⟨by decide +kernel, rfl⟩
theorem d2_15 : De method_4_code 15 (.iload_n 0) 1 16 := ⟨by decide +kernel, rfl⟩
theorem d2_16 : De method_4_code 16 (.iconst 1) 1 17 := ⟨by decide +kernel, rfl⟩
theorem d2_17 : DeJ method_4_code 17 (.if_icmp .ne) 20 37 := ⟨20, by decide +kernel, rfl, by decide, by decide⟩
theorem d2_20 : De method_4_code 20 (.iconst 1) 1 21 := ⟨by decide +kernel, rfl⟩
theorem d2_21 : De method_4_code 21 (.newarray .char) 2 23 := ⟨by decide +kernel, rfl⟩
theorem d2_23 : De method_4_code 23 (.astore_n 3) 1 24 := ⟨by decide +kernel, rfl⟩
theorem d2_24 : De method_4_code 24 (.aload_n 3) 1 25 := ⟨by decide +kernel, rfl⟩
theorem d2_25 : De method_4_code 25 (.iconst 0) 1 26 := ⟨by decide +kernel, rfl⟩
theorem d2_26 : De method_4_code 26 (.iload_n 1) 1 27 := ⟨by decide +kernel, rfl⟩
theorem d2_27 : De method_4_code 27 (.castore) 1 28 := ⟨by decide +kernel, rfl⟩
theorem d2_28 : De method_4_code 28 (.new 33) 3 31 := ⟨by decide +kernel, rfl⟩
theorem d2_31 : De method_4_code 31 (.dup) 1 32 := ⟨by decide +kernel, rfl⟩
theorem d2_32 : De method_4_code 32 (.aload_n 3) 1 33 := ⟨by decide +kernel, rfl⟩
theorem d2_33 : De method_4_code 33 (.invokespecial 35) 3 36 := ⟨by decide +kernel, rfl⟩
theorem d2_36 : De method_4_code 36 (.areturn) 1 37 := ⟨by decide +kernel, rfl⟩
theorem d2_37 : De method_4_code 37 (.iconst 2) 1 38 := ⟨by decide +kernel, rfl⟩
theorem d2_38 : De method_4_code 38 (.newarray .char) 2 40 := ⟨by decide +kernel, rfl⟩
theorem d2_40 : De method_4_code 40 (.astore_n 3) 1 41 := ⟨by decide +kernel, rfl⟩
theorem d2_41 : De method_4_code 41 (.aload_n 3) 1 42 := ⟨by decide +kernel, rfl⟩
theorem d2_42 : De method_4_code 42 (.iconst 0) 1 43 := ⟨by decide +kernel, rfl⟩
theorem d2_43 : De method_4_code 43 (.iload_n 1) 1 44 := ⟨by decide +kernel, rfl⟩
theorem d2_44 : De method_4_code 44 (.castore) 1 45 := ⟨by decide +kernel, rfl⟩
theorem d2_45 : De method_4_code 45 (.aload_n 3) 1 46 := ⟨by decide +kernel, rfl⟩
theorem d2_46 : De method_4_code 46 (.iconst 1) 1 47 := ⟨by decide +kernel, rfl⟩
theorem d2_47 : De method_4_code 47 (.iload_n 2) 1 48 := ⟨by decide +kernel, rfl⟩
theorem d2_48 : De method_4_code 48 (.castore) 1 49 := ⟨by decide +kernel, rfl⟩
theorem d2_49 : De method_4_code 49 (.new 33) 3 52 := ⟨by decide +kernel, rfl⟩
theorem d2_52 : De method_4_code 52 (.dup) 1 53 := ⟨by decide +kernel, rfl⟩
theorem d2_53 : De method_4_code 53 (.aload_n 3) 1 54 := ⟨by decide +kernel, rfl⟩
theorem d2_54 : De method_4_code 54 (.invokespecial 35) 3 57 := ⟨by decide +kernel, rfl⟩
theorem d2_57 : De method_4_code 57 (.areturn) 1 58 := ⟨by decide +kernel, rfl⟩
theorem d3_0 : De jdk_42_method_3_code 0 (.aload_n 0) 1 1 := ⟨by decide +kernel, rfl⟩
theorem d3_1 : De jdk_42_method_3_code 1 (.aload_n 1) 1 2 := ⟨by decide +kernel, rfl⟩
theorem d3_2 : De jdk_42_method_3_code 2 (.iconst 0) 1 3 := ⟨by decide +kernel, rfl⟩
theorem d3_3 : De jdk_42_method_3_code 3 (.aload_n 1) 1 4 := ⟨by decide +kernel, rfl⟩
theorem d3_4 : De jdk_42_method_3_code 4 (.arraylength) 1 5 := ⟨by decide +kernel, rfl⟩
theorem d3_5 : De jdk_42_method_3_code 5 (.aconst_null) 1 6 := ⟨by decide +kernel, rfl⟩
theorem d3_6 : De jdk_42_method_3_code 6 (.invokespecial 27) 3 9 := ⟨by decide +kernel, rfl⟩
theorem d3_9 : De jdk_42_method_3_code 9 (.return_) 1 10 := ⟨by decide +kernel, rfl⟩
theorem d4_0 : De jdk_42_method_149_code 0 (.aload_n 0) 1 1 := ⟨by decide +kernel, rfl⟩
theorem d4_1 : De jdk_42_method_149_code 1 (.invokespecial 1) 3 4 := ⟨by decide +kernel, rfl⟩
theorem d4_4 : De jdk_42_method_149_code 4 (.iload_n 3) 1 5 := ⟨by decide +kernel, rfl⟩
theorem d4_5 : DeJ jdk_42_method_149_code 5 (.ifCond .ne) 8 27 := ⟨22, by decide +kernel, rfl, by decide, by decide⟩
theorem d4_8 : De jdk_42_method_149_code 8 (.aload_n 0) 1 9 := ⟨by decide +kernel, rfl⟩
theorem d4_9 : De jdk_42_method_149_code 9 (.ldc 7) 2 11 := ⟨by decide +kernel, rfl⟩
theorem d4_11 : De jdk_42_method_149_code 11 (.getfield 9) 3 14 := ⟨by decide +kernel, rfl⟩
theorem d4_14 : De jdk_42_method_149_code 14 (.putfield 9) 3 17 := ⟨by decide +kernel, rfl⟩
theorem d4_17 : De jdk_42_method_149_code 17 (.aload_n 0) 1 18 := ⟨by decide +kernel, rfl⟩
theorem d4_18 : De jdk_42_method_149_code 18 (.ldc 7) 2 20 := ⟨by decide +kernel, rfl⟩
theorem d4_20 : De jdk_42_method_149_code 20 (.getfield 15) 3 23 := ⟨by decide +kernel, rfl⟩
theorem d4_23 : De jdk_42_method_149_code 23 (.putfield 15) 3 26 := ⟨by decide +kernel, rfl⟩
theorem d4_26 : De jdk_42_method_149_code 26 (.return_) 1 27 := ⟨by decide +kernel, rfl⟩
theorem d4_27 : De jdk_42_method_149_code 27 (.getstatic 38) 3 30 := ⟨by decide +kernel, rfl⟩
theorem d4_30 : DeJ jdk_42_method_149_code 30 (.ifCond .eq) 33 58 := ⟨28, by decide +kernel, rfl, by decide, by decide⟩
theorem d4_33 : De jdk_42_method_149_code 33 (.aload_n 1) 1 34 := ⟨by decide +kernel, rfl⟩
theorem d4_34 : De jdk_42_method_149_code 34 (.iload_n 2) 1 35 := ⟨by decide +kernel, rfl⟩
theorem d4_35 : De jdk_42_method_149_code 35 (.iload_n 3) 1 36 := ⟨by decide +kernel, rfl⟩
theorem d4_36 : De jdk_42_method_149_code 36 (.invokestatic 177) 3 39 := ⟨by decide +kernel, rfl⟩
theorem d4_39 : De jdk_42_method_149_code 39 (.astore 5) 2 41 := ⟨by decide +kernel, rfl⟩
theorem d4_41 : De jdk_42_method_149_code 41 (.aload_n 0) 1 42 := ⟨by decide +kernel, rfl⟩
theorem d4_42 : De jdk_42_method_149_code 42 (.aload 5) 2 44 := ⟨by decide +kernel, rfl⟩
theorem d4_44 : De jdk_42_method_149_code 44 (.iload_n 3) 1 45 := ⟨by decide +kernel, rfl⟩
theorem d4_45 : De jdk_42_method_149_code 45 (.invokestatic 47) 3 48 := ⟨by decide +kernel, rfl⟩
theorem d4_48 : De jdk_42_method_149_code 48 (.putfield 15) 3 51 := ⟨by decide +kernel, rfl⟩
theorem d4_51 : De jdk_42_method_149_code 51 (.aload_n 0) 1 52 := ⟨by decide +kernel, rfl⟩
theorem d4_52 : De jdk_42_method_149_code 52 (.aload 5) 2 54 := ⟨by decide +kernel, rfl⟩
theorem d4_54 : De jdk_42_method_149_code 54 (.putfield 9) 3 57 := ⟨by decide +kernel, rfl⟩
theorem d4_57 : De jdk_42_method_149_code 57 (.return_) 1 58 := ⟨by decide +kernel, rfl⟩
theorem d6_0 : De prog_59_method_1_code 0 (.aload_n 0) 1 1 := ⟨by decide +kernel, rfl⟩
theorem d6_1 : De prog_59_method_1_code 1 (.invokespecial 1) 3 4 := ⟨by decide +kernel, rfl⟩
theorem d6_4 : De prog_59_method_1_code 4 (.aload_n 0) 1 5 := ⟨by decide +kernel, rfl⟩
theorem d6_5 : De prog_59_method_1_code 5 (.aload_n 1) 1 6 := ⟨by decide +kernel, rfl⟩
theorem d6_6 : De prog_59_method_1_code 6 (.putfield 7) 3 9 := ⟨by decide +kernel, rfl⟩
theorem d6_9 : De prog_59_method_1_code 9 (.aload_n 0) 1 10 := ⟨by decide +kernel, rfl⟩
theorem d6_10 : De prog_59_method_1_code 10 (.aload_n 2) 1 11 := ⟨by decide +kernel, rfl⟩
theorem d6_11 : De prog_59_method_1_code 11 (.putfield 13) 3 14 := ⟨by decide +kernel, rfl⟩
theorem d6_14 : De prog_59_method_1_code 14 (.return_) 1 15 := ⟨by decide +kernel, rfl⟩
theorem d7_0 : De method_5_code 0 (.iload_n 0) 1 1 := ⟨by decide +kernel, rfl⟩
theorem d7_1 : De method_5_code 1 (.iload_n 3) 1 2 := ⟨by decide +kernel, rfl⟩
theorem d7_2 : DeJ method_5_code 2 (.if_icmp .eq) 5 7 := ⟨5, by decide +kernel, rfl, by decide, by decide⟩
theorem d7_5 : De method_5_code 5 (.iconst 0) 1 6 := ⟨by decide +kernel, rfl⟩
theorem d7_6 : De method_5_code 6 (.ireturn) 1 7 := ⟨by decide +kernel, rfl⟩
theorem d7_7 : De method_5_code 7 (.iload_n 0) 1 8 := ⟨by decide +kernel, rfl⟩
theorem d7_8 : De method_5_code 8 (.iconst 1) 1 9 := ⟨by decide +kernel, rfl⟩
theorem d7_9 : DeJ method_5_code 9 (.if_icmp .lt) 12 20 := ⟨11, by decide +kernel, rfl, by decide, by decide⟩
theorem d7_12 : De method_5_code 12 (.iload_n 1) 1 13 := ⟨by decide +kernel, rfl⟩
theorem d7_13 : De method_5_code 13 (.iload 4) 2 15 := ⟨by decide +kernel, rfl⟩
theorem d7_15 : DeJ method_5_code 15 (.if_icmp .eq) 18 20 := ⟨5, by decide +kernel, rfl, by decide, by decide⟩
theorem d7_18 : De method_5_code 18 (.iconst 0) 1 19 := ⟨by decide +kernel, rfl⟩
theorem d7_19 : De method_5_code 19 (.ireturn) 1 20 := ⟨by decide +kernel, rfl⟩
theorem d7_20 : De method_5_code 20 (.iload_n 0) 1 21 := ⟨by decide +kernel, rfl⟩
theorem d7_21 : De method_5_code 21 (.iconst 2) 1 22 := ⟨by decide +kernel, rfl⟩
theorem d7_22 : DeJ method_5_code 22 (.if_icmp .lt) 25 33 := ⟨11, by decide +kernel, rfl, by decide, by decide⟩
theorem d7_25 : De method_5_code 25 (.iload_n 2) 1 26 := ⟨by decide +kernel, rfl⟩
theorem d7_26 : De method_5_code 26 (.iload 5) 2 28 := ⟨by decide +kernel, rfl⟩
theorem d7_28 : DeJ method_5_code 28 (.if_icmp .eq) 31 33 := ⟨5, by decide +kernel, rfl, by decide, by decide⟩
theorem d7_31 : De method_5_code 31 (.iconst 0) 1 32 := ⟨by decide +kernel, rfl⟩
theorem d7_32 : De method_5_code 32 (.ireturn) 1 33 := ⟨by decide +kernel, rfl⟩
theorem d7_33 : De method_5_code 33 (.iconst 1) 1 34 := ⟨by decide +kernel, rfl⟩
theorem d7_34 : De method_5_code 34 (.ireturn) 1 35 := ⟨by decide +kernel, rfl⟩
theorem d8_0 : De prog_59_method_4_code 0 (.aload_n 1) 1 1 := ⟨by decide +kernel, rfl⟩
theorem d8_1 : De prog_59_method_4_code 1 (.instanceof 8) 3 4 := ⟨by decide +kernel, rfl⟩
theorem d8_4 : DeJ prog_59_method_4_code 4 (.ifCond .ne) 7 9 := ⟨5, by decide +kernel, rfl, by decide, by decide⟩
theorem d8_7 : De prog_59_method_4_code 7 (.iconst 0) 1 8 := ⟨by decide +kernel, rfl⟩
theorem d8_8 : De prog_59_method_4_code 8 (.ireturn) 1 9 := ⟨by decide +kernel, rfl⟩
theorem d8_9 : De prog_59_method_4_code 9 (.aload_n 1) 1 10 := ⟨by decide +kernel, rfl⟩
theorem d8_10 : De prog_59_method_4_code 10 (.checkcast 8) 3 13 := ⟨by decide +kernel, rfl⟩
theorem d8_13 : De prog_59_method_4_code 13 (.astore_n 2) 1 14 := ⟨by decide +kernel, rfl⟩
theorem d8_14 : De prog_59_method_4_code 14 (.aload_n 0) 1 15 := ⟨by decide +kernel, rfl⟩
theorem d8_15 : De prog_59_method_4_code 15 (.getfield 7) 3 18 := ⟨by decide +kernel, rfl⟩
theorem d8_18 : De prog_59_method_4_code 18 (.aload_n 2) 1 19 := ⟨by decide +kernel, rfl⟩
theorem d8_19 : De prog_59_method_4_code 19 (.getfield 7) 3 22 := ⟨by decide +kernel, rfl⟩
theorem d8_22 : De prog_59_method_4_code 22 (.invokevirtual 16) 3 25 := ⟨by decide +kernel, rfl⟩
theorem d8_25 : DeJ prog_59_method_4_code 25 (.ifCond .eq) 28 46 := ⟨21, by decide +kernel, rfl, by decide, by decide⟩
theorem d8_28 : De prog_59_method_4_code 28 (.aload_n 0) 1 29 := ⟨by decide +kernel, rfl⟩
theorem d8_29 : De prog_59_method_4_code 29 (.getfield 13) 3 32 := ⟨by decide +kernel, rfl⟩
theorem d8_32 : De prog_59_method_4_code 32 (.aload_n 2) 1 33 := ⟨by decide +kernel, rfl⟩
theorem d8_33 : De prog_59_method_4_code 33 (.getfield 13) 3 36 := ⟨by decide +kernel, rfl⟩
theorem d8_36 : De prog_59_method_4_code 36 (.invokevirtual 16) 3 39 := ⟨by decide +kernel, rfl⟩
theorem d8_39 : DeJ prog_59_method_4_code 39 (.ifCond .eq) 42 46 := ⟨7, by decide +kernel, rfl, by decide, by decide⟩
theorem d8_42 : De prog_59_method_4_code 42 (.iconst 1) 1 43 := ⟨by decide +kernel, rfl⟩
theorem d8_43 : DeJ prog_59_method_4_code 43 .goto 46 47 := ⟨4, by decide +kernel, rfl, by decide, by decide⟩
theorem d8_46 : De prog_59_method_4_code 46 (.iconst 0) 1 47 := ⟨by decide +kernel, rfl⟩
theorem d8_47 : De prog_59_method_4_code 47 (.ireturn) 1 48 := ⟨by decide +kernel, rfl⟩
theorem d9_0 : De jdk_42_method_66_code 0 (.aload_n 0) 1 1 := ⟨by decide +kernel, rfl⟩
theorem d9_1 : De jdk_42_method_66_code 1 (.aload_n 1) 1 2 := ⟨by decide +kernel, rfl⟩
theorem d9_2 : DeJ jdk_42_method_66_code 2 (.if_acmp .ne) 5 7 := ⟨5, by decide +kernel, rfl, by decide, by decide⟩
theorem d9_5 : De jdk_42_method_66_code 5 (.iconst 1) 1 6 := ⟨by decide +kernel, rfl⟩
theorem d9_6 : De jdk_42_method_66_code 6 (.ireturn) 1 7 := ⟨by decide +kernel, rfl⟩
theorem d9_7 : De jdk_42_method_66_code 7 (.aload_n 1) 1 8 := ⟨by decide +kernel, rfl⟩
theorem d9_8 : De jdk_42_method_66_code 8 (.instanceof 10) 3 11 := ⟨by decide +kernel, rfl⟩
theorem d9_11 : DeJ jdk_42_method_66_code 11 (.ifCond .eq) 14 54 := ⟨43, by decide +kernel, rfl, by decide, by decide⟩
theorem d9_14 : De jdk_42_method_66_code 14 (.aload_n 1) 1 15 := ⟨by decide +kernel, rfl⟩
theorem d9_15 : De jdk_42_method_66_code 15 (.checkcast 10) 3 18 := ⟨by decide +kernel, rfl⟩
theorem d9_18 : De jdk_42_method_66_code 18 (.astore_n 2) 1 19 := ⟨by decide +kernel, rfl⟩
theorem d9_19 : De jdk_42_method_66_code 19 (.getstatic 38) 3 22 := ⟨by decide +kernel, rfl⟩
theorem d9_22 : DeJ jdk_42_method_66_code 22 (.ifCond .eq) 25 36 := ⟨14, by decide +kernel, rfl, by decide, by decide⟩
theorem d9_25 : De jdk_42_method_66_code 25 (.aload_n 0) 1 26 := ⟨by decide +kernel, rfl⟩
theorem d9_26 : De jdk_42_method_66_code 26 (.getfield 15) 3 29 := ⟨by decide +kernel, rfl⟩
theorem d9_29 : De jdk_42_method_66_code 29 (.aload_n 2) 1 30 := ⟨by decide +kernel, rfl⟩
theorem d9_30 : De jdk_42_method_66_code 30 (.getfield 15) 3 33 := ⟨by decide +kernel, rfl⟩
theorem d9_33 : DeJ jdk_42_method_66_code 33 (.if_icmp .ne) 36 54 := ⟨21, by decide +kernel, rfl, by decide, by decide⟩
theorem d9_36 : De jdk_42_method_66_code 36 (.aload_n 0) 1 37 := ⟨by decide +kernel, rfl⟩
theorem d9_37 : De jdk_42_method_66_code 37 (.getfield 9) 3 40 := ⟨by decide +kernel, rfl⟩
theorem d9_40 : De jdk_42_method_66_code 40 (.aload_n 2) 1 41 := ⟨by decide +kernel, rfl⟩
theorem d9_41 : De jdk_42_method_66_code 41 (.getfield 9) 3 44 := ⟨by decide +kernel, rfl⟩
theorem d9_44 : De jdk_42_method_66_code 44 (.invokestatic 541) 3 47 := ⟨by decide +kernel, rfl⟩
theorem d9_47 : DeJ jdk_42_method_66_code 47 (.ifCond .eq) 50 54 := ⟨7, by decide +kernel, rfl, by decide, by decide⟩
theorem d9_50 : De jdk_42_method_66_code 50 (.iconst 1) 1 51 := ⟨by decide +kernel, rfl⟩
theorem d9_51 : DeJ jdk_42_method_66_code 51 .goto 54 55 := ⟨4, by decide +kernel, rfl, by decide, by decide⟩
theorem d9_54 : De jdk_42_method_66_code 54 (.iconst 0) 1 55 := ⟨by decide +kernel, rfl⟩
theorem d9_55 : De jdk_42_method_66_code 55 (.ireturn) 1 56 := ⟨by decide +kernel, rfl⟩
theorem d10_0 : De jdk_43_method_13_code 0 (.aload_n 0) 1 1 := ⟨by decide +kernel, rfl⟩
theorem d10_1 : De jdk_43_method_13_code 1 (.arraylength) 1 2 := ⟨by decide +kernel, rfl⟩
theorem d10_2 : De jdk_43_method_13_code 2 (.aload_n 1) 1 3 := ⟨by decide +kernel, rfl⟩
theorem d10_3 : De jdk_43_method_13_code 3 (.arraylength) 1 4 := ⟨by decide +kernel, rfl⟩
theorem d10_4 : DeJ jdk_43_method_13_code 4 (.if_icmp .ne) 7 34 := ⟨30, by decide +kernel, rfl, by decide, by decide⟩
theorem d10_7 : De jdk_43_method_13_code 7 (.iconst 0) 1 8 := ⟨by decide +kernel, rfl⟩
theorem d10_8 : De jdk_43_method_13_code 8 (.istore_n 2) 1 9 := ⟨by decide +kernel, rfl⟩
theorem d10_9 : De jdk_43_method_13_code 9 (.iload_n 2) 1 10 := ⟨by decide +kernel, rfl⟩
theorem d10_10 : De jdk_43_method_13_code 10 (.aload_n 0) 1 11 := ⟨by decide +kernel, rfl⟩
theorem d10_11 : De jdk_43_method_13_code 11 (.arraylength) 1 12 := ⟨by decide +kernel, rfl⟩
theorem d10_12 : DeJ jdk_43_method_13_code 12 (.if_icmp .ge) 15 32 := ⟨20, by decide +kernel, rfl, by decide, by decide⟩
theorem d10_15 : De jdk_43_method_13_code 15 (.aload_n 0) 1 16 := ⟨by decide +kernel, rfl⟩
theorem d10_16 : De jdk_43_method_13_code 16 (.iload_n 2) 1 17 := ⟨by decide +kernel, rfl⟩
theorem d10_17 : De jdk_43_method_13_code 17 (.baload) 1 18 := ⟨by decide +kernel, rfl⟩
theorem d10_18 : De jdk_43_method_13_code 18 (.aload_n 1) 1 19 := ⟨by decide +kernel, rfl⟩
theorem d10_19 : De jdk_43_method_13_code 19 (.iload_n 2) 1 20 := ⟨by decide +kernel, rfl⟩
theorem d10_20 : De jdk_43_method_13_code 20 (.baload) 1 21 := ⟨by decide +kernel, rfl⟩
theorem d10_21 : DeJ jdk_43_method_13_code 21 (.if_icmp .eq) 24 26 := ⟨5, by decide +kernel, rfl, by decide, by decide⟩
theorem d10_24 : De jdk_43_method_13_code 24 (.iconst 0) 1 25 := ⟨by decide +kernel, rfl⟩
theorem d10_25 : De jdk_43_method_13_code 25 (.ireturn) 1 26 := ⟨by decide +kernel, rfl⟩
theorem d10_26 : De jdk_43_method_13_code 26 (.iinc 2 1) 3 29 := ⟨by decide +kernel, rfl⟩
theorem d10_29 : DeJ jdk_43_method_13_code 29 .goto 32 9 := ⟨(-20), by decide +kernel, rfl, by decide, by decide⟩
theorem d10_32 : De jdk_43_method_13_code 32 (.iconst 1) 1 33 := ⟨by decide +kernel, rfl⟩
theorem d10_33 : De jdk_43_method_13_code 33 (.ireturn) 1 34 := ⟨by decide +kernel, rfl⟩
theorem d10_34 : De jdk_43_method_13_code 34 (.iconst 0) 1 35 := ⟨by decide +kernel, rfl⟩
theorem d10_35 : De jdk_43_method_13_code 35 (.ireturn) 1 36 := ⟨by decide +kernel, rfl⟩
theorem d11_0 : De jdk_52_method_16_code 0 (.iload_n 2) 1 1 := ⟨by decide +kernel, rfl⟩
theorem d11_1 : De jdk_52_method_16_code 1 (.newarray .byte) 2 3 := ⟨by decide +kernel, rfl⟩
theorem d11_3 : De jdk_52_method_16_code 3 (.astore_n 3) 1 4 := ⟨by decide +kernel, rfl⟩
theorem d11_4 : De jdk_52_method_16_code 4 (.aload_n 0) 1 5 := ⟨by decide +kernel, rfl⟩
theorem d11_5 : De jdk_52_method_16_code 5 (.iload_n 1) 1 6 := ⟨by decide +kernel, rfl⟩
theorem d11_6 : De jdk_52_method_16_code 6 (.aload_n 3) 1 7 := ⟨by decide +kernel, rfl⟩
theorem d11_7 : De jdk_52_method_16_code 7 (.iconst 0) 1 8 := ⟨by decide +kernel, rfl⟩
theorem d11_8 : De jdk_52_method_16_code 8 (.iload_n 2) 1 9 := ⟨by decide +kernel, rfl⟩
theorem d11_9 : De jdk_52_method_16_code 9 (.invokestatic 115) 3 12 := ⟨by decide +kernel, rfl⟩
theorem d11_12 : De jdk_52_method_16_code 12 (.istore 4) 2 14 := ⟨by decide +kernel, rfl⟩
theorem d11_14 : De jdk_52_method_16_code 14 (.iload 4) 2 16 := ⟨by decide +kernel, rfl⟩
theorem d11_16 : De jdk_52_method_16_code 16 (.iload_n 2) 1 17 := ⟨by decide +kernel, rfl⟩
theorem d11_17 : DeJ jdk_52_method_16_code 17 (.if_icmp .eq) 20 57 := ⟨40, by decide +kernel, rfl, by decide, by decide⟩
theorem d11_57 : De jdk_52_method_16_code 57 (.aload_n 3) 1 58 := ⟨by decide +kernel, rfl⟩
theorem d11_58 : De jdk_52_method_16_code 58 (.areturn) 1 59 := ⟨by decide +kernel, rfl⟩
theorem d12_0 : De jdk_52_method_21_code 0 (.iconst 0) 1 1 := ⟨by decide +kernel, rfl⟩
theorem d12_1 : De jdk_52_method_21_code 1 (.istore 5) 2 3 := ⟨by decide +kernel, rfl⟩
theorem d12_3 : De jdk_52_method_21_code 3 (.iload 5) 2 5 := ⟨by decide +kernel, rfl⟩
theorem d12_5 : De jdk_52_method_21_code 5 (.iload 4) 2 7 := ⟨by decide +kernel, rfl⟩
theorem d12_7 : DeJ jdk_52_method_21_code 7 (.if_icmp .ge) 10 44 := ⟨37, by decide +kernel, rfl, by decide, by decide⟩
theorem d12_10 : De jdk_52_method_21_code 10 (.aload_n 0) 1 11 := ⟨by decide +kernel, rfl⟩
theorem d12_11 : De jdk_52_method_21_code 11 (.iload_n 1) 1 12 := ⟨by decide +kernel, rfl⟩
theorem d12_12 : De jdk_52_method_21_code 12 (.caload) 1 13 := ⟨by decide +kernel, rfl⟩
theorem d12_13 : De jdk_52_method_21_code 13 (.istore 6) 2 15 := ⟨by decide +kernel, rfl⟩
theorem d12_15 : De jdk_52_method_21_code 15 (.iload 6) 2 17 := ⟨by decide +kernel, rfl⟩
theorem d12_17 : De jdk_52_method_21_code 17 (.sipush 255) 3 20 := ⟨by decide +kernel, rfl⟩
theorem d12_20 : DeJ jdk_52_method_21_code 20 (.if_icmp .le) 23 26 := ⟨6, by decide +kernel, rfl, by decide, by decide⟩
theorem d12_26 : De jdk_52_method_21_code 26 (.aload_n 2) 1 27 := ⟨by decide +kernel, rfl⟩
theorem d12_27 : De jdk_52_method_21_code 27 (.iload_n 3) 1 28 := ⟨by decide +kernel, rfl⟩
theorem d12_28 : De jdk_52_method_21_code 28 (.iload 6) 2 30 := ⟨by decide +kernel, rfl⟩
theorem d12_30 : De jdk_52_method_21_code 30 (.i2b) 1 31 := ⟨by decide +kernel, rfl⟩
theorem d12_31 : De jdk_52_method_21_code 31 (.bastore) 1 32 := ⟨by decide +kernel, rfl⟩
theorem d12_32 : De jdk_52_method_21_code 32 (.iinc 1 1) 3 35 := ⟨by decide +kernel, rfl⟩
theorem d12_35 : De jdk_52_method_21_code 35 (.iinc 3 1) 3 38 := ⟨by decide +kernel, rfl⟩
theorem d12_38 : De jdk_52_method_21_code 38 (.iinc 5 1) 3 41 := ⟨by decide +kernel, rfl⟩
theorem d12_41 : DeJ jdk_52_method_21_code 41 .goto 44 3 := ⟨(-38), by decide +kernel, rfl, by decide, by decide⟩
theorem d12_44 : De jdk_52_method_21_code 44 (.iload 4) 2 46 := ⟨by decide +kernel, rfl⟩
theorem d12_46 : De jdk_52_method_21_code 46 (.ireturn) 1 47 := ⟨by decide +kernel, rfl⟩
theorem d13_0 : De jdk_52_method_15_code 0 (.iload_n 1) 1 1 := ⟨by decide +kernel, rfl⟩
theorem d13_1 : De jdk_52_method_15_code 1 (.aload_n 0) 1 2 := ⟨by decide +kernel, rfl⟩
theorem d13_2 : De jdk_52_method_15_code 2 (.arraylength) 1 3 := ⟨by decide +kernel, rfl⟩
theorem d13_3 : De jdk_52_method_15_code 3 (.isub) 1 4 := ⟨by decide +kernel, rfl⟩
theorem d13_4 : De jdk_52_method_15_code 4 (.bipush 31) 2 6 := ⟨by decide +kernel, rfl⟩
theorem d13_6 : De jdk_52_method_15_code 6 (.iushr) 1 7 := ⟨by decide +kernel, rfl⟩
theorem d13_7 : De jdk_52_method_15_code 7 (.i2b) 1 8 := ⟨by decide +kernel, rfl⟩
theorem d13_8 : De jdk_52_method_15_code 8 (.ireturn) 1 9 := ⟨by decide +kernel, rfl⟩
theorem pd_0 : parseMethodDescriptor "([CI[BII)I" = some ⟨[(.array .char), .int, (.array .byte), .int, .int], some .int⟩ := by decide +kernel
theorem pd_1 : parseMethodDescriptor "([CII)[B" = some ⟨[(.array .char), .int, .int], some (.array .byte)⟩ := by decide +kernel
theorem pd_2 : parseMethodDescriptor "([BI)B" = some ⟨[(.array .byte), .int], some .byte⟩ := by decide +kernel
theorem pd_3 : parseMethodDescriptor "([CIILjava/lang/Void;)V" = some ⟨[(.array .char), .int, .int, (.object "java/lang/Void")], none⟩ := by decide +kernel
theorem pd_4 : parseMethodDescriptor "([B[B)Z" = some ⟨[(.array .byte), (.array .byte)], some .boolean⟩ := by decide +kernel
theorem pd_5 : parseMethodDescriptor "([C)V" = some ⟨[(.array .char)], none⟩ := by decide +kernel
theorem pd_6 : parseMethodDescriptor "(Ljava/lang/Object;)Z" = some ⟨[(.object "java/lang/Object")], some .boolean⟩ := by decide +kernel
theorem pd_7 : parseMethodDescriptor "(IIJI)C" = some ⟨[.int, .int, .long, .int], some .char⟩ := by decide +kernel
theorem pd_8 : parseMethodDescriptor "(ICC)Ljava/lang/String;" = some ⟨[.int, .char, .char], some (.object "java/lang/String")⟩ := by decide +kernel
theorem pd_9 : parseMethodDescriptor "(Ljava/lang/String;Ljava/lang/String;)V" = some ⟨[(.object "java/lang/String"), (.object "java/lang/String")], none⟩ := by decide +kernel
theorem pd_10 : parseMethodDescriptor "(ICCICC)Z" = some ⟨[.int, .char, .char, .int, .char, .char], some .boolean⟩ := by decide +kernel
def W0 (Z : State) (a0 : Array Value) : Prop := (∀ d ∈ tables_1, d.before a0 Z = true) ∧ (∀ d ∈ jdkStatics_1, d.before a0 Z = true)
theorem w_0 {Z : State} {a0 : Array Value} (hW : W0 Z a0) : (Jvm.Cond.constant "com/example/text_span_search/textspansearch/trec/TopicEqualsPinLaw" (7 : Nat) (2147483647 : Int32)).before a0 Z = true := hW.1 _ (List.mem_of_getElem? (i := 0) rfl)
theorem w_1 {Z : State} {a0 : Array Value} (hW : W0 Z a0) : (Jvm.Cond.constantLong "com/example/text_span_search/textspansearch/trec/TopicEqualsPinLaw" (8 : Nat) (255 : Int64)).before a0 Z = true := hW.1 _ (List.mem_of_getElem? (i := 1) rfl)
theorem w_2 {Z : State} {a0 : Array Value} (hW : W0 Z a0) : (Jvm.Cond.methodLink "com/example/text_span_search/textspansearch/trec/TopicEqualsPinLaw" (10 : Nat) ({ cls := "com/example/text_span_search/textspansearch/trec/TopicEqualsPinLaw", name := "dl", desc := "(IIJI)C" } : Jvm.MethodName)).before a0 Z = true := hW.1 _ (List.mem_of_getElem? (i := 2) rfl)
theorem w_3 {Z : State} {a0 : Array Value} (hW : W0 Z a0) : (Jvm.Cond.static ({ cls := "com/example/text_span_search/textspansearch/trec/TopicEqualsPinLaw", name := "dl", desc := "(IIJI)C" } : Jvm.MethodName)).before a0 Z = true := hW.1 _ (List.mem_of_getElem? (i := 3) rfl)
theorem w_4 {Z : State} {a0 : Array Value} (hW : W0 Z a0) : (Jvm.Cond.initialized "com/example/text_span_search/textspansearch/trec/TopicEqualsPinLaw").before a0 Z = true := hW.1 _ (List.mem_of_getElem? (i := 4) rfl)
theorem w_5 {Z : State} {a0 : Array Value} (hW : W0 Z a0) : (Jvm.Cond.code ({ cls := "com/example/text_span_search/textspansearch/trec/TopicEqualsPinLaw", name := "dl", desc := "(IIJI)C" } : Jvm.MethodName) method_3_code (5 : Nat) (Option.some Jvm.ClassFile.FieldType.char)).before a0 Z = true := hW.1 _ (List.mem_of_getElem? (i := 5) rfl)
theorem w_6 {Z : State} {a0 : Array Value} (hW : W0 Z a0) : (Jvm.Cond.methodLink "com/example/text_span_search/textspansearch/trec/TopicEqualsPinLaw" (16 : Nat) ({ cls := "com/example/text_span_search/textspansearch/trec/TopicEqualsPinLaw", name := "mk", desc := "(ICC)Ljava/lang/String;" } : Jvm.MethodName)).before a0 Z = true := hW.1 _ (List.mem_of_getElem? (i := 6) rfl)
theorem w_7 {Z : State} {a0 : Array Value} (hW : W0 Z a0) : (Jvm.Cond.static ({ cls := "com/example/text_span_search/textspansearch/trec/TopicEqualsPinLaw", name := "mk", desc := "(ICC)Ljava/lang/String;" } : Jvm.MethodName)).before a0 Z = true := hW.1 _ (List.mem_of_getElem? (i := 7) rfl)
theorem w_8 {Z : State} {a0 : Array Value} (hW : W0 Z a0) : (Jvm.Cond.code ({ cls := "com/example/text_span_search/textspansearch/trec/TopicEqualsPinLaw", name := "mk", desc := "(ICC)Ljava/lang/String;" } : Jvm.MethodName) method_4_code (4 : Nat) (Option.some (Jvm.ClassFile.FieldType.object "java/lang/String"))).before a0 Z = true := hW.1 _ (List.mem_of_getElem? (i := 8) rfl)
theorem w_9 {Z : State} {a0 : Array Value} (hW : W0 Z a0) : (Jvm.Cond.classLink "com/example/text_span_search/textspansearch/trec/TopicEqualsPinLaw" (33 : Nat) "java/lang/String").before a0 Z = true := hW.1 _ (List.mem_of_getElem? (i := 9) rfl)
theorem w_10 {Z : State} {a0 : Array Value} (hW : W0 Z a0) : (Jvm.Cond.instantiable "java/lang/String" (4 : Nat)).before a0 Z = true := hW.1 _ (List.mem_of_getElem? (i := 10) rfl)
theorem w_11 {Z : State} {a0 : Array Value} (hW : W0 Z a0) : (Jvm.Cond.initialized "java/lang/String").before a0 Z = true := hW.1 _ (List.mem_of_getElem? (i := 11) rfl)
theorem w_12 {Z : State} {a0 : Array Value} (hW : W0 Z a0) : (Jvm.Cond.arrayClass Jvm.ClassFile.FieldType.char).before a0 Z = true := hW.1 _ (List.mem_of_getElem? (i := 12) rfl)
theorem w_13 {Z : State} {a0 : Array Value} (hW : W0 Z a0) : (Jvm.Cond.methodLink "com/example/text_span_search/textspansearch/trec/TopicEqualsPinLaw" (35 : Nat) ({ cls := "java/lang/String", name := "<init>", desc := "([C)V" } : Jvm.MethodName)).before a0 Z = true := hW.1 _ (List.mem_of_getElem? (i := 13) rfl)
theorem w_14 {Z : State} {a0 : Array Value} (hW : W0 Z a0) : (Jvm.Cond.instanceMethod ({ cls := "java/lang/String", name := "<init>", desc := "([C)V" } : Jvm.MethodName)).before a0 Z = true := hW.1 _ (List.mem_of_getElem? (i := 14) rfl)
theorem w_15 {Z : State} {a0 : Array Value} (hW : W0 Z a0) : (Jvm.Cond.code ({ cls := "java/lang/String", name := "<init>", desc := "([C)V" } : Jvm.MethodName) jdk_42_method_3_code (2 : Nat) (Option.none : Option Jvm.ClassFile.FieldType)).before a0 Z = true := hW.1 _ (List.mem_of_getElem? (i := 15) rfl)
theorem w_16 {Z : State} {a0 : Array Value} (hW : W0 Z a0) : (Jvm.Cond.methodLink "java/lang/String" (27 : Nat) ({ cls := "java/lang/String", name := "<init>", desc := "([CIILjava/lang/Void;)V" } : Jvm.MethodName)).before a0 Z = true := hW.1 _ (List.mem_of_getElem? (i := 16) rfl)
theorem w_17 {Z : State} {a0 : Array Value} (hW : W0 Z a0) : (Jvm.Cond.instanceMethod ({ cls := "java/lang/String", name := "<init>", desc := "([CIILjava/lang/Void;)V" } : Jvm.MethodName)).before a0 Z = true := hW.1 _ (List.mem_of_getElem? (i := 17) rfl)
theorem w_19 {Z : State} {a0 : Array Value} (hW : W0 Z a0) : (Jvm.Cond.code ({ cls := "java/lang/String", name := "<init>", desc := "([CIILjava/lang/Void;)V" } : Jvm.MethodName) jdk_42_method_149_code (6 : Nat) (Option.none : Option Jvm.ClassFile.FieldType)).before a0 Z = true := hW.1 _ (List.mem_of_getElem? (i := 19) rfl)
theorem w_20 {Z : State} {a0 : Array Value} (hW : W0 Z a0) : (Jvm.Cond.methodLink "java/lang/String" (1 : Nat) ({ cls := "java/lang/Object", name := "<init>", desc := "()V" } : Jvm.MethodName)).before a0 Z = true := hW.1 _ (List.mem_of_getElem? (i := 20) rfl)
theorem w_21 {Z : State} {a0 : Array Value} (hW : W0 Z a0) : (Jvm.Cond.instanceMethod ({ cls := "java/lang/Object", name := "<init>", desc := "()V" } : Jvm.MethodName)).before a0 Z = true := hW.1 _ (List.mem_of_getElem? (i := 21) rfl)
theorem w_22 {Z : State} {a0 : Array Value} (hW : W0 Z a0) : (Jvm.Cond.code ({ cls := "java/lang/Object", name := "<init>", desc := "()V" } : Jvm.MethodName) object_method_1_code (1 : Nat) (Option.none : Option Jvm.ClassFile.FieldType)).before a0 Z = true := hW.1 _ (List.mem_of_getElem? (i := 22) rfl)
theorem w_23 {Z : State} {a0 : Array Value} (hW : W0 Z a0) : (Jvm.Cond.stringLink "java/lang/String" (7 : Nat) "").before a0 Z = true := hW.1 _ (List.mem_of_getElem? (i := 23) rfl)
theorem w_24 {Z : State} {a0 : Array Value} (hW : W0 Z a0) : (Jvm.Cond.arrayClass Jvm.ClassFile.FieldType.byte).before a0 Z = true := hW.1 _ (List.mem_of_getElem? (i := 24) rfl)
theorem w_25 {Z : State} {a0 : Array Value} (hW : W0 Z a0) : (Jvm.Cond.laysFinal "java/lang/String" "java/lang/String" "value" "[B").before a0 Z = true := hW.1 _ (List.mem_of_getElem? (i := 25) rfl)
theorem w_26 {Z : State} {a0 : Array Value} (hW : W0 Z a0) : (Jvm.Cond.laysFinal "java/lang/String" "java/lang/String" "coder" "B").before a0 Z = true := hW.1 _ (List.mem_of_getElem? (i := 26) rfl)
theorem w_27 {Z : State} {a0 : Array Value} (hW : W0 Z a0) : (Jvm.Cond.soleField "java/lang/String" "value").before a0 Z = true := hW.1 _ (List.mem_of_getElem? (i := 27) rfl)
theorem w_28 {Z : State} {a0 : Array Value} (hW : W0 Z a0) : (Jvm.Cond.soleField "java/lang/String" "coder").before a0 Z = true := hW.1 _ (List.mem_of_getElem? (i := 28) rfl)
theorem w_29 {Z : State} {a0 : Array Value} (hW : W0 Z a0) : (Jvm.Cond.fieldLink "java/lang/String" (9 : Nat) "java/lang/String" "value" "[B").before a0 Z = true := hW.1 _ (List.mem_of_getElem? (i := 29) rfl)
theorem w_30 {Z : State} {a0 : Array Value} (hW : W0 Z a0) : (Jvm.Cond.fieldLink "java/lang/String" (15 : Nat) "java/lang/String" "coder" "B").before a0 Z = true := hW.1 _ (List.mem_of_getElem? (i := 30) rfl)
theorem w_31 {Z : State} {a0 : Array Value} (hW : W0 Z a0) : (Jvm.Cond.classLink "com/example/text_span_search/textspansearch/trec/TopicEqualsPinLaw" (20 : Nat) "com/example/text_span_search/textspansearch/trec/Topic").before a0 Z = true := hW.1 _ (List.mem_of_getElem? (i := 31) rfl)
theorem w_32 {Z : State} {a0 : Array Value} (hW : W0 Z a0) : (Jvm.Cond.instantiable "com/example/text_span_search/textspansearch/trec/Topic" (2 : Nat)).before a0 Z = true := hW.1 _ (List.mem_of_getElem? (i := 32) rfl)
theorem w_33 {Z : State} {a0 : Array Value} (hW : W0 Z a0) : (Jvm.Cond.initialized "com/example/text_span_search/textspansearch/trec/Topic").before a0 Z = true := hW.1 _ (List.mem_of_getElem? (i := 33) rfl)
theorem w_34 {Z : State} {a0 : Array Value} (hW : W0 Z a0) : (Jvm.Cond.methodLink "com/example/text_span_search/textspansearch/trec/TopicEqualsPinLaw" (22 : Nat) ({ cls := "com/example/text_span_search/textspansearch/trec/Topic", name := "<init>", desc := "(Ljava/lang/String;Ljava/lang/String;)V" } : Jvm.MethodName)).before a0 Z = true := hW.1 _ (List.mem_of_getElem? (i := 34) rfl)
theorem w_35 {Z : State} {a0 : Array Value} (hW : W0 Z a0) : (Jvm.Cond.instanceMethod ({ cls := "com/example/text_span_search/textspansearch/trec/Topic", name := "<init>", desc := "(Ljava/lang/String;Ljava/lang/String;)V" } : Jvm.MethodName)).before a0 Z = true := hW.1 _ (List.mem_of_getElem? (i := 35) rfl)
theorem w_36 {Z : State} {a0 : Array Value} (hW : W0 Z a0) : (Jvm.Cond.code ({ cls := "com/example/text_span_search/textspansearch/trec/Topic", name := "<init>", desc := "(Ljava/lang/String;Ljava/lang/String;)V" } : Jvm.MethodName) prog_59_method_1_code (3 : Nat) (Option.none : Option Jvm.ClassFile.FieldType)).before a0 Z = true := hW.1 _ (List.mem_of_getElem? (i := 36) rfl)
theorem w_37 {Z : State} {a0 : Array Value} (hW : W0 Z a0) : (Jvm.Cond.methodLink "com/example/text_span_search/textspansearch/trec/Topic" (1 : Nat) ({ cls := "java/lang/Object", name := "<init>", desc := "()V" } : Jvm.MethodName)).before a0 Z = true := hW.1 _ (List.mem_of_getElem? (i := 37) rfl)
theorem w_38 {Z : State} {a0 : Array Value} (hW : W0 Z a0) : (Jvm.Cond.fieldLink "com/example/text_span_search/textspansearch/trec/Topic" (7 : Nat) "com/example/text_span_search/textspansearch/trec/Topic" "id" "Ljava/lang/String;").before a0 Z = true := hW.1 _ (List.mem_of_getElem? (i := 38) rfl)
theorem w_39 {Z : State} {a0 : Array Value} (hW : W0 Z a0) : (Jvm.Cond.laysFinal "com/example/text_span_search/textspansearch/trec/Topic" "com/example/text_span_search/textspansearch/trec/Topic" "id" "Ljava/lang/String;").before a0 Z = true := hW.1 _ (List.mem_of_getElem? (i := 39) rfl)
theorem w_40 {Z : State} {a0 : Array Value} (hW : W0 Z a0) : (Jvm.Cond.fieldLink "com/example/text_span_search/textspansearch/trec/Topic" (13 : Nat) "com/example/text_span_search/textspansearch/trec/Topic" "query" "Ljava/lang/String;").before a0 Z = true := hW.1 _ (List.mem_of_getElem? (i := 40) rfl)
theorem w_41 {Z : State} {a0 : Array Value} (hW : W0 Z a0) : (Jvm.Cond.laysFinal "com/example/text_span_search/textspansearch/trec/Topic" "com/example/text_span_search/textspansearch/trec/Topic" "query" "Ljava/lang/String;").before a0 Z = true := hW.1 _ (List.mem_of_getElem? (i := 41) rfl)
theorem w_42 {Z : State} {a0 : Array Value} (hW : W0 Z a0) : (Jvm.Cond.methodLink "com/example/text_span_search/textspansearch/trec/TopicEqualsPinLaw" (29 : Nat) ({ cls := "com/example/text_span_search/textspansearch/trec/TopicEqualsPinLaw", name := "same", desc := "(ICCICC)Z" } : Jvm.MethodName)).before a0 Z = true := hW.1 _ (List.mem_of_getElem? (i := 42) rfl)
theorem w_43 {Z : State} {a0 : Array Value} (hW : W0 Z a0) : (Jvm.Cond.static ({ cls := "com/example/text_span_search/textspansearch/trec/TopicEqualsPinLaw", name := "same", desc := "(ICCICC)Z" } : Jvm.MethodName)).before a0 Z = true := hW.1 _ (List.mem_of_getElem? (i := 43) rfl)
theorem w_44 {Z : State} {a0 : Array Value} (hW : W0 Z a0) : (Jvm.Cond.code ({ cls := "com/example/text_span_search/textspansearch/trec/TopicEqualsPinLaw", name := "same", desc := "(ICCICC)Z" } : Jvm.MethodName) method_5_code (6 : Nat) (Option.some Jvm.ClassFile.FieldType.boolean)).before a0 Z = true := hW.1 _ (List.mem_of_getElem? (i := 44) rfl)
theorem w_45 {Z : State} {a0 : Array Value} (hW : W0 Z a0) : (Jvm.Cond.methodLink "com/example/text_span_search/textspansearch/trec/TopicEqualsPinLaw" (25 : Nat) ({ cls := "com/example/text_span_search/textspansearch/trec/Topic", name := "equals", desc := "(Ljava/lang/Object;)Z" } : Jvm.MethodName)).before a0 Z = true := hW.1 _ (List.mem_of_getElem? (i := 45) rfl)
theorem w_46 {Z : State} {a0 : Array Value} (hW : W0 Z a0) : (Jvm.Cond.declares ({ cls := "com/example/text_span_search/textspansearch/trec/Topic", name := "equals", desc := "(Ljava/lang/Object;)Z" } : Jvm.MethodName)).before a0 Z = true := hW.1 _ (List.mem_of_getElem? (i := 46) rfl)
theorem w_47 {Z : State} {a0 : Array Value} (hW : W0 Z a0) : (Jvm.Cond.instanceMethod ({ cls := "com/example/text_span_search/textspansearch/trec/Topic", name := "equals", desc := "(Ljava/lang/Object;)Z" } : Jvm.MethodName)).before a0 Z = true := hW.1 _ (List.mem_of_getElem? (i := 47) rfl)
theorem w_48 {Z : State} {a0 : Array Value} (hW : W0 Z a0) : (Jvm.Cond.selects "com/example/text_span_search/textspansearch/trec/Topic" ({ cls := "com/example/text_span_search/textspansearch/trec/Topic", name := "equals", desc := "(Ljava/lang/Object;)Z" } : Jvm.MethodName) ({ cls := "com/example/text_span_search/textspansearch/trec/Topic", name := "equals", desc := "(Ljava/lang/Object;)Z" } : Jvm.MethodName)).before a0 Z = true := hW.1 _ (List.mem_of_getElem? (i := 48) rfl)
theorem w_49 {Z : State} {a0 : Array Value} (hW : W0 Z a0) : (Jvm.Cond.code ({ cls := "com/example/text_span_search/textspansearch/trec/Topic", name := "equals", desc := "(Ljava/lang/Object;)Z" } : Jvm.MethodName) prog_59_method_4_code (3 : Nat) (Option.some Jvm.ClassFile.FieldType.boolean)).before a0 Z = true := hW.1 _ (List.mem_of_getElem? (i := 49) rfl)
theorem w_50 {Z : State} {a0 : Array Value} (hW : W0 Z a0) : (Jvm.Cond.classLink "com/example/text_span_search/textspansearch/trec/Topic" (8 : Nat) "com/example/text_span_search/textspansearch/trec/Topic").before a0 Z = true := hW.1 _ (List.mem_of_getElem? (i := 50) rfl)
theorem w_52 {Z : State} {a0 : Array Value} (hW : W0 Z a0) : (Jvm.Cond.methodLink "com/example/text_span_search/textspansearch/trec/Topic" (16 : Nat) ({ cls := "java/lang/String", name := "equals", desc := "(Ljava/lang/Object;)Z" } : Jvm.MethodName)).before a0 Z = true := hW.1 _ (List.mem_of_getElem? (i := 52) rfl)
theorem w_53 {Z : State} {a0 : Array Value} (hW : W0 Z a0) : (Jvm.Cond.declares ({ cls := "java/lang/String", name := "equals", desc := "(Ljava/lang/Object;)Z" } : Jvm.MethodName)).before a0 Z = true := hW.1 _ (List.mem_of_getElem? (i := 53) rfl)
theorem w_54 {Z : State} {a0 : Array Value} (hW : W0 Z a0) : (Jvm.Cond.instanceMethod ({ cls := "java/lang/String", name := "equals", desc := "(Ljava/lang/Object;)Z" } : Jvm.MethodName)).before a0 Z = true := hW.1 _ (List.mem_of_getElem? (i := 54) rfl)
theorem w_55 {Z : State} {a0 : Array Value} (hW : W0 Z a0) : (Jvm.Cond.selects "java/lang/String" ({ cls := "java/lang/String", name := "equals", desc := "(Ljava/lang/Object;)Z" } : Jvm.MethodName) ({ cls := "java/lang/String", name := "equals", desc := "(Ljava/lang/Object;)Z" } : Jvm.MethodName)).before a0 Z = true := hW.1 _ (List.mem_of_getElem? (i := 55) rfl)
theorem w_56 {Z : State} {a0 : Array Value} (hW : W0 Z a0) : (Jvm.Cond.code ({ cls := "java/lang/String", name := "equals", desc := "(Ljava/lang/Object;)Z" } : Jvm.MethodName) jdk_42_method_66_code (3 : Nat) (Option.some Jvm.ClassFile.FieldType.boolean)).before a0 Z = true := hW.1 _ (List.mem_of_getElem? (i := 56) rfl)
theorem w_57 {Z : State} {a0 : Array Value} (hW : W0 Z a0) : (Jvm.Cond.classLink "java/lang/String" (10 : Nat) "java/lang/String").before a0 Z = true := hW.1 _ (List.mem_of_getElem? (i := 57) rfl)
theorem w_58 {Z : State} {a0 : Array Value} (hW : W0 Z a0) : (Jvm.Cond.fieldLink "java/lang/String" (38 : Nat) "java/lang/String" "COMPACT_STRINGS" "Z").before a0 Z = true := hW.1 _ (List.mem_of_getElem? (i := 58) rfl)
theorem w_59 {Z : State} {a0 : Array Value} (hW : W0 Z a0) : (Jvm.Cond.methodLink "java/lang/String" (541 : Nat) ({ cls := "java/lang/StringLatin1", name := "equals", desc := "([B[B)Z" } : Jvm.MethodName)).before a0 Z = true := hW.1 _ (List.mem_of_getElem? (i := 59) rfl)
theorem w_60 {Z : State} {a0 : Array Value} (hW : W0 Z a0) : (Jvm.Cond.static ({ cls := "java/lang/StringLatin1", name := "equals", desc := "([B[B)Z" } : Jvm.MethodName)).before a0 Z = true := hW.1 _ (List.mem_of_getElem? (i := 60) rfl)
theorem w_61 {Z : State} {a0 : Array Value} (hW : W0 Z a0) : (Jvm.Cond.initialized "java/lang/StringLatin1").before a0 Z = true := hW.1 _ (List.mem_of_getElem? (i := 61) rfl)
theorem w_62 {Z : State} {a0 : Array Value} (hW : W0 Z a0) : (Jvm.Cond.code ({ cls := "java/lang/StringLatin1", name := "equals", desc := "([B[B)Z" } : Jvm.MethodName) jdk_43_method_13_code (3 : Nat) (Option.some Jvm.ClassFile.FieldType.boolean)).before a0 Z = true := hW.1 _ (List.mem_of_getElem? (i := 62) rfl)
theorem w_63 {Z : State} {a0 : Array Value} (hW : W0 Z a0) : (Jvm.Cond.methodLink "java/lang/String" (177 : Nat) ({ cls := "java/lang/StringUTF16", name := "compress", desc := "([CII)[B" } : Jvm.MethodName)).before a0 Z = true := hW.1 _ (List.mem_of_getElem? (i := 63) rfl)
theorem w_64 {Z : State} {a0 : Array Value} (hW : W0 Z a0) : (Jvm.Cond.static ({ cls := "java/lang/StringUTF16", name := "compress", desc := "([CII)[B" } : Jvm.MethodName)).before a0 Z = true := hW.1 _ (List.mem_of_getElem? (i := 64) rfl)
theorem w_65 {Z : State} {a0 : Array Value} (hW : W0 Z a0) : (Jvm.Cond.initialized "java/lang/StringUTF16").before a0 Z = true := hW.1 _ (List.mem_of_getElem? (i := 65) rfl)
theorem w_66 {Z : State} {a0 : Array Value} (hW : W0 Z a0) : (Jvm.Cond.code ({ cls := "java/lang/StringUTF16", name := "compress", desc := "([CII)[B" } : Jvm.MethodName) jdk_52_method_16_code (6 : Nat) (Option.some (Jvm.ClassFile.FieldType.array Jvm.ClassFile.FieldType.byte))).before a0 Z = true := hW.1 _ (List.mem_of_getElem? (i := 66) rfl)
theorem w_67 {Z : State} {a0 : Array Value} (hW : W0 Z a0) : (Jvm.Cond.methodLink "java/lang/StringUTF16" (115 : Nat) ({ cls := "java/lang/StringUTF16", name := "compress", desc := "([CI[BII)I" } : Jvm.MethodName)).before a0 Z = true := hW.1 _ (List.mem_of_getElem? (i := 67) rfl)
theorem w_68 {Z : State} {a0 : Array Value} (hW : W0 Z a0) : (Jvm.Cond.static ({ cls := "java/lang/StringUTF16", name := "compress", desc := "([CI[BII)I" } : Jvm.MethodName)).before a0 Z = true := hW.1 _ (List.mem_of_getElem? (i := 68) rfl)
theorem w_69 {Z : State} {a0 : Array Value} (hW : W0 Z a0) : (Jvm.Cond.code ({ cls := "java/lang/StringUTF16", name := "compress", desc := "([CI[BII)I" } : Jvm.MethodName) jdk_52_method_21_code (7 : Nat) (Option.some Jvm.ClassFile.FieldType.int)).before a0 Z = true := hW.1 _ (List.mem_of_getElem? (i := 69) rfl)
theorem w_70 {Z : State} {a0 : Array Value} (hW : W0 Z a0) : (Jvm.Cond.methodLink "java/lang/String" (47 : Nat) ({ cls := "java/lang/StringUTF16", name := "coderFromArrayLen", desc := "([BI)B" } : Jvm.MethodName)).before a0 Z = true := hW.1 _ (List.mem_of_getElem? (i := 70) rfl)
theorem w_71 {Z : State} {a0 : Array Value} (hW : W0 Z a0) : (Jvm.Cond.static ({ cls := "java/lang/StringUTF16", name := "coderFromArrayLen", desc := "([BI)B" } : Jvm.MethodName)).before a0 Z = true := hW.1 _ (List.mem_of_getElem? (i := 71) rfl)
theorem w_72 {Z : State} {a0 : Array Value} (hW : W0 Z a0) : (Jvm.Cond.code ({ cls := "java/lang/StringUTF16", name := "coderFromArrayLen", desc := "([BI)B" } : Jvm.MethodName) jdk_52_method_15_code (2 : Nat) (Option.some Jvm.ClassFile.FieldType.byte)).before a0 Z = true := hW.1 _ (List.mem_of_getElem? (i := 72) rfl)
theorem w_73 {Z : State} {a0 : Array Value} (hW : W0 Z a0) : (Jvm.Cond.superclass "java/lang/String" "java/lang/Object").before a0 Z = true := hW.1 _ (List.mem_of_getElem? (i := 73) rfl)
theorem w_74 {Z : State} {a0 : Array Value} (hW : W0 Z a0) : (Jvm.Cond.noSuperclass "java/lang/Object").before a0 Z = true := hW.1 _ (List.mem_of_getElem? (i := 74) rfl)
theorem s_0 {Z : State} {a0 : Array Value} (hW : W0 Z a0) : (Jvm.Cond.initializedFor "java/lang/String" "COMPACT_STRINGS" "Z").before a0 Z = true := hW.2 _ (List.mem_of_getElem? (i := 0) rfl)
theorem s_1 {Z : State} {a0 : Array Value} (hW : W0 Z a0) : (Jvm.Cond.isInt (Jvm.Term.static "java/lang/String" "COMPACT_STRINGS" "Z")).before a0 Z = true := hW.2 _ (List.mem_of_getElem? (i := 1) rfl)
theorem s_2 {Z : State} {a0 : Array Value} (hW : W0 Z a0) : (Jvm.Cond.not (Jvm.Cond.eq (Jvm.Term.static "java/lang/String" "COMPACT_STRINGS" "Z") (Jvm.Term.int (0 : Int32)))).before a0 Z = true := hW.2 _ (List.mem_of_getElem? (i := 2) rfl)
theorem fl_0 {Z : State} {a0 : Array Value} (hW : W0 Z a0) : LaidL Z a0 "java/lang/String" fStr := ⟨⟨Or.inr (w_25 hW), (.array .byte), by decide +kernel⟩, ⟨⟨Or.inr (w_26 hW), .byte, by decide +kernel⟩, trivial⟩⟩
theorem nd_0 : (fStr.map (fun q => q.2.1)).Nodup := by decide +kernel
theorem dv_0 : fStr.map (fun q => (parseFieldDescriptor q.2.2).map defaultValue) = [.null, (.int (0 : Int32))].map some := by decide +kernel
def f_1 : FL := [("com/example/text_span_search/textspansearch/trec/Topic", "id", "Ljava/lang/String;"), ("com/example/text_span_search/textspansearch/trec/Topic", "query", "Ljava/lang/String;")]
theorem fl_1 {Z : State} {a0 : Array Value} (hW : W0 Z a0) : LaidL Z a0 "com/example/text_span_search/textspansearch/trec/Topic" f_1 := ⟨⟨Or.inr (w_39 hW), (.object "java/lang/String"), by decide +kernel⟩, ⟨⟨Or.inr (w_41 hW), (.object "java/lang/String"), by decide +kernel⟩, trivial⟩⟩
theorem nd_1 : (f_1.map (fun q => q.2.1)).Nodup := by decide +kernel
theorem dv_1 : f_1.map (fun q => (parseFieldDescriptor q.2.2).map defaultValue) = [.null, .null].map some := by decide +kernel
theorem own_txt_23 : (∀ c ∈ ("" : String).toList, c.toNat < 256) ∧ ("" : String).toList.map (fun c => Value.int (Jvm.Lit.byteI c.toNat.toUInt16)) = List.map Value.int [] := by decide +kernel
theorem own_tln_23 : (Int32.ofNat ([] : List Int32).length).toNatClampNeg = ([] : List Int32).length ∧ ¬ (Int32.ofNat ([] : List Int32).length) < 0 := by decide +kernel
theorem own_EL_mem_23 : (("java/lang/String", 7) : String × Nat) ∈ own_EL := List.mem_of_getElem? (i := 0) rfl
theorem own_ew {Z : State} {a0 : Array Value} (hW : W0 Z a0) : EW Z a0 own_EL := (EW.cons (w_23 hW) own_txt_23.1 EW.nil)
theorem own_sa {Z : State} {a0 : Array Value} (hW : W0 Z a0) : ∀ a ∈ Bundle.stringAtoms, a.before a0 Z = true := by
  intro a ha
  simp only [Bundle.stringAtoms, List.mem_cons, List.not_mem_nil, or_false] at ha
  rcases ha with rfl | rfl | rfl | rfl | rfl | rfl | rfl
  · exact (w_11 hW)
  · exact (w_10 hW)
  · exact (w_24 hW)
  · exact (w_25 hW)
  · exact (w_26 hW)
  · exact (w_27 hW)
  · exact (w_28 hW)
theorem own_cs {Z : State} {a0 : Array Value} (hW : W0 Z a0) : ∃ cz : Int32, Sta Z Z.heap "java/lang/String" "COMPACT_STRINGS" "Z" (.int cz) ∧ ¬ cz = 0 := by
  obtain ⟨cz, ev⟩ := is_v (Cond.before_iff.mp (s_1 hW))
  refine ⟨cz, Sta.start ev (Or.inl (s_0 hW)), fun e => ?_⟩
  subst e
  have q := (s_2 hW)
  simp [Cond.before, Cond.holds, Cond.value, ev, Term.int_eval] at q
set_option maxRecDepth 65536 in
set_option maxHeartbeats 40000000 in
theorem own_lp_cmp {k : KT} {l : Launch} {Z : State} {a0 : Array Value} (hW : W0 Z a0) {h0 : Heap} {a t : Addr} {cs : List Int32} {QQ : QT}
    (C : Ctx k l y_0 jdk_52_method_21_code 7 (some .int) ({ frames := 0, cells := 0, slots := 0, locals := 0 } : Room) Z a0 own_EL true [t] h0 QQ) (hcs : own_lat cs) (hne : a ≠ t) (hQ : ∀ h', Av Z h' t .byte (List.map Value.int (List.map own_b cs)) → QQ (some (.int (Int32.ofNat (List.length cs)))) h' []) :
    ∀ (n i : Nat) (h : Heap) (s6 : Slot), i + n = cs.length → Sl s6 → Av Z h a .char (List.map Value.int cs) → Av Z h t .byte (List.map Value.int ((cs.take i).map own_b ++ List.replicate n 0)) → Go k h [t] 0 0 3 #[.val (.ref a), .val (.int (Int32.ofNat i)), .val (.ref t), .val (.int (Int32.ofNat i)), .val (.int (Int32.ofNat (List.length cs))), .val (.int (Int32.ofNat i)), s6] [] := by
  intro n
  induction n with
  | zero =>
    intro i h s6 hin hs6 V U
    have hi : i = cs.length := by omega
    subst hi
    have hl := V.lenI
    refine Go.iload C d12_3 rfl ?_
    refine Go.iload C d12_5 rfl ?_
    refine Go.icmpge C d12_7 (fun hc7 => ?_) (fun hc7 => absurd hc7 (by rw [nI_lt hl hl]; omega))
    refine Go.iload C d12_44 rfl ?_
    refine Go.ireturn C d12_46 (Nat.le_of_ble_eq_true rfl) (Nat.le_of_ble_eq_true rfl) (by simp) rfl [] (fun _ hx => nomatch hx) ?_
    exact hQ _ (by simpa using U)
  | succ n ih =>
    intro i h s6 hin hs6 V U
    have hl := V.lenI
    obtain ⟨c, hci⟩ : ∃ c, cs[i]? = some c := ⟨cs[i]'(by omega), List.getElem?_eq_getElem (by omega)⟩
    refine Go.iload C d12_3 rfl ?_
    refine Go.iload C d12_5 rfl ?_
    refine Go.icmpge C d12_7 (fun hc7 => absurd ((nI_lt (by omega) hl).mpr (by omega)) hc7) (fun hc7 => ?_)
    refine Go.aloadN C d12_10 rfl rfl ?_
    refine Go.iloadN C d12_11 rfl ?_
    refine Go.caload C V i (nI_nn (by omega)) (nI_nat (by omega)) (by rw [List.getElem?_map, hci]; rfl) d12_12 ?_
    refine Go.istore C d12_13 (Ls' := #[.val (.ref a), .val (.int (Int32.ofNat i)), .val (.ref t), .val (.int (Int32.ofNat i)), .val (.int (Int32.ofNat (List.length cs))), .val (.int (Int32.ofNat i)), .val (.int c)]) (sto1 rfl hs6 rfl rfl) ?_
    refine Go.iload C d12_15 rfl ?_
    refine Go.sipush C (255 : Int32) d12_17 (by decide) ?_
    refine Go.icmple C d12_20 (fun hc20 => ?_) (fun hc20 => absurd hc20 (hcs c (List.mem_of_getElem? hci)).2)
    refine Go.aloadN C d12_26 rfl rfl ?_
    refine Go.iloadN C d12_27 rfl ?_
    refine Go.iload C d12_28 rfl ?_
    refine Go.i2b C d12_30 ?_
    refine Go.bastore C U (List.mem_of_getElem? (i := 0) rfl) i (nI_nn (by omega)) (nI_nat (by omega)) (by simp; omega) (x' := (own_b c)) (own_b_nar c) (vs' := (List.map Value.int ((cs.take (i + 1)).map own_b ++ List.replicate n 0))) (own_set (by omega) hci) d12_31 (fun h1 K2 U => ?_)
    replace V := V.keep K2 (ninS hne nin0)
    refine Go.iinc C (Int32.ofNat (i + 1)) d12_32 rfl (nI_succ _) (Ls' := #[.val (.ref a), .val (.int (Int32.ofNat (i + 1))), .val (.ref t), .val (.int (Int32.ofNat i)), .val (.int (Int32.ofNat (List.length cs))), .val (.int (Int32.ofNat i)), .val (.int c)]) rfl ?_
    refine Go.iinc C (Int32.ofNat (i + 1)) d12_35 rfl (nI_succ _) (Ls' := #[.val (.ref a), .val (.int (Int32.ofNat (i + 1))), .val (.ref t), .val (.int (Int32.ofNat (i + 1))), .val (.int (Int32.ofNat (List.length cs))), .val (.int (Int32.ofNat i)), .val (.int c)]) rfl ?_
    refine Go.iinc C (Int32.ofNat (i + 1)) d12_38 rfl (nI_succ _) (Ls' := #[.val (.ref a), .val (.int (Int32.ofNat (i + 1))), .val (.ref t), .val (.int (Int32.ofNat (i + 1))), .val (.int (Int32.ofNat (List.length cs))), .val (.int (Int32.ofNat (i + 1))), .val (.int c)]) rfl ?_
    refine Go.goto C d12_41 ?_
    exact ih (i + 1) _ _ (by omega) (Sl.val rfl) V U
def Q12 (Z : State) (h : Heap) (a : Addr) (t : Addr) (cs : List Int32) : QT := fun v h' os' => (v = some (.int (Int32.ofNat (List.length cs)))) ∧ (os' = []) ∧ (Av Z h' t .byte (List.map Value.int (List.map own_b cs)))
set_option maxRecDepth 65536 in
set_option maxHeartbeats 40000000 in
theorem rm12 {l : Launch} {Z : State} {a0 : Array Value} (hW : W0 Z a0) (h : Heap) (a : Addr) (t : Addr) (cs : List Int32) (V : Av Z h a .char (List.map Value.int cs)) (U : Av Z h t .byte (List.map Value.int (List.replicate (List.length cs) (0 : Int32)))) (hcs : own_lat cs) (hne : a ≠ t) :
    Con l Z own_EL true y_0 jdk_52_method_21_code 7 (some .int) ({ frames := 0, cells := 0, slots := 0, locals := 0 } : Room) [] #[(.ref a), (.int (0 : Int32)), (.ref t), (.int (0 : Int32)), (.int (Int32.ofNat (List.length cs)))] h [t] (Q12 Z h a t cs) := by
  refine Con.intro (a0 := a0) (Ls := #[.val (.ref a), .val (.int (0 : Int32)), .val (.ref t), .val (.int (0 : Int32)), .val (.int (Int32.ofNat (List.length cs))), .unset, .unset]) (by decide +kernel) (own_ew hW) (fun m => by first | (simp [entryFrame, mkF, argsToLocals, Value.category]; done) | rfl) ?_
  intro k C
  refine Go.iconst C (0 : Int32) d12_0 (by decide) ?_
  refine Go.istore C d12_1 (Ls' := #[.val (.ref a), .val (.int (0 : Int32)), .val (.ref t), .val (.int (0 : Int32)), .val (.int (Int32.ofNat (List.length cs))), .val (.int (0 : Int32)), .unset]) rfl ?_
  exact own_lp_cmp hW C hcs hne (fun h' q => ⟨rfl, rfl, q⟩) (List.length cs) 0 _ _ (by omega) Sl.u V (by simpa using U)
def Q11 (Z : State) (h : Heap) (a : Addr) (cs : List Int32) : QT := fun v h' os' => ∃ t : Addr, (v = some (.ref t)) ∧ (os' = [t]) ∧ (Av Z h' t .byte (List.map Value.int (List.map own_b cs)))
set_option maxRecDepth 65536 in
set_option maxHeartbeats 40000000 in
theorem rm11 {l : Launch} {Z : State} {a0 : Array Value} (hW : W0 Z a0) (h : Heap) (a : Addr) (cs : List Int32) (V : Av Z h a .char (List.map Value.int cs)) (hcs : own_lat cs) (hcap : (List.length cs) ≤ 2) :
    Con l Z own_EL true y_1 jdk_52_method_16_code 6 (some (.array .byte)) ({ frames := 1, cells := 1, slots := 2, locals := 18 } : Room) [] #[(.ref a), (.int (0 : Int32)), (.int (Int32.ofNat (List.length cs)))] h [] (Q11 Z h a cs) := by
  refine Con.intro (a0 := a0) (Ls := #[.val (.ref a), .val (.int (0 : Int32)), .val (.int (Int32.ofNat (List.length cs))), .unset, .unset, .unset]) (by decide +kernel) (own_ew hW) (fun m => by first | (simp [entryFrame, mkF, argsToLocals, Value.category]; done) | rfl) ?_
  intro k C
  have hl := V.lenI
  refine Go.iloadN C d11_0 rfl ?_
  refine Go.newarray C (aty := .byte) (w_24 hW) d11_1 (nI_nn hl) (List.length cs) (nI_nat hl) (cap := 2) hcap (by decide) (by decide) (by decide) (fun b1 h2 e3 K4 A5 => ?_)
  have A5 : Av Z h2 b1 .byte (List.replicate (List.length cs) (.int (0 : Int32))) := A5
  have ge_b1 : h.size ≤ b1 := Nat.le_trans (Nat.le_refl _) (ge_of e3)
  have n_a_b1 : a ≠ b1 := ne_lt V.lt (ge_of e3)
  replace V := V.k0 K4
  have l_h2 : h.size ≤ h2.size := Nat.le_trans (Nat.le_refl _) K4.1
  replace A5 : Av Z h2 b1 .byte (List.map Value.int (List.replicate (List.length cs) (0 : Int32))) := by rw [List.map_replicate]; exact A5
  refine Go.astoreN C d11_3 rfl (Ls' := #[.val (.ref a), .val (.int (0 : Int32)), .val (.int (Int32.ofNat (List.length cs))), .val (.ref b1), .unset, .unset]) rfl ?_
  refine Go.aloadN C d11_4 rfl rfl ?_
  refine Go.iloadN C d11_5 rfl ?_
  refine Go.aloadN C d11_6 rfl rfl ?_
  refine Go.iconst C (0 : Int32) d11_7 (by decide) ?_
  refine Go.iloadN C d11_8 rfl ?_
  refine Go.callS C (z := y_0) (argsL := [(.ref a), (.int (0 : Int32)), (.ref b1), (.int (0 : Int32)), (.int (Int32.ofNat (List.length cs)))]) (rm12 hW h2 (a) (b1) (cs) V A5 (by assumption) n_a_b1) (w_67 hW) (w_68 hW) (w_65 hW) (w_69 hW) d11_9 pd_0 rfl (by decide) rfl (st := []) rfl (by decide) (Nat.le_of_ble_eq_true rfl) (by decide) (by decide) (List.forall_mem_cons.mpr ⟨(List.mem_of_getElem? (i := 0) rfl), (fun _ hx => nomatch hx)⟩) (fun v6 h7 os8 q9 K10 ho11 => ?_)
  obtain ⟨rfl, rfl, F12⟩ := q9
  replace V := V.keep K10 (ninS n_a_b1 nin0)
  have l_h7 : h.size ≤ h7.size := Nat.le_trans l_h2 K10.1
  show Go k h7 _ _ _ 12 #[.val (.ref a), .val (.int (0 : Int32)), .val (.int (Int32.ofNat (List.length cs))), .val (.ref b1), .unset, .unset] [(.int (Int32.ofNat (List.length cs)))]
  refine Go.istore C d11_12 (Ls' := #[.val (.ref a), .val (.int (0 : Int32)), .val (.int (Int32.ofNat (List.length cs))), .val (.ref b1), .val (.int (Int32.ofNat (List.length cs))), .unset]) rfl ?_
  refine Go.iload C d11_14 rfl ?_
  refine Go.iloadN C d11_16 rfl ?_
  refine Go.icmpeq C d11_17 (fun hc17 => ?_) (fun hc17 => absurd rfl hc17)
  refine Go.aloadN C d11_57 rfl rfl ?_
  refine Go.areturn C d11_58 (Nat.le_of_ble_eq_true rfl) (Nat.le_of_ble_eq_true rfl) rfl rfl [b1] (List.forall_mem_cons.mpr ⟨⟨(List.mem_of_getElem? (i := 0) rfl), ge_b1⟩, (fun _ hx => nomatch hx)⟩) ?_
  exact ⟨_, rfl, rfl, F12⟩
def Q13 (Z : State) (h : Heap) (t : Addr) (bs : List Int32) (n : Int32) : QT := fun v h' os' => (v = some (.int (0 : Int32))) ∧ (os' = []) ∧ (h = h')
set_option maxRecDepth 65536 in
set_option maxHeartbeats 40000000 in
theorem rm13 {l : Launch} {Z : State} {a0 : Array Value} (hW : W0 Z a0) (h : Heap) (t : Addr) (bs : List Int32) (n : Int32) (V : Av Z h t .byte (List.map Value.int bs)) (hn : n = Int32.ofNat (List.length bs)) :
    Con l Z own_EL true y_2 jdk_52_method_15_code 2 (some .byte) ({ frames := 0, cells := 0, slots := 0, locals := 0 } : Room) [] #[(.ref t), (.int n)] h [] (Q13 Z h t bs n) := by
  refine Con.intro (a0 := a0) (Ls := #[.val (.ref t), .val (.int n)]) (by decide +kernel) (own_ew hW) (fun m => by first | (simp [entryFrame, mkF, argsToLocals, Value.category]; done) | rfl) ?_
  intro k C
  refine Go.iloadN C d13_0 rfl ?_
  refine Go.aloadN C d13_1 rfl rfl ?_
  refine Go.arraylength C V (Int32.ofNat (List.length bs)) (by rw [List.length_map]) d13_2 ?_
  refine Go.isub C d13_3 ?_
  refine Go.eqI (x' := (0 : Int32)) (by rw [hn, Int32.sub_self]) ?_
  refine Go.bipush C (31 : Int32) d13_4 (by decide) ?_
  refine Go.iushr C d13_6 ?_
  refine Go.eqI (x' := (0 : Int32)) (by decide) ?_
  refine Go.i2b C d13_7 ?_
  refine Go.eqI (x' := (0 : Int32)) (by decide) ?_
  refine Go.ireturn C d13_8 (Nat.le_of_ble_eq_true rfl) (Nat.le_of_ble_eq_true rfl) (by simp) rfl [] (fun _ hx => nomatch hx) ?_
  exact ⟨rfl, rfl, rfl⟩
def Q4 (Z : State) (h : Heap) (x : Addr) (a : Addr) (cs : List Int32) : QT := fun v h' os' => ∃ t : Addr, (v = none) ∧ (os' = []) ∧ (Str Z h' x t (List.map own_b cs))
set_option maxRecDepth 65536 in
set_option maxHeartbeats 40000000 in
theorem rm4 {l : Launch} {Z : State} {a0 : Array Value} (hW : W0 Z a0) (h : Heap) (x : Addr) (a : Addr) (cs : List Int32) (O : Obj Z h x "java/lang/String" fStr [.null, (.int (0 : Int32))]) (V : Av Z h a .char (List.map Value.int cs)) (hcs : own_lat cs) (hcap : (List.length cs) ≤ 2) (hxa : a ≠ x) :
    Con l Z own_EL true y_3 jdk_42_method_149_code 6 none ({ frames := 2, cells := 4, slots := 8, locals := 35 } : Room) [] #[(.ref x), (.ref a), (.int (0 : Int32)), (.int (Int32.ofNat (List.length cs))), .null] h [x] (Q4 Z h x a cs) := by
  refine Con.intro (a0 := a0) (Ls := #[.val (.ref x), .val (.ref a), .val (.int (0 : Int32)), .val (.int (Int32.ofNat (List.length cs))), .val .null, .unset]) (by decide +kernel) (own_ew hW) (fun m => by first | (simp [entryFrame, mkF, argsToLocals, Value.category]; done) | rfl) ?_
  intro k C
  obtain ⟨cz, Scs, ncz⟩ := own_cs hW
  have hl := V.lenI
  refine Go.aloadN C d4_0 rfl rfl ?_
  refine Go.initO C (w_20 hW) (w_21 hW) (w_22 hW) d4_1 rfl (by decide) (Nat.le_of_ble_eq_true rfl) ?_
  refine Go.iloadN C d4_4 rfl ?_
  refine Go.ifne C d4_5 (fun hc5 => ?_) (fun hc5 => ?_)
  · refine Go.getS C Scs (host := "") (Or.inl (w_58 hW)) Via.refl d4_27 ?_
    refine Go.ifeq C d4_30 (fun hc30 => absurd hc30 ncz) (fun hc30 => ?_)
    refine Go.aloadN C d4_33 rfl rfl ?_
    refine Go.iloadN C d4_34 rfl ?_
    refine Go.iloadN C d4_35 rfl ?_
    refine Go.callS C (z := y_1) (argsL := [(.ref a), (.int (0 : Int32)), (.int (Int32.ofNat (List.length cs)))]) (rm11 hW h (a) (cs) V (by assumption) (by assumption)) (w_63 hW) (w_64 hW) (w_65 hW) (w_66 hW) d4_36 pd_1 rfl (by decide) rfl (st := []) rfl (by decide) (Nat.le_of_ble_eq_true rfl) (by decide) (by decide) ((fun _ hx => nomatch hx)) (fun v15 h16 os17 q18 K19 ho20 => ?_)
    obtain ⟨t21, rfl, rfl, F22⟩ := q18
    have g_t21 : h.size ≤ t21 := (ho20 _ (List.mem_of_getElem? (i := 0) rfl)).1
    have n_x_t21 : x ≠ t21 := ne_lt O.lt g_t21
    have n_a_t21 : a ≠ t21 := ne_lt V.lt g_t21
    replace O := O.k0 K19
    replace V := V.k0 K19
    show Go k h16 _ _ _ 39 #[.val (.ref x), .val (.ref a), .val (.int (0 : Int32)), .val (.int (Int32.ofNat (List.length cs))), .val .null, .unset] [(.ref t21)]
    refine Go.astore C d4_39 rfl (Ls' := #[.val (.ref x), .val (.ref a), .val (.int (0 : Int32)), .val (.int (Int32.ofNat (List.length cs))), .val .null, .val (.ref t21)]) rfl ?_
    refine Go.aloadN C d4_41 rfl rfl ?_
    refine Go.aload C d4_42 rfl rfl ?_
    refine Go.iloadN C d4_44 rfl ?_
    refine Go.callS C (z := y_2) (argsL := [(.ref t21), (.int (Int32.ofNat (List.length cs)))]) (rm13 hW h16 (t21) ((List.map own_b cs)) ((Int32.ofNat (List.length cs))) F22 (by rw [List.length_map])) (w_70 hW) (w_71 hW) (w_65 hW) (w_72 hW) d4_45 pd_2 rfl (by decide) rfl (st := [(.ref x)]) rfl (by decide) (Nat.le_of_ble_eq_true rfl) (by decide) (by decide) ((fun _ hx => nomatch hx)) (fun v23 h24 os25 q26 K27 ho28 => ?_)
    obtain ⟨rfl, rfl, rfl⟩ := q26
    clear K27 ho28
    show Go k h16 _ _ _ 48 #[.val (.ref x), .val (.ref a), .val (.int (0 : Int32)), .val (.int (Int32.ofNat (List.length cs))), .val .null, .val (.ref t21)] [(.int (0 : Int32)), (.ref x)]
    refine Go.putF C O (List.mem_of_getElem? (i := 1) rfl) 1 rfl (w_30 hW) Via.refl (Or.inr ⟨w_26 hW, rfl, rfl⟩) (w_10 hW) (fl_0 hW) nd_0 (ty := .byte) (by decide +kernel) (v' := (.int (0 : Int32))) rfl rfl (vs' := [.null, (.int (0 : Int32))]) rfl d4_48 (fun h29 K30 O => ?_)
    replace V := V.keep K30 (ninS hxa nin0)
    replace F22 := F22.keep K30 (ninS (Ne.symm n_x_t21) nin0)
    refine Go.aloadN C d4_51 rfl rfl ?_
    refine Go.aload C d4_52 rfl rfl ?_
    refine Go.putF C O (List.mem_of_getElem? (i := 1) rfl) 0 rfl (w_29 hW) Via.refl (Or.inr ⟨w_25 hW, rfl, rfl⟩) (w_10 hW) (fl_0 hW) nd_0 (ty := (.array .byte)) (by decide +kernel) (v' := (.ref t21)) rfl rfl (vs' := [(.ref t21), (.int (0 : Int32))]) rfl d4_54 (fun h31 K32 O => ?_)
    replace V := V.keep K32 (ninS hxa nin0)
    replace F22 := F22.keep K32 (ninS (Ne.symm n_x_t21) nin0)
    refine Go.retV C d4_57 (Nat.le_of_ble_eq_true rfl) (Nat.le_of_ble_eq_true rfl) [] (fun _ hx => nomatch hx) ?_
    exact ⟨_, rfl, rfl, ⟨O, F22⟩⟩
  · have hnil := own_nil hl hc5
    refine Go.aloadN C d4_8 rfl rfl ?_
    refine Go.ldcStr C (w_23 hW) (own_sa hW) own_EL_mem_23 (bs := []) own_txt_23 own_tln_23 d4_9 (n := 0) (by decide) (by decide) (by decide) (by decide) (fun a1 t3 h2 K4 F5 nF5 => ?_)
    replace O := O.k0 K4
    replace V := V.k0 K4
    refine Go.getF C F5.1 0 rfl rfl (host := "") (Or.inl (w_29 hW)) Via.refl d4_11 ?_
    refine Go.putF C O (List.mem_of_getElem? (i := 0) rfl) 0 rfl (w_29 hW) Via.refl (Or.inr ⟨w_25 hW, rfl, rfl⟩) (w_10 hW) (fl_0 hW) nd_0 (ty := (.array .byte)) (by decide +kernel) (v' := (.ref t3)) rfl rfl (vs' := [(.ref t3), (.int (0 : Int32))]) rfl d4_14 (fun h6 K7 O => ?_)
    replace V := V.keep K7 (ninS hxa nin0)
    replace F5 := F5.keep K7 (ninS (nF5 x (List.mem_of_getElem? (i := 0) rfl)).1 nin0) (ninS (nF5 x (List.mem_of_getElem? (i := 0) rfl)).2 nin0)
    refine Go.aloadN C d4_17 rfl rfl ?_
    refine Go.ldcStr C (w_23 hW) (own_sa hW) own_EL_mem_23 (bs := []) own_txt_23 own_tln_23 d4_18 (n := 0) (by decide) (by decide) (by decide) (by decide) (fun a8 t10 h9 K11 F12 nF12 => ?_)
    replace O := O.k0 K11
    replace V := V.k0 K11
    replace F5 := F5.k0 K11
    refine Go.getF C F12.1 1 rfl rfl (host := "") (Or.inl (w_30 hW)) Via.refl d4_20 ?_
    refine Go.putF C O (List.mem_of_getElem? (i := 0) rfl) 1 rfl (w_30 hW) Via.refl (Or.inr ⟨w_26 hW, rfl, rfl⟩) (w_10 hW) (fl_0 hW) nd_0 (ty := .byte) (by decide +kernel) (v' := (.int (0 : Int32))) rfl rfl (vs' := [(.ref t3), (.int (0 : Int32))]) rfl d4_23 (fun h13 K14 O => ?_)
    replace V := V.keep K14 (ninS hxa nin0)
    replace F5 := F5.keep K14 (ninS (nF5 x (List.mem_of_getElem? (i := 0) rfl)).1 nin0) (ninS (nF5 x (List.mem_of_getElem? (i := 0) rfl)).2 nin0)
    replace F12 := F12.keep K14 (ninS (nF12 x (List.mem_of_getElem? (i := 0) rfl)).1 nin0) (ninS (nF12 x (List.mem_of_getElem? (i := 0) rfl)).2 nin0)
    refine Go.retV C d4_26 (Nat.le_of_ble_eq_true rfl) (Nat.le_of_ble_eq_true rfl) [] (fun _ hx => nomatch hx) ?_
    exact ⟨_, rfl, rfl, by rw [hnil]; exact ⟨O, F5.2⟩⟩
def Q3 (Z : State) (h : Heap) (x : Addr) (a : Addr) (cs : List Int32) : QT := fun v h' os' => ∃ t : Addr, (v = none) ∧ (os' = []) ∧ (Str Z h' x t (List.map own_b cs))
set_option maxRecDepth 65536 in
set_option maxHeartbeats 40000000 in
theorem rm3 {l : Launch} {Z : State} {a0 : Array Value} (hW : W0 Z a0) (h : Heap) (x : Addr) (a : Addr) (cs : List Int32) (O : Obj Z h x "java/lang/String" fStr [.null, (.int (0 : Int32))]) (V : Av Z h a .char (List.map Value.int cs)) (hcs : own_lat cs) (hcap : (List.length cs) ≤ 2) (hxa : a ≠ x) :
    Con l Z own_EL true y_4 jdk_42_method_3_code 2 none ({ frames := 3, cells := 4, slots := 8, locals := 60 } : Room) [] #[(.ref x), (.ref a)] h [x] (Q3 Z h x a cs) := by
  refine Con.intro (a0 := a0) (Ls := #[.val (.ref x), .val (.ref a)]) (by decide +kernel) (own_ew hW) (fun m => by first | (simp [entryFrame, mkF, argsToLocals, Value.category]; done) | rfl) ?_
  intro k C
  refine Go.aloadN C d3_0 rfl rfl ?_
  refine Go.aloadN C d3_1 rfl rfl ?_
  refine Go.iconst C (0 : Int32) d3_2 (by decide) ?_
  refine Go.aloadN C d3_3 rfl rfl ?_
  refine Go.arraylength C V (Int32.ofNat (List.length cs)) (by rw [List.length_map]) d3_4 ?_
  refine Go.aconstNull C d3_5 ?_
  refine Go.callI C (z := y_3) (a := x) (argsL := [(.ref a), (.int (0 : Int32)), (.int (Int32.ofNat (List.length cs))), .null]) (rm4 hW h (x) (a) (cs) O V (by assumption) (by assumption) (by assumption)) rfl (w_16 hW) (w_17 hW) (w_11 hW) (w_19 hW) d3_6 pd_3 rfl (by decide) rfl (st := []) rfl (by decide) (Nat.le_of_ble_eq_true rfl) (by decide) (by decide) (List.forall_mem_cons.mpr ⟨(List.mem_of_getElem? (i := 0) rfl), (fun _ hx => nomatch hx)⟩) (fun v1 h2 os3 q4 K5 ho6 => ?_)
  obtain ⟨t7, rfl, rfl, F8⟩ := q4
  replace V := V.keep K5 (ninS hxa nin0)
  show Go k h2 _ _ _ 9 #[.val (.ref x), .val (.ref a)] []
  refine Go.retV C d3_9 (Nat.le_of_ble_eq_true rfl) (Nat.le_of_ble_eq_true rfl) [] (fun _ hx => nomatch hx) ?_
  exact ⟨_, rfl, rfl, F8⟩
set_option maxRecDepth 65536 in
set_option maxHeartbeats 40000000 in
theorem own_lp_eq {k : KT} {l : Launch} {Z : State} {a0 : Array Value} (hW : W0 Z a0) {h0 : Heap} {a b : Addr} {xs ys : List Int32} {h : Heap} {QQ : QT}
    (C : Ctx k l y_5 jdk_43_method_13_code 3 (some .boolean) ({ frames := 0, cells := 0, slots := 0, locals := 0 } : Room) Z a0 own_EL true [] h0 QQ) (V : Av Z h a .byte (List.map Value.int xs)) (U : Av Z h b .byte (List.map Value.int ys)) (hlen : xs.length = ys.length) (hQ1 : xs = ys → QQ (some (.int 1)) h []) (hQ0 : ¬ xs = ys → QQ (some (.int 0)) h []) :
    ∀ (n i : Nat), i + n = xs.length → (∀ j, j < i → xs[j]? = ys[j]?) → Go k h [] 0 0 9 #[.val (.ref a), .val (.ref b), .val (.int (Int32.ofNat i))] [] := by
  intro n
  induction n with
  | zero =>
    intro i hin hpre
    have hl := V.lenI
    refine Go.iloadN C d10_9 rfl ?_
    refine Go.aloadN C d10_10 rfl rfl ?_
    refine Go.arraylength C V (Int32.ofNat (List.length xs)) (by rw [List.length_map]) d10_11 ?_
    refine Go.icmpge C d10_12 (fun hc12 => ?_) (fun hc12 => absurd hc12 (by rw [nI_lt (by omega) hl]; omega))
    refine Go.iconst C (1 : Int32) d10_32 (by decide) ?_
    refine Go.ireturn C d10_33 (Nat.le_of_ble_eq_true rfl) (Nat.le_of_ble_eq_true rfl) (by simp) rfl [] (fun _ hx => nomatch hx) ?_
    exact hQ1 (List.ext_getElem? fun j => by
      by_cases hj : j < xs.length
      · exact hpre j (by omega)
      · rw [List.getElem?_eq_none (by omega), List.getElem?_eq_none (by omega)])
  | succ n ih =>
    intro i hin hpre
    have hl := V.lenI
    obtain ⟨c, hci⟩ : ∃ c, xs[i]? = some c := ⟨xs[i]'(by omega), List.getElem?_eq_getElem (by omega)⟩
    obtain ⟨e, hei⟩ : ∃ e, ys[i]? = some e := ⟨ys[i]'(by omega), List.getElem?_eq_getElem (by omega)⟩
    refine Go.iloadN C d10_9 rfl ?_
    refine Go.aloadN C d10_10 rfl rfl ?_
    refine Go.arraylength C V (Int32.ofNat (List.length xs)) (by rw [List.length_map]) d10_11 ?_
    refine Go.icmpge C d10_12 (fun hc12 => absurd ((nI_lt (by omega) hl).mpr (by omega)) hc12) (fun hc12 => ?_)
    refine Go.aloadN C d10_15 rfl rfl ?_
    refine Go.iloadN C d10_16 rfl ?_
    refine Go.baload C V i (nI_nn (by omega)) (nI_nat (by omega)) (by rw [List.getElem?_map, hci]; rfl) d10_17 ?_
    refine Go.aloadN C d10_18 rfl rfl ?_
    refine Go.iloadN C d10_19 rfl ?_
    refine Go.baload C U i (nI_nn (by omega)) (nI_nat (by omega)) (by rw [List.getElem?_map, hei]; rfl) d10_20 ?_
    refine Go.icmpeq C d10_21 (fun hc21 => ?_) (fun hc21 => ?_)
    · refine Go.iinc C (Int32.ofNat (i + 1)) d10_26 rfl (nI_succ _) (Ls' := #[.val (.ref a), .val (.ref b), .val (.int (Int32.ofNat (i + 1)))]) rfl ?_
      refine Go.goto C d10_29 ?_
      refine ih (i + 1) (by omega) (fun j hj => ?_)
      by_cases hji : j = i
      · subst hji; rw [hci, hei, hc21]
      · exact hpre j (by omega)
    · refine Go.iconst C (0 : Int32) d10_24 (by decide) ?_
      refine Go.ireturn C d10_25 (Nat.le_of_ble_eq_true rfl) (Nat.le_of_ble_eq_true rfl) (by simp) rfl [] (fun _ hx => nomatch hx) ?_
      exact hQ0 (fun q => hc21 (by subst q; rw [hci] at hei; exact Option.some.inj hei))
def Q10 (Z : State) (h : Heap) (a : Addr) (b : Addr) (xs : List Int32) (ys : List Int32) : QT := fun v h' os' => (v = some (.int (if xs = ys then (1 : Int32) else 0))) ∧ (os' = []) ∧ (h = h')
set_option maxRecDepth 65536 in
set_option maxHeartbeats 40000000 in
theorem rm10 {l : Launch} {Z : State} {a0 : Array Value} (hW : W0 Z a0) (h : Heap) (a : Addr) (b : Addr) (xs : List Int32) (ys : List Int32) (V : Av Z h a .byte (List.map Value.int xs)) (U : Av Z h b .byte (List.map Value.int ys)) :
    Con l Z own_EL true y_5 jdk_43_method_13_code 3 (some .boolean) ({ frames := 0, cells := 0, slots := 0, locals := 0 } : Room) [] #[(.ref a), (.ref b)] h [] (Q10 Z h a b xs ys) := by
  refine Con.intro (a0 := a0) (Ls := #[.val (.ref a), .val (.ref b), .unset]) (by decide +kernel) (own_ew hW) (fun m => by first | (simp [entryFrame, mkF, argsToLocals, Value.category]; done) | rfl) ?_
  intro k C
  have hl := V.lenI
  have hl' := U.lenI
  refine Go.aloadN C d10_0 rfl rfl ?_
  refine Go.arraylength C V (Int32.ofNat (List.length xs)) (by rw [List.length_map]) d10_1 ?_
  refine Go.aloadN C d10_2 rfl rfl ?_
  refine Go.arraylength C U (Int32.ofNat (List.length ys)) (by rw [List.length_map]) d10_3 ?_
  refine Go.icmpne C d10_4 (fun hc4 => ?_) (fun hc4 => ?_)
  · refine Go.iconst C (0 : Int32) d10_34 (by decide) ?_
    refine Go.ireturn C d10_35 (Nat.le_of_ble_eq_true rfl) (Nat.le_of_ble_eq_true rfl) (by simp) rfl [] (fun _ hx => nomatch hx) ?_
    exact ⟨congrArg (fun z => some (Value.int z)) (if_neg (fun q => hc4 (by rw [q]))).symm, rfl, rfl⟩
  · refine Go.iconst C (0 : Int32) d10_7 (by decide) ?_
    refine Go.istoreN C d10_8 (Ls' := #[.val (.ref a), .val (.ref b), .val (.int (0 : Int32))]) rfl ?_
    exact own_lp_eq hW C V U ((nI_eq hl hl').mp hc4) (fun q => ⟨congrArg (fun z => some (Value.int z)) (if_pos q).symm, rfl, rfl⟩) (fun q => ⟨congrArg (fun z => some (Value.int z)) (if_neg q).symm, rfl, rfl⟩) (List.length xs) 0 (by omega) (fun j hj => absurd hj (by omega))
def Q9 (Z : State) (h : Heap) (a : Addr) (b : Addr) (ta : Addr) (tb : Addr) (xs : List Int32) (ys : List Int32) : QT := fun v h' os' => (v = some (.int (if xs = ys then (1 : Int32) else 0))) ∧ (os' = []) ∧ (h = h')
set_option maxRecDepth 65536 in
set_option maxHeartbeats 40000000 in
theorem rm9 {l : Launch} {Z : State} {a0 : Array Value} (hW : W0 Z a0) (h : Heap) (a : Addr) (b : Addr) (ta : Addr) (tb : Addr) (xs : List Int32) (ys : List Int32) (S : Str Z h a ta xs) (T : Str Z h b tb ys) :
    Con l Z own_EL true y_6 jdk_42_method_66_code 3 (some .boolean) ({ frames := 1, cells := 0, slots := 0, locals := 14 } : Room) [] #[(.ref a), (.ref b)] h [] (Q9 Z h a b ta tb xs ys) := by
  refine Con.intro (a0 := a0) (Ls := #[.val (.ref a), .val (.ref b), .unset]) (by decide +kernel) (own_ew hW) (fun m => by first | (simp [entryFrame, mkF, argsToLocals, Value.category]; done) | rfl) ?_
  intro k C
  obtain ⟨cz, Scs, ncz⟩ := own_cs hW
  have SV := S.2
  have TV := T.2
  refine Go.aloadN C d9_0 rfl rfl ?_
  refine Go.aloadN C d9_1 rfl rfl ?_
  refine Go.acmpne C d9_2 (fun hc2 => ?_) (fun hc2 => ?_)
  · refine Go.aloadN C d9_7 rfl rfl ?_
    refine Go.instanceofYes C (Ins.self T.exa) (w_57 hW) d9_8 ?_
    refine Go.ifeq C d9_11 (fun hc => absurd hc (by decide)) (fun _ => ?_)
    refine Go.aloadN C d9_14 rfl rfl ?_
    refine Go.checkcast C (Ins.self T.exa) (w_57 hW) d9_15 ?_
    refine Go.astoreN C d9_18 rfl (Ls' := #[.val (.ref a), .val (.ref b), .val (.ref b)]) rfl ?_
    refine Go.getS C Scs (host := "") (Or.inl (w_58 hW)) Via.refl d9_19 ?_
    refine Go.ifeq C d9_22 (fun hc22 => absurd hc22 ncz) (fun hc22 => ?_)
    refine Go.aloadN C d9_25 rfl rfl ?_
    refine Go.getF C S.1 1 rfl rfl (host := "") (Or.inl (w_30 hW)) Via.refl d9_26 ?_
    refine Go.aloadN C d9_29 rfl rfl ?_
    refine Go.getF C T.1 1 rfl rfl (host := "") (Or.inl (w_30 hW)) Via.refl d9_30 ?_
    refine Go.icmpne C d9_33 (fun hc => absurd hc (by decide)) (fun _ => ?_)
    refine Go.aloadN C d9_36 rfl rfl ?_
    refine Go.getF C S.1 0 rfl rfl (host := "") (Or.inl (w_29 hW)) Via.refl d9_37 ?_
    refine Go.aloadN C d9_40 rfl rfl ?_
    refine Go.getF C T.1 0 rfl rfl (host := "") (Or.inl (w_29 hW)) Via.refl d9_41 ?_
    refine Go.callS C (z := y_5) (argsL := [(.ref ta), (.ref tb)]) (rm10 hW h (ta) (tb) (xs) (ys) SV TV) (w_59 hW) (w_60 hW) (w_61 hW) (w_62 hW) d9_44 pd_4 rfl (by decide) rfl (st := []) rfl (by decide) (Nat.le_of_ble_eq_true rfl) (by decide) (by decide) ((fun _ hx => nomatch hx)) (fun v1 h2 os3 q4 K5 ho6 => ?_)
    obtain ⟨rfl, rfl, rfl⟩ := q4
    clear K5 ho6
    show Go k h _ _ _ 47 #[.val (.ref a), .val (.ref b), .val (.ref b)] [(.int (if xs = ys then (1 : Int32) else 0))]
    refine Go.ifeq C d9_47 (fun hc47 => ?_) (fun hc47 => ?_)
    · refine Go.iconst C (0 : Int32) d9_54 (by decide) ?_
      refine Go.ireturn C d9_55 (Nat.le_of_ble_eq_true rfl) (Nat.le_of_ble_eq_true rfl) (by simp) rfl [] (fun _ hx => nomatch hx) ?_
      exact ⟨congrArg (fun z => some (Value.int z)) hc47.symm, rfl, rfl⟩
    · refine Go.iconst C (1 : Int32) d9_50 (by decide) ?_
      refine Go.goto C d9_51 ?_
      refine Go.ireturn C d9_55 (Nat.le_of_ble_eq_true rfl) (Nat.le_of_ble_eq_true rfl) (by simp) rfl [] (fun _ hx => nomatch hx) ?_
      exact ⟨congrArg (fun z => some (Value.int z)) (own_ite1 hc47).symm, rfl, rfl⟩
  · refine Go.iconst C (1 : Int32) d9_5 (by decide) ?_
    refine Go.ireturn C d9_6 (Nat.le_of_ble_eq_true rfl) (Nat.le_of_ble_eq_true rfl) (by simp) rfl [] (fun _ hx => nomatch hx) ?_
    subst hc2
    exact ⟨congrArg (fun z => some (Value.int z)) (if_pos (Str.det S T).2).symm, rfl, rfl⟩
def Q1 (Z : State) (h : Heap) (m : Int32) (b : Int32) (q : Int64) (s : Int32) : QT := fun v h' os' => (v = some (.int (own_dl m b q s))) ∧ (os' = []) ∧ (h = h')
set_option maxRecDepth 65536 in
set_option maxHeartbeats 40000000 in
theorem rm1 {l : Launch} {Z : State} {a0 : Array Value} (hW : W0 Z a0) (h : Heap) (m : Int32) (b : Int32) (q : Int64) (s : Int32) :
    Con l Z own_EL true y_7 method_3_code 5 (some .char) ({ frames := 0, cells := 0, slots := 0, locals := 0 } : Room) [] #[(.int m), (.int b), (.long q), (.int s)] h [] (Q1 Z h m b q s) := by
  refine Con.intro (a0 := a0) (Ls := #[.val (.int m), .val (.int b), .val (.long q), .second, .val (.int s)]) (by decide +kernel) (own_ew hW) (fun m => by first | (simp [entryFrame, mkF, argsToLocals, Value.category]; done) | rfl) ?_
  intro k C
  refine Go.iloadN C d1_0 rfl ?_
  refine Go.iloadN C d1_1 rfl ?_
  refine Go.iushr C d1_2 ?_
  refine Go.iconst C (1 : Int32) d1_3 (by decide) ?_
  refine Go.iand C d1_4 ?_
  refine Go.ifne C d1_5 (fun hc5 => ?_) (fun hc5 => ?_)
  · refine Go.lloadN C d1_10 rfl ?_
    refine Go.iload C d1_11 rfl ?_
    refine Go.lushr C d1_13 ?_
    refine Go.ldcJ C (w_1 hW) d1_14 ?_
    refine Go.land C d1_17 ?_
    refine Go.l2i C d1_18 ?_
    refine Go.i2c C d1_19 ?_
    refine Go.ireturn C d1_20 (Nat.le_of_ble_eq_true rfl) (Nat.le_of_ble_eq_true rfl) (by simp) (own_c_nar _) [] (fun _ hx => nomatch hx) ?_
    exact ⟨congrArg (fun z => some (Value.int z)) (if_neg hc5).symm, rfl, rfl⟩
  · refine Go.iconst C (0 : Int32) d1_8 (by decide) ?_
    refine Go.ireturn C d1_9 (Nat.le_of_ble_eq_true rfl) (Nat.le_of_ble_eq_true rfl) (by simp) rfl [] (fun _ hx => nomatch hx) ?_
    exact ⟨congrArg (fun z => some (Value.int z)) (if_pos hc5).symm, rfl, rfl⟩
def Q2 (Z : State) (h : Heap) (n : Int32) (p : Int32) (q : Int32) : QT := fun v h' os' => ∃ r : Addr, ∃ t : Addr, (v = some (.ref r)) ∧ (os' = []) ∧ (Str Z h' r t (List.map own_b (own_mk n p q)))
set_option maxRecDepth 65536 in
set_option maxHeartbeats 40000000 in
theorem rm2 {l : Launch} {Z : State} {a0 : Array Value} (hW : W0 Z a0) (h : Heap) (n : Int32) (p : Int32) (q : Int32) (hp : own_lat [p, q]) :
    Con l Z own_EL true y_8 method_4_code 4 (some (.object "java/lang/String")) ({ frames := 4, cells := 8, slots := 16, locals := 90 } : Room) [] #[(.int n), (.int p), (.int q)] h [] (Q2 Z h n p q) := by
  refine Con.intro (a0 := a0) (Ls := #[.val (.int n), .val (.int p), .val (.int q), .unset]) (by decide +kernel) (own_ew hW) (fun m => by first | (simp [entryFrame, mkF, argsToLocals, Value.category]; done) | rfl) ?_
  intro k C
  refine Go.iloadN C d2_0 rfl ?_
  refine Go.ifne C d2_1 (fun hc1 => ?_) (fun hc1 => ?_)
  · refine Go.iloadN C d2_15 rfl ?_
    refine Go.iconst C (1 : Int32) d2_16 (by decide) ?_
    refine Go.icmpne C d2_17 (fun hc17 => ?_) (fun hc17 => ?_)
    · refine Go.iconst C (2 : Int32) d2_37 (by decide) ?_
      refine Go.newarray C (aty := .char) (w_12 hW) d2_38 (by decide) 2 rfl (cap := 2) (by decide) (by decide) (by decide) (by decide) (fun b39 h40 e41 K42 A43 => ?_)
      have A43 : Av Z h40 b39 .char [(.int (0 : Int32)), (.int (0 : Int32))] := A43
      refine Go.astoreN C d2_40 rfl (Ls' := #[.val (.int n), .val (.int p), .val (.int q), .val (.ref b39)]) rfl ?_
      refine Go.aloadN C d2_41 rfl rfl ?_
      refine Go.iconst C (0 : Int32) d2_42 (by decide) ?_
      refine Go.iloadN C d2_43 rfl ?_
      refine Go.castore C A43 (List.mem_of_getElem? (i := 0) rfl) 0 (by decide) rfl (Nat.le_of_ble_eq_true rfl) (x' := p) (own_nar_lat (hp p (List.mem_of_getElem? (i := 0) rfl))) (vs' := [(.int p), (.int (0 : Int32))]) rfl d2_44 (fun h44 K45 A43 => ?_)
      refine Go.aloadN C d2_45 rfl rfl ?_
      refine Go.iconst C (1 : Int32) d2_46 (by decide) ?_
      refine Go.iloadN C d2_47 rfl ?_
      refine Go.castore C A43 (List.mem_of_getElem? (i := 0) rfl) 1 (by decide) rfl (Nat.le_of_ble_eq_true rfl) (x' := q) (own_nar_lat (hp q (List.mem_of_getElem? (i := 1) rfl))) (vs' := [(.int p), (.int q)]) rfl d2_48 (fun h46 K47 A43 => ?_)
      refine Go.new C (w_9 hW) (w_10 hW) (w_11 hW) (fl_0 hW) dv_0 d2_49 (by decide) (by decide) (fun b48 h49 e50 K51 O52 => ?_)
      have n_b39_b48 : b39 ≠ b48 := ne_lt A43.lt (ge_of e50)
      replace A43 := A43.k0 K51
      refine Go.dup C d2_52 rfl ?_
      refine Go.aloadN C d2_53 rfl rfl ?_
      have A43 : Av Z h49 b39 .char (List.map Value.int ([p, q] : List Int32)) := A43
      refine Go.callI C (z := y_4) (a := b48) (argsL := [(.ref b39)]) (rm3 hW h49 (b48) (b39) ([p, q]) O52 A43 hp (Nat.le_of_ble_eq_true rfl) n_b39_b48) rfl (w_13 hW) (w_14 hW) (w_11 hW) (w_15 hW) d2_54 pd_5 rfl (by decide) rfl (st := [(.ref b48)]) rfl (by decide) (Nat.le_of_ble_eq_true rfl) (by decide) (by decide) (List.forall_mem_cons.mpr ⟨(List.mem_of_getElem? (i := 0) rfl), (fun _ hx => nomatch hx)⟩) (fun v53 h54 os55 q56 K57 ho58 => ?_)
      obtain ⟨t59, rfl, rfl, F60⟩ := q56
      replace A43 := A43.keep K57 (ninS n_b39_b48 nin0)
      show Go k h54 _ _ _ 57 #[.val (.int n), .val (.int p), .val (.int q), .val (.ref b39)] [(.ref b48)]
      refine Go.areturn C d2_57 (Nat.le_of_ble_eq_true rfl) (Nat.le_of_ble_eq_true rfl) rfl rfl [] (fun _ hx => nomatch hx) ?_
      exact ⟨_, _, rfl, rfl, by rw [own_mk2 hc1 hc17]; exact F60⟩
    · refine Go.iconst C (1 : Int32) d2_20 (by decide) ?_
      refine Go.newarray C (aty := .char) (w_12 hW) d2_21 (by decide) 1 rfl (cap := 1) (by decide) (by decide) (by decide) (by decide) (fun b19 h20 e21 K22 A23 => ?_)
      have A23 : Av Z h20 b19 .char [(.int (0 : Int32))] := A23
      refine Go.astoreN C d2_23 rfl (Ls' := #[.val (.int n), .val (.int p), .val (.int q), .val (.ref b19)]) rfl ?_
      refine Go.aloadN C d2_24 rfl rfl ?_
      refine Go.iconst C (0 : Int32) d2_25 (by decide) ?_
      refine Go.iloadN C d2_26 rfl ?_
      refine Go.castore C A23 (List.mem_of_getElem? (i := 0) rfl) 0 (by decide) rfl (Nat.le_of_ble_eq_true rfl) (x' := p) (own_nar_lat (hp p (List.mem_of_getElem? (i := 0) rfl))) (vs' := [(.int p)]) rfl d2_27 (fun h24 K25 A23 => ?_)
      refine Go.new C (w_9 hW) (w_10 hW) (w_11 hW) (fl_0 hW) dv_0 d2_28 (by decide) (by decide) (fun b26 h27 e28 K29 O30 => ?_)
      have n_b19_b26 : b19 ≠ b26 := ne_lt A23.lt (ge_of e28)
      replace A23 := A23.k0 K29
      refine Go.dup C d2_31 rfl ?_
      refine Go.aloadN C d2_32 rfl rfl ?_
      have A23 : Av Z h27 b19 .char (List.map Value.int ([p] : List Int32)) := A23
      refine Go.callI C (z := y_4) (a := b26) (argsL := [(.ref b19)]) (rm3 hW h27 (b26) (b19) ([p]) O30 A23 (fun c hx => hp c (by simp at hx; simp [hx])) (Nat.le_of_ble_eq_true rfl) n_b19_b26) rfl (w_13 hW) (w_14 hW) (w_11 hW) (w_15 hW) d2_33 pd_5 rfl (by decide) rfl (st := [(.ref b26)]) rfl (by decide) (Nat.le_of_ble_eq_true rfl) (by decide) (by decide) (List.forall_mem_cons.mpr ⟨(List.mem_of_getElem? (i := 0) rfl), (fun _ hx => nomatch hx)⟩) (fun v31 h32 os33 q34 K35 ho36 => ?_)
      obtain ⟨t37, rfl, rfl, F38⟩ := q34
      replace A23 := A23.keep K35 (ninS n_b19_b26 nin0)
      show Go k h32 _ _ _ 36 #[.val (.int n), .val (.int p), .val (.int q), .val (.ref b19)] [(.ref b26)]
      refine Go.areturn C d2_36 (Nat.le_of_ble_eq_true rfl) (Nat.le_of_ble_eq_true rfl) rfl rfl [] (fun _ hx => nomatch hx) ?_
      exact ⟨_, _, rfl, rfl, by rw [own_mk1 hc1 hc17]; exact F38⟩
  · refine Go.new C (w_9 hW) (w_10 hW) (w_11 hW) (fl_0 hW) dv_0 d2_4 (by decide) (by decide) (fun b1 h2 e3 K4 O5 => ?_)
    refine Go.dup C d2_7 rfl ?_
    refine Go.iconst C (0 : Int32) d2_8 (by decide) ?_
    refine Go.newarray C (aty := .char) (w_12 hW) d2_9 (by decide) 0 rfl (cap := 0) (by decide) (by decide) (by decide) (by decide) (fun b6 h7 e8 K9 A10 => ?_)
    have A10 : Av Z h7 b6 .char [] := A10
    have n_b1_b6 : b1 ≠ b6 := ne_lt O5.lt (ge_of e8)
    replace O5 := O5.k0 K9
    have A10 : Av Z h7 b6 .char (List.map Value.int ([] : List Int32)) := A10
    refine Go.callI C (z := y_4) (a := b1) (argsL := [(.ref b6)]) (rm3 hW h7 (b1) (b6) ([]) O5 A10 (fun _ hx => nomatch hx) (Nat.le_of_ble_eq_true rfl) (Ne.symm n_b1_b6)) rfl (w_13 hW) (w_14 hW) (w_11 hW) (w_15 hW) d2_11 pd_5 rfl (by decide) rfl (st := [(.ref b1)]) rfl (by decide) (Nat.le_of_ble_eq_true rfl) (by decide) (by decide) (List.forall_mem_cons.mpr ⟨(List.mem_of_getElem? (i := 1) rfl), (fun _ hx => nomatch hx)⟩) (fun v11 h12 os13 q14 K15 ho16 => ?_)
    obtain ⟨t17, rfl, rfl, F18⟩ := q14
    replace A10 := A10.keep K15 (ninS (Ne.symm n_b1_b6) nin0)
    show Go k h12 _ _ _ 14 #[.val (.int n), .val (.int p), .val (.int q), .unset] [(.ref b1)]
    refine Go.areturn C d2_14 (Nat.le_of_ble_eq_true rfl) (Nat.le_of_ble_eq_true rfl) rfl rfl [] (fun _ hx => nomatch hx) ?_
    exact ⟨_, _, rfl, rfl, by rw [own_mk0 hc1]; exact F18⟩
def Q6 (Z : State) (h : Heap) (t : Addr) (a : Addr) (b : Addr) : QT := fun v h' os' => (v = none) ∧ (os' = []) ∧ (Obj Z h' t "com/example/text_span_search/textspansearch/trec/Topic" f_1 [(.ref a), (.ref b)])
set_option maxRecDepth 65536 in
set_option maxHeartbeats 40000000 in
theorem rm6 {l : Launch} {Z : State} {a0 : Array Value} (hW : W0 Z a0) (h : Heap) (t : Addr) (a : Addr) (b : Addr) (O : Obj Z h t "com/example/text_span_search/textspansearch/trec/Topic" f_1 [.null, .null]) :
    Con l Z own_EL true y_9 prog_59_method_1_code 3 none ({ frames := 1, cells := 0, slots := 0, locals := 12 } : Room) [] #[(.ref t), (.ref a), (.ref b)] h [t] (Q6 Z h t a b) := by
  refine Con.intro (a0 := a0) (Ls := #[.val (.ref t), .val (.ref a), .val (.ref b)]) (by decide +kernel) (own_ew hW) (fun m => by first | (simp [entryFrame, mkF, argsToLocals, Value.category]; done) | rfl) ?_
  intro k C
  refine Go.aloadN C d6_0 rfl rfl ?_
  refine Go.initO C (w_37 hW) (w_21 hW) (w_22 hW) d6_1 rfl (by decide) (Nat.le_of_ble_eq_true rfl) ?_
  refine Go.aloadN C d6_4 rfl rfl ?_
  refine Go.aloadN C d6_5 rfl rfl ?_
  refine Go.putF C O (List.mem_of_getElem? (i := 0) rfl) 0 rfl (w_38 hW) Via.refl (Or.inr ⟨w_39 hW, rfl, rfl⟩) (w_32 hW) (fl_1 hW) nd_1 (ty := (.object "java/lang/String")) (by decide +kernel) (v' := (.ref a)) rfl rfl (vs' := [(.ref a), .null]) rfl d6_6 (fun h1 K2 O => ?_)
  refine Go.aloadN C d6_9 rfl rfl ?_
  refine Go.aloadN C d6_10 rfl rfl ?_
  refine Go.putF C O (List.mem_of_getElem? (i := 0) rfl) 1 rfl (w_40 hW) Via.refl (Or.inr ⟨w_41 hW, rfl, rfl⟩) (w_32 hW) (fl_1 hW) nd_1 (ty := (.object "java/lang/String")) (by decide +kernel) (v' := (.ref b)) rfl rfl (vs' := [(.ref a), (.ref b)]) rfl d6_11 (fun h3 K4 O => ?_)
  refine Go.retV C d6_14 (Nat.le_of_ble_eq_true rfl) (Nat.le_of_ble_eq_true rfl) [] (fun _ hx => nomatch hx) ?_
  exact ⟨rfl, rfl, O⟩
def Q7 (Z : State) (h : Heap) (n : Int32) (p : Int32) (q : Int32) (n' : Int32) (p' : Int32) (q' : Int32) : QT := fun v h' os' => (v = some (.int (if own_same n p q n' p' q' then (1 : Int32) else 0))) ∧ (os' = []) ∧ (h = h')
set_option maxRecDepth 65536 in
set_option maxHeartbeats 40000000 in
theorem rm7 {l : Launch} {Z : State} {a0 : Array Value} (hW : W0 Z a0) (h : Heap) (n : Int32) (p : Int32) (q : Int32) (n' : Int32) (p' : Int32) (q' : Int32) :
    Con l Z own_EL true y_10 method_5_code 6 (some .boolean) ({ frames := 0, cells := 0, slots := 0, locals := 0 } : Room) [] #[(.int n), (.int p), (.int q), (.int n'), (.int p'), (.int q')] h [] (Q7 Z h n p q n' p' q') := by
  refine Con.intro (a0 := a0) (Ls := #[.val (.int n), .val (.int p), .val (.int q), .val (.int n'), .val (.int p'), .val (.int q')]) (by decide +kernel) (own_ew hW) (fun m => by first | (simp [entryFrame, mkF, argsToLocals, Value.category]; done) | rfl) ?_
  intro k C
  refine Go.iloadN C d7_0 rfl ?_
  refine Go.iloadN C d7_1 rfl ?_
  refine Go.icmpeq C d7_2 (fun hc2 => ?_) (fun hc2 => ?_)
  · refine Go.iloadN C d7_7 rfl ?_
    refine Go.iconst C (1 : Int32) d7_8 (by decide) ?_
    refine Go.icmplt C d7_9 (fun hc9 => ?_) (fun hc9 => ?_)
    · refine Go.iloadN C d7_20 rfl ?_
      refine Go.iconst C (2 : Int32) d7_21 (by decide) ?_
      refine Go.icmplt C d7_22 (fun hc22 => ?_) (fun hc22 => ?_)
      · refine Go.iconst C (1 : Int32) d7_33 (by decide) ?_
        refine Go.ireturn C d7_34 (Nat.le_of_ble_eq_true rfl) (Nat.le_of_ble_eq_true rfl) (by simp) rfl [] (fun _ hx => nomatch hx) ?_
        exact ⟨congrArg (fun z => some (Value.int z)) (if_pos ⟨hc2, Or.inl hc9, Or.inl hc22⟩).symm, rfl, rfl⟩
      · refine Go.iloadN C d7_25 rfl ?_
        refine Go.iload C d7_26 rfl ?_
        refine Go.icmpeq C d7_28 (fun hc28 => ?_) (fun hc28 => ?_)
        · refine Go.iconst C (1 : Int32) d7_33 (by decide) ?_
          refine Go.ireturn C d7_34 (Nat.le_of_ble_eq_true rfl) (Nat.le_of_ble_eq_true rfl) (by simp) rfl [] (fun _ hx => nomatch hx) ?_
          exact ⟨congrArg (fun z => some (Value.int z)) (if_pos ⟨hc2, Or.inl hc9, Or.inr hc28⟩).symm, rfl, rfl⟩
        · refine Go.iconst C (0 : Int32) d7_31 (by decide) ?_
          refine Go.ireturn C d7_32 (Nat.le_of_ble_eq_true rfl) (Nat.le_of_ble_eq_true rfl) (by simp) rfl [] (fun _ hx => nomatch hx) ?_
          exact ⟨congrArg (fun z => some (Value.int z)) (if_neg (fun q => q.2.2.elim hc22 hc28)).symm, rfl, rfl⟩
    · refine Go.iloadN C d7_12 rfl ?_
      refine Go.iload C d7_13 rfl ?_
      refine Go.icmpeq C d7_15 (fun hc15 => ?_) (fun hc15 => ?_)
      · refine Go.iloadN C d7_20 rfl ?_
        refine Go.iconst C (2 : Int32) d7_21 (by decide) ?_
        refine Go.icmplt C d7_22 (fun hc22 => ?_) (fun hc22 => ?_)
        · refine Go.iconst C (1 : Int32) d7_33 (by decide) ?_
          refine Go.ireturn C d7_34 (Nat.le_of_ble_eq_true rfl) (Nat.le_of_ble_eq_true rfl) (by simp) rfl [] (fun _ hx => nomatch hx) ?_
          exact ⟨congrArg (fun z => some (Value.int z)) (if_pos ⟨hc2, Or.inr hc15, Or.inl hc22⟩).symm, rfl, rfl⟩
        · refine Go.iloadN C d7_25 rfl ?_
          refine Go.iload C d7_26 rfl ?_
          refine Go.icmpeq C d7_28 (fun hc28 => ?_) (fun hc28 => ?_)
          · refine Go.iconst C (1 : Int32) d7_33 (by decide) ?_
            refine Go.ireturn C d7_34 (Nat.le_of_ble_eq_true rfl) (Nat.le_of_ble_eq_true rfl) (by simp) rfl [] (fun _ hx => nomatch hx) ?_
            exact ⟨congrArg (fun z => some (Value.int z)) (if_pos ⟨hc2, Or.inr hc15, Or.inr hc28⟩).symm, rfl, rfl⟩
          · refine Go.iconst C (0 : Int32) d7_31 (by decide) ?_
            refine Go.ireturn C d7_32 (Nat.le_of_ble_eq_true rfl) (Nat.le_of_ble_eq_true rfl) (by simp) rfl [] (fun _ hx => nomatch hx) ?_
            exact ⟨congrArg (fun z => some (Value.int z)) (if_neg (fun q => q.2.2.elim hc22 hc28)).symm, rfl, rfl⟩
      · refine Go.iconst C (0 : Int32) d7_18 (by decide) ?_
        refine Go.ireturn C d7_19 (Nat.le_of_ble_eq_true rfl) (Nat.le_of_ble_eq_true rfl) (by simp) rfl [] (fun _ hx => nomatch hx) ?_
        exact ⟨congrArg (fun z => some (Value.int z)) (if_neg (fun q => q.2.1.elim hc9 hc15)).symm, rfl, rfl⟩
  · refine Go.iconst C (0 : Int32) d7_5 (by decide) ?_
    refine Go.ireturn C d7_6 (Nat.le_of_ble_eq_true rfl) (Nat.le_of_ble_eq_true rfl) (by simp) rfl [] (fun _ hx => nomatch hx) ?_
    exact ⟨congrArg (fun z => some (Value.int z)) (if_neg (fun q => hc2 q.1)).symm, rfl, rfl⟩
def Q8 (Z : State) (h : Heap) (o1 : Addr) (a1 : Addr) (b1 : Addr) (u1 : Addr) (v1 : Addr) (xs1 : List Int32) (ys1 : List Int32) (o2 : Addr) (a2 : Addr) (b2 : Addr) (u2 : Addr) (v2 : Addr) (xs2 : List Int32) (ys2 : List Int32) : QT := fun v h' os' => (v = some (.int (if xs1 = xs2 ∧ ys1 = ys2 then (1 : Int32) else 0))) ∧ (os' = []) ∧ (h = h')
set_option maxRecDepth 65536 in
set_option maxHeartbeats 40000000 in
theorem rm8 {l : Launch} {Z : State} {a0 : Array Value} (hW : W0 Z a0) (h : Heap) (o1 : Addr) (a1 : Addr) (b1 : Addr) (u1 : Addr) (v1 : Addr) (xs1 : List Int32) (ys1 : List Int32) (o2 : Addr) (a2 : Addr) (b2 : Addr) (u2 : Addr) (v2 : Addr) (xs2 : List Int32) (ys2 : List Int32) (O1 : Obj Z h o1 "com/example/text_span_search/textspansearch/trec/Topic" f_1 [(.ref a1), (.ref b1)]) (S1 : Str Z h a1 u1 xs1) (T1 : Str Z h b1 v1 ys1) (O2 : Obj Z h o2 "com/example/text_span_search/textspansearch/trec/Topic" f_1 [(.ref a2), (.ref b2)]) (S2 : Str Z h a2 u2 xs2) (T2 : Str Z h b2 v2 ys2) :
    Con l Z own_EL true y_11 prog_59_method_4_code 3 (some .boolean) ({ frames := 2, cells := 0, slots := 0, locals := 28 } : Room) [] #[(.ref o1), (.ref o2)] h [] (Q8 Z h o1 a1 b1 u1 v1 xs1 ys1 o2 a2 b2 u2 v2 xs2 ys2) := by
  refine Con.intro (a0 := a0) (Ls := #[.val (.ref o1), .val (.ref o2), .unset]) (by decide +kernel) (own_ew hW) (fun m => by first | (simp [entryFrame, mkF, argsToLocals, Value.category]; done) | rfl) ?_
  intro k C
  refine Go.aloadN C d8_0 rfl rfl ?_
  refine Go.instanceofYes C (Ins.self O2.1) (w_50 hW) d8_1 ?_
  refine Go.ifne C d8_4 (fun _ => ?_) (fun hc => absurd hc (by decide)) 
  refine Go.aloadN C d8_9 rfl rfl ?_
  refine Go.checkcast C (Ins.self O2.1) (w_50 hW) d8_10 ?_
  refine Go.astoreN C d8_13 rfl (Ls' := #[.val (.ref o1), .val (.ref o2), .val (.ref o2)]) rfl ?_
  refine Go.aloadN C d8_14 rfl rfl ?_
  refine Go.getF C O1 0 rfl rfl (host := "") (Or.inl (w_38 hW)) Via.refl d8_15 ?_
  refine Go.aloadN C d8_18 rfl rfl ?_
  refine Go.getF C O2 0 rfl rfl (host := "") (Or.inl (w_38 hW)) Via.refl d8_19 ?_
  refine Go.callV C (z := y_6) (zr := y_6) (a := a1) (argsL := [(.ref a2)]) (rm9 hW h (a1) (a2) (u1) (u2) (xs1) (xs2) S1 S2) S1.exa (w_52 hW) (w_53 hW) (fun hz => notFace_of_selects (args := #[]) (mvT hz (w_55 hW))) (w_55 hW) (w_54 hW) (w_11 hW) (w_56 hW) d8_22 pd_6 rfl (by decide) rfl (st := []) rfl (by decide) (Nat.le_of_ble_eq_true rfl) (by decide) (by decide) ((fun _ hx => nomatch hx)) (fun v1 h2 os3 q4 K5 ho6 => ?_)
  obtain ⟨rfl, rfl, rfl⟩ := q4
  clear K5 ho6
  show Go k h _ _ _ 25 #[.val (.ref o1), .val (.ref o2), .val (.ref o2)] [(.int (if xs1 = xs2 then (1 : Int32) else 0))]
  refine Go.ifeq C d8_25 (fun hc25 => ?_) (fun hc25 => ?_)
  · refine Go.iconst C (0 : Int32) d8_46 (by decide) ?_
    refine Go.ireturn C d8_47 (Nat.le_of_ble_eq_true rfl) (Nat.le_of_ble_eq_true rfl) (by simp) rfl [] (fun _ hx => nomatch hx) ?_
    exact ⟨congrArg (fun z => some (Value.int z)) (if_neg (fun q => own_it0 hc25 q.1)).symm, rfl, rfl⟩
  · refine Go.aloadN C d8_28 rfl rfl ?_
    refine Go.getF C O1 1 rfl rfl (host := "") (Or.inl (w_40 hW)) Via.refl d8_29 ?_
    refine Go.aloadN C d8_32 rfl rfl ?_
    refine Go.getF C O2 1 rfl rfl (host := "") (Or.inl (w_40 hW)) Via.refl d8_33 ?_
    refine Go.callV C (z := y_6) (zr := y_6) (a := b1) (argsL := [(.ref b2)]) (rm9 hW h (b1) (b2) (v1) (v2) (ys1) (ys2) T1 T2) T1.exa (w_52 hW) (w_53 hW) (fun hz => notFace_of_selects (args := #[]) (mvT hz (w_55 hW))) (w_55 hW) (w_54 hW) (w_11 hW) (w_56 hW) d8_36 pd_6 rfl (by decide) rfl (st := []) rfl (by decide) (Nat.le_of_ble_eq_true rfl) (by decide) (by decide) ((fun _ hx => nomatch hx)) (fun v7 h8 os9 q10 K11 ho12 => ?_)
    obtain ⟨rfl, rfl, rfl⟩ := q10
    clear K11 ho12
    show Go k h _ _ _ 39 #[.val (.ref o1), .val (.ref o2), .val (.ref o2)] [(.int (if ys1 = ys2 then (1 : Int32) else 0))]
    refine Go.ifeq C d8_39 (fun hc39 => ?_) (fun hc39 => ?_)
    · refine Go.iconst C (0 : Int32) d8_46 (by decide) ?_
      refine Go.ireturn C d8_47 (Nat.le_of_ble_eq_true rfl) (Nat.le_of_ble_eq_true rfl) (by simp) rfl [] (fun _ hx => nomatch hx) ?_
      exact ⟨congrArg (fun z => some (Value.int z)) (if_neg (fun q => own_it0 hc39 q.2)).symm, rfl, rfl⟩
    · refine Go.iconst C (1 : Int32) d8_42 (by decide) ?_
      refine Go.goto C d8_43 ?_
      refine Go.ireturn C d8_47 (Nat.le_of_ble_eq_true rfl) (Nat.le_of_ble_eq_true rfl) (by simp) rfl [] (fun _ hx => nomatch hx) ?_
      exact ⟨congrArg (fun z => some (Value.int z)) (if_pos ⟨own_it1 hc25, own_it1 hc39⟩).symm, rfl, rfl⟩
def Q_rm_tnull (Z : State) (h : Heap) (o1 : Addr) : QT := fun v h' os' => (v = some (.int (0 : Int32))) ∧ (os' = []) ∧ (h = h')
set_option maxRecDepth 65536 in
set_option maxHeartbeats 40000000 in
theorem rm_tnull {l : Launch} {Z : State} {a0 : Array Value} (hW : W0 Z a0) (h : Heap) (o1 : Addr) :
    Con l Z own_EL true y_11 prog_59_method_4_code 3 (some .boolean) ({ frames := 0, cells := 0, slots := 0, locals := 0 } : Room) [] #[(.ref o1), .null] h [] (Q_rm_tnull Z h o1) := by
  refine Con.intro (a0 := a0) (Ls := #[.val (.ref o1), .val .null, .unset]) (by decide +kernel) (own_ew hW) (fun m => by first | (simp [entryFrame, mkF, argsToLocals, Value.category]; done) | rfl) ?_
  intro k C
  refine Go.aloadN C d8_0 rfl rfl ?_
  refine Go.instanceofNull C d8_1 ?_
  refine Go.ifne C d8_4 (fun hc => absurd hc (by decide)) (fun _ => ?_)
  refine Go.iconst C (0 : Int32) d8_7 (by decide) ?_
  refine Go.ireturn C d8_8 (Nat.le_of_ble_eq_true rfl) (Nat.le_of_ble_eq_true rfl) (by simp) rfl [] (fun _ hx => nomatch hx) ?_
  exact ⟨rfl, rfl, rfl⟩
def Q_rm_tstr (Z : State) (h : Heap) (o1 : Addr) (a : Addr) (u : Addr) (xs : List Int32) : QT := fun v h' os' => (v = some (.int (0 : Int32))) ∧ (os' = []) ∧ (h = h')
set_option maxRecDepth 65536 in
set_option maxHeartbeats 40000000 in
theorem rm_tstr {l : Launch} {Z : State} {a0 : Array Value} (hW : W0 Z a0) (h : Heap) (o1 : Addr) (a : Addr) (u : Addr) (xs : List Int32) (S : Str Z h a u xs) :
    Con l Z own_EL true y_11 prog_59_method_4_code 3 (some .boolean) ({ frames := 0, cells := 0, slots := 0, locals := 0 } : Room) [] #[(.ref o1), (.ref a)] h [] (Q_rm_tstr Z h o1 a u xs) := by
  refine Con.intro (a0 := a0) (Ls := #[.val (.ref o1), .val (.ref a), .unset]) (by decide +kernel) (own_ew hW) (fun m => by first | (simp [entryFrame, mkF, argsToLocals, Value.category]; done) | rfl) ?_
  intro k C
  refine Go.aloadN C d8_0 rfl rfl ?_
  refine Go.instanceofNo C S.exa (noSub (w_73 hW) (w_74 hW) (w_32 hW) (by decide) (by decide)) (w_50 hW) d8_1 ?_
  refine Go.ifne C d8_4 (fun hc => absurd hc (by decide)) (fun _ => ?_)
  refine Go.iconst C (0 : Int32) d8_7 (by decide) ?_
  refine Go.ireturn C d8_8 (Nat.le_of_ble_eq_true rfl) (Nat.le_of_ble_eq_true rfl) (by simp) rfl [] (fun _ hx => nomatch hx) ?_
  exact ⟨rfl, rfl, rfl⟩
def Q0 (Z : State) (h : Heap) (m : Int32) (p : Int64) (q : Int64) : QT := fun v h' os' => (v = some (.int (1 : Int32))) ∧ (os' = [])
set_option maxRecDepth 65536 in
set_option maxHeartbeats 40000000 in
theorem rm0 {l : Launch} {Z : State} {a0 : Array Value} (hW : W0 Z a0) (h : Heap) (m : Int32) (p : Int64) (q : Int64) :
    Con l Z own_EL true x code 25 (some .boolean) room_1 tables_1 #[(.int m), (.long p), (.long q)] h [] (Q0 Z h m p q) := by
  refine Con.intro (a0 := a0) (Ls := #[.val (.int m), .val (.long p), .second, .val (.long q), .second, .unset, .unset, .unset, .unset, .unset, .unset, .unset, .unset, .unset, .unset, .unset, .unset, .unset, .unset, .unset, .unset, .unset, .unset, .unset, .unset]) (by decide +kernel) (own_ew hW) (fun m => by first | (simp [entryFrame, mkF, argsToLocals, Value.category, maxLocals]; done) | rfl) ?_
  intro k C
  refine Go.iloadN C d0_0 rfl ?_
  refine Go.ldcI C (w_0 hW) d0_1 ?_
  refine Go.iand C d0_3 ?_
  refine Go.iconst C (4 : Int32) d0_4 (by decide) ?_
  refine Go.irem C d0_5 (by decide) ?_
  generalize e_kd : ((m &&& (2147483647 : Int32)) % (4 : Int32)) = kd
  refine Go.istore C d0_6 (Ls' := #[.val (.int m), .val (.long p), .second, .val (.long q), .second, .val (.int kd), .unset, .unset, .unset, .unset, .unset, .unset, .unset, .unset, .unset, .unset, .unset, .unset, .unset, .unset, .unset, .unset, .unset, .unset, .unset]) rfl ?_
  refine Go.iloadN C d0_8 rfl ?_
  refine Go.iconst C (2 : Int32) d0_9 (by decide) ?_
  refine Go.iushr C d0_10 ?_
  refine Go.iconst C (3 : Int32) d0_11 (by decide) ?_
  refine Go.iand C d0_12 ?_
  refine Go.iconst C (3 : Int32) d0_13 (by decide) ?_
  refine Go.irem C d0_14 (by decide) ?_
  generalize e_li1 : ((((m.toUInt32 >>> ((2 : Int32) &&& 31).toUInt32).toInt32) &&& (3 : Int32)) % (3 : Int32)) = li1
  have h_li1 := own_m3 e_li1
  refine Go.istore C d0_15 (Ls' := #[.val (.int m), .val (.long p), .second, .val (.long q), .second, .val (.int kd), .val (.int li1), .unset, .unset, .unset, .unset, .unset, .unset, .unset, .unset, .unset, .unset, .unset, .unset, .unset, .unset, .unset, .unset, .unset, .unset]) rfl ?_
  refine Go.iloadN C d0_17 rfl ?_
  refine Go.iconst C (4 : Int32) d0_18 (by decide) ?_
  refine Go.iushr C d0_19 ?_
  refine Go.iconst C (3 : Int32) d0_20 (by decide) ?_
  refine Go.iand C d0_21 ?_
  refine Go.iconst C (3 : Int32) d0_22 (by decide) ?_
  refine Go.irem C d0_23 (by decide) ?_
  generalize e_lq1 : ((((m.toUInt32 >>> ((4 : Int32) &&& 31).toUInt32).toInt32) &&& (3 : Int32)) % (3 : Int32)) = lq1
  have h_lq1 := own_m3 e_lq1
  refine Go.istore C d0_24 (Ls' := #[.val (.int m), .val (.long p), .second, .val (.long q), .second, .val (.int kd), .val (.int li1), .val (.int lq1), .unset, .unset, .unset, .unset, .unset, .unset, .unset, .unset, .unset, .unset, .unset, .unset, .unset, .unset, .unset, .unset, .unset]) rfl ?_
  refine Go.iloadN C d0_26 rfl ?_
  refine Go.bipush C (6 : Int32) d0_27 (by decide) ?_
  refine Go.iushr C d0_29 ?_
  refine Go.iconst C (3 : Int32) d0_30 (by decide) ?_
  refine Go.iand C d0_31 ?_
  refine Go.iconst C (3 : Int32) d0_32 (by decide) ?_
  refine Go.irem C d0_33 (by decide) ?_
  generalize e_li2 : ((((m.toUInt32 >>> ((6 : Int32) &&& 31).toUInt32).toInt32) &&& (3 : Int32)) % (3 : Int32)) = li2
  have h_li2 := own_m3 e_li2
  refine Go.istore C d0_34 (Ls' := #[.val (.int m), .val (.long p), .second, .val (.long q), .second, .val (.int kd), .val (.int li1), .val (.int lq1), .val (.int li2), .unset, .unset, .unset, .unset, .unset, .unset, .unset, .unset, .unset, .unset, .unset, .unset, .unset, .unset, .unset, .unset]) rfl ?_
  refine Go.iloadN C d0_36 rfl ?_
  refine Go.bipush C (8 : Int32) d0_37 (by decide) ?_
  refine Go.iushr C d0_39 ?_
  refine Go.iconst C (3 : Int32) d0_40 (by decide) ?_
  refine Go.iand C d0_41 ?_
  refine Go.iconst C (3 : Int32) d0_42 (by decide) ?_
  refine Go.irem C d0_43 (by decide) ?_
  generalize e_lq2 : ((((m.toUInt32 >>> ((8 : Int32) &&& 31).toUInt32).toInt32) &&& (3 : Int32)) % (3 : Int32)) = lq2
  have h_lq2 := own_m3 e_lq2
  refine Go.istore C d0_44 (Ls' := #[.val (.int m), .val (.long p), .second, .val (.long q), .second, .val (.int kd), .val (.int li1), .val (.int lq1), .val (.int li2), .val (.int lq2), .unset, .unset, .unset, .unset, .unset, .unset, .unset, .unset, .unset, .unset, .unset, .unset, .unset, .unset, .unset]) rfl ?_
  refine Go.lloadN C d0_46 rfl ?_
  refine Go.ldcJ C (w_1 hW) d0_47 ?_
  refine Go.land C d0_50 ?_
  refine Go.l2i C d0_51 ?_
  refine Go.i2c C d0_52 ?_
  generalize e_ca0 : (((p &&& (255 : Int64)).toInt32).toUInt32.toUInt16.toUInt32.toInt32) = ca0
  have h_ca0 := own_c8 e_ca0
  refine Go.istore C d0_53 (Ls' := #[.val (.int m), .val (.long p), .second, .val (.long q), .second, .val (.int kd), .val (.int li1), .val (.int lq1), .val (.int li2), .val (.int lq2), .val (.int ca0), .unset, .unset, .unset, .unset, .unset, .unset, .unset, .unset, .unset, .unset, .unset, .unset, .unset, .unset]) rfl ?_
  refine Go.lloadN C d0_55 rfl ?_
  refine Go.bipush C (8 : Int32) d0_56 (by decide) ?_
  refine Go.lushr C d0_58 ?_
  refine Go.ldcJ C (w_1 hW) d0_59 ?_
  refine Go.land C d0_62 ?_
  refine Go.l2i C d0_63 ?_
  refine Go.i2c C d0_64 ?_
  generalize e_ca1 : (((((p.toUInt64 >>> ((8 : Int32) &&& 0x3f).toInt64.toUInt64).toInt64) &&& (255 : Int64)).toInt32).toUInt32.toUInt16.toUInt32.toInt32) = ca1
  have h_ca1 := own_c8 e_ca1
  refine Go.istore C d0_65 (Ls' := #[.val (.int m), .val (.long p), .second, .val (.long q), .second, .val (.int kd), .val (.int li1), .val (.int lq1), .val (.int li2), .val (.int lq2), .val (.int ca0), .val (.int ca1), .unset, .unset, .unset, .unset, .unset, .unset, .unset, .unset, .unset, .unset, .unset, .unset, .unset]) rfl ?_
  refine Go.lloadN C d0_67 rfl ?_
  refine Go.bipush C (16 : Int32) d0_68 (by decide) ?_
  refine Go.lushr C d0_70 ?_
  refine Go.ldcJ C (w_1 hW) d0_71 ?_
  refine Go.land C d0_74 ?_
  refine Go.l2i C d0_75 ?_
  refine Go.i2c C d0_76 ?_
  generalize e_cb0 : (((((p.toUInt64 >>> ((16 : Int32) &&& 0x3f).toInt64.toUInt64).toInt64) &&& (255 : Int64)).toInt32).toUInt32.toUInt16.toUInt32.toInt32) = cb0
  have h_cb0 := own_c8 e_cb0
  refine Go.istore C d0_77 (Ls' := #[.val (.int m), .val (.long p), .second, .val (.long q), .second, .val (.int kd), .val (.int li1), .val (.int lq1), .val (.int li2), .val (.int lq2), .val (.int ca0), .val (.int ca1), .val (.int cb0), .unset, .unset, .unset, .unset, .unset, .unset, .unset, .unset, .unset, .unset, .unset, .unset]) rfl ?_
  refine Go.lloadN C d0_79 rfl ?_
  refine Go.bipush C (24 : Int32) d0_80 (by decide) ?_
  refine Go.lushr C d0_82 ?_
  refine Go.ldcJ C (w_1 hW) d0_83 ?_
  refine Go.land C d0_86 ?_
  refine Go.l2i C d0_87 ?_
  refine Go.i2c C d0_88 ?_
  generalize e_cb1 : (((((p.toUInt64 >>> ((24 : Int32) &&& 0x3f).toInt64.toUInt64).toInt64) &&& (255 : Int64)).toInt32).toUInt32.toUInt16.toUInt32.toInt32) = cb1
  have h_cb1 := own_c8 e_cb1
  refine Go.istore C d0_89 (Ls' := #[.val (.int m), .val (.long p), .second, .val (.long q), .second, .val (.int kd), .val (.int li1), .val (.int lq1), .val (.int li2), .val (.int lq2), .val (.int ca0), .val (.int ca1), .val (.int cb0), .val (.int cb1), .unset, .unset, .unset, .unset, .unset, .unset, .unset, .unset, .unset, .unset, .unset]) rfl ?_
  refine Go.iload C d0_91 rfl ?_
  refine Go.iloadN C d0_93 rfl ?_
  refine Go.bipush C (10 : Int32) d0_94 (by decide) ?_
  refine Go.lloadN C d0_96 rfl ?_
  refine Go.iconst C (0 : Int32) d0_97 (by decide) ?_
  refine Go.callS C (z := y_7) (argsL := [(.int m), (.int (10 : Int32)), (.long q), (.int (0 : Int32))]) (rm1 hW h (m) ((10 : Int32)) (q) ((0 : Int32))) (w_2 hW) (w_3 hW) (w_4 hW) (w_5 hW) d0_98 pd_7 rfl (by decide) rfl (st := [(.int ca0)]) rfl (by decide) (Nat.le_of_ble_eq_true rfl) (by decide) (by decide) ((fun _ hx => nomatch hx)) (fun v1 h2 os3 q4 K5 ho6 => ?_)
  obtain ⟨rfl, rfl, rfl⟩ := q4
  clear K5 ho6
  show Go k h _ _ _ 101 #[.val (.int m), .val (.long p), .second, .val (.long q), .second, .val (.int kd), .val (.int li1), .val (.int lq1), .val (.int li2), .val (.int lq2), .val (.int ca0), .val (.int ca1), .val (.int cb0), .val (.int cb1), .unset, .unset, .unset, .unset, .unset, .unset, .unset, .unset, .unset, .unset, .unset] [(.int (own_dl m (10 : Int32) q (0 : Int32))), (.int ca0)]
  refine Go.ixor C d0_101 ?_
  refine Go.i2c C d0_102 ?_
  generalize e_cc0 : ((ca0 ^^^ (own_dl m (10 : Int32) q (0 : Int32))).toUInt32.toUInt16.toUInt32.toInt32) = cc0
  have h_cc0 := own_cx h_ca0 (own_dl_lat _ _ _ _) e_cc0
  refine Go.istore C d0_103 (Ls' := #[.val (.int m), .val (.long p), .second, .val (.long q), .second, .val (.int kd), .val (.int li1), .val (.int lq1), .val (.int li2), .val (.int lq2), .val (.int ca0), .val (.int ca1), .val (.int cb0), .val (.int cb1), .val (.int cc0), .unset, .unset, .unset, .unset, .unset, .unset, .unset, .unset, .unset, .unset]) rfl ?_
  refine Go.iload C d0_105 rfl ?_
  refine Go.iloadN C d0_107 rfl ?_
  refine Go.bipush C (11 : Int32) d0_108 (by decide) ?_
  refine Go.lloadN C d0_110 rfl ?_
  refine Go.bipush C (8 : Int32) d0_111 (by decide) ?_
  refine Go.callS C (z := y_7) (argsL := [(.int m), (.int (11 : Int32)), (.long q), (.int (8 : Int32))]) (rm1 hW h (m) ((11 : Int32)) (q) ((8 : Int32))) (w_2 hW) (w_3 hW) (w_4 hW) (w_5 hW) d0_113 pd_7 rfl (by decide) rfl (st := [(.int ca1)]) rfl (by decide) (Nat.le_of_ble_eq_true rfl) (by decide) (by decide) ((fun _ hx => nomatch hx)) (fun v7 h8 os9 q10 K11 ho12 => ?_)
  obtain ⟨rfl, rfl, rfl⟩ := q10
  clear K11 ho12
  show Go k h _ _ _ 116 #[.val (.int m), .val (.long p), .second, .val (.long q), .second, .val (.int kd), .val (.int li1), .val (.int lq1), .val (.int li2), .val (.int lq2), .val (.int ca0), .val (.int ca1), .val (.int cb0), .val (.int cb1), .val (.int cc0), .unset, .unset, .unset, .unset, .unset, .unset, .unset, .unset, .unset, .unset] [(.int (own_dl m (11 : Int32) q (8 : Int32))), (.int ca1)]
  refine Go.ixor C d0_116 ?_
  refine Go.i2c C d0_117 ?_
  generalize e_cc1 : ((ca1 ^^^ (own_dl m (11 : Int32) q (8 : Int32))).toUInt32.toUInt16.toUInt32.toInt32) = cc1
  have h_cc1 := own_cx h_ca1 (own_dl_lat _ _ _ _) e_cc1
  refine Go.istore C d0_118 (Ls' := #[.val (.int m), .val (.long p), .second, .val (.long q), .second, .val (.int kd), .val (.int li1), .val (.int lq1), .val (.int li2), .val (.int lq2), .val (.int ca0), .val (.int ca1), .val (.int cb0), .val (.int cb1), .val (.int cc0), .val (.int cc1), .unset, .unset, .unset, .unset, .unset, .unset, .unset, .unset, .unset]) rfl ?_
  refine Go.iload C d0_120 rfl ?_
  refine Go.iloadN C d0_122 rfl ?_
  refine Go.bipush C (12 : Int32) d0_123 (by decide) ?_
  refine Go.lloadN C d0_125 rfl ?_
  refine Go.bipush C (16 : Int32) d0_126 (by decide) ?_
  refine Go.callS C (z := y_7) (argsL := [(.int m), (.int (12 : Int32)), (.long q), (.int (16 : Int32))]) (rm1 hW h (m) ((12 : Int32)) (q) ((16 : Int32))) (w_2 hW) (w_3 hW) (w_4 hW) (w_5 hW) d0_128 pd_7 rfl (by decide) rfl (st := [(.int cb0)]) rfl (by decide) (Nat.le_of_ble_eq_true rfl) (by decide) (by decide) ((fun _ hx => nomatch hx)) (fun v13 h14 os15 q16 K17 ho18 => ?_)
  obtain ⟨rfl, rfl, rfl⟩ := q16
  clear K17 ho18
  show Go k h _ _ _ 131 #[.val (.int m), .val (.long p), .second, .val (.long q), .second, .val (.int kd), .val (.int li1), .val (.int lq1), .val (.int li2), .val (.int lq2), .val (.int ca0), .val (.int ca1), .val (.int cb0), .val (.int cb1), .val (.int cc0), .val (.int cc1), .unset, .unset, .unset, .unset, .unset, .unset, .unset, .unset, .unset] [(.int (own_dl m (12 : Int32) q (16 : Int32))), (.int cb0)]
  refine Go.ixor C d0_131 ?_
  refine Go.i2c C d0_132 ?_
  generalize e_ce0 : ((cb0 ^^^ (own_dl m (12 : Int32) q (16 : Int32))).toUInt32.toUInt16.toUInt32.toInt32) = ce0
  have h_ce0 := own_cx h_cb0 (own_dl_lat _ _ _ _) e_ce0
  refine Go.istore C d0_133 (Ls' := #[.val (.int m), .val (.long p), .second, .val (.long q), .second, .val (.int kd), .val (.int li1), .val (.int lq1), .val (.int li2), .val (.int lq2), .val (.int ca0), .val (.int ca1), .val (.int cb0), .val (.int cb1), .val (.int cc0), .val (.int cc1), .val (.int ce0), .unset, .unset, .unset, .unset, .unset, .unset, .unset, .unset]) rfl ?_
  refine Go.iload C d0_135 rfl ?_
  refine Go.iloadN C d0_137 rfl ?_
  refine Go.bipush C (13 : Int32) d0_138 (by decide) ?_
  refine Go.lloadN C d0_140 rfl ?_
  refine Go.bipush C (24 : Int32) d0_141 (by decide) ?_
  refine Go.callS C (z := y_7) (argsL := [(.int m), (.int (13 : Int32)), (.long q), (.int (24 : Int32))]) (rm1 hW h (m) ((13 : Int32)) (q) ((24 : Int32))) (w_2 hW) (w_3 hW) (w_4 hW) (w_5 hW) d0_143 pd_7 rfl (by decide) rfl (st := [(.int cb1)]) rfl (by decide) (Nat.le_of_ble_eq_true rfl) (by decide) (by decide) ((fun _ hx => nomatch hx)) (fun v19 h20 os21 q22 K23 ho24 => ?_)
  obtain ⟨rfl, rfl, rfl⟩ := q22
  clear K23 ho24
  show Go k h _ _ _ 146 #[.val (.int m), .val (.long p), .second, .val (.long q), .second, .val (.int kd), .val (.int li1), .val (.int lq1), .val (.int li2), .val (.int lq2), .val (.int ca0), .val (.int ca1), .val (.int cb0), .val (.int cb1), .val (.int cc0), .val (.int cc1), .val (.int ce0), .unset, .unset, .unset, .unset, .unset, .unset, .unset, .unset] [(.int (own_dl m (13 : Int32) q (24 : Int32))), (.int cb1)]
  refine Go.ixor C d0_146 ?_
  refine Go.i2c C d0_147 ?_
  generalize e_ce1 : ((cb1 ^^^ (own_dl m (13 : Int32) q (24 : Int32))).toUInt32.toUInt16.toUInt32.toInt32) = ce1
  have h_ce1 := own_cx h_cb1 (own_dl_lat _ _ _ _) e_ce1
  refine Go.istore C d0_148 (Ls' := #[.val (.int m), .val (.long p), .second, .val (.long q), .second, .val (.int kd), .val (.int li1), .val (.int lq1), .val (.int li2), .val (.int lq2), .val (.int ca0), .val (.int ca1), .val (.int cb0), .val (.int cb1), .val (.int cc0), .val (.int cc1), .val (.int ce0), .val (.int ce1), .unset, .unset, .unset, .unset, .unset, .unset, .unset]) rfl ?_
  refine Go.iload C d0_150 rfl ?_
  refine Go.iload C d0_152 rfl ?_
  refine Go.iload C d0_154 rfl ?_
  refine Go.callS C (z := y_8) (argsL := [(.int li1), (.int ca0), (.int ca1)]) (rm2 hW h (li1) (ca0) (ca1) (own_lat2 h_ca0 h_ca1)) (w_6 hW) (w_7 hW) (w_4 hW) (w_8 hW) d0_156 pd_8 rfl (by decide) rfl (st := []) rfl (by decide) (Nat.le_of_ble_eq_true rfl) (by decide) (by decide) ((fun _ hx => nomatch hx)) (fun v25 h26 os27 q28 K29 ho30 => ?_)
  obtain ⟨r31, t32, rfl, rfl, F33⟩ := q28
  show Go k h26 _ _ _ 159 #[.val (.int m), .val (.long p), .second, .val (.long q), .second, .val (.int kd), .val (.int li1), .val (.int lq1), .val (.int li2), .val (.int lq2), .val (.int ca0), .val (.int ca1), .val (.int cb0), .val (.int cb1), .val (.int cc0), .val (.int cc1), .val (.int ce0), .val (.int ce1), .unset, .unset, .unset, .unset, .unset, .unset, .unset] [(.ref r31)]
  refine Go.astore C d0_159 rfl (Ls' := #[.val (.int m), .val (.long p), .second, .val (.long q), .second, .val (.int kd), .val (.int li1), .val (.int lq1), .val (.int li2), .val (.int lq2), .val (.int ca0), .val (.int ca1), .val (.int cb0), .val (.int cb1), .val (.int cc0), .val (.int cc1), .val (.int ce0), .val (.int ce1), .val (.ref r31), .unset, .unset, .unset, .unset, .unset, .unset]) rfl ?_
  refine Go.iload C d0_161 rfl ?_
  refine Go.iload C d0_163 rfl ?_
  refine Go.iload C d0_165 rfl ?_
  refine Go.callS C (z := y_8) (argsL := [(.int lq1), (.int cb0), (.int cb1)]) (rm2 hW h26 (lq1) (cb0) (cb1) (own_lat2 h_cb0 h_cb1)) (w_6 hW) (w_7 hW) (w_4 hW) (w_8 hW) d0_167 pd_8 rfl (by decide) rfl (st := []) rfl (by decide) (Nat.le_of_ble_eq_true rfl) (by decide) (by decide) ((fun _ hx => nomatch hx)) (fun v34 h35 os36 q37 K38 ho39 => ?_)
  obtain ⟨r40, t41, rfl, rfl, F42⟩ := q37
  replace F33 := F33.k0 K38
  show Go k h35 _ _ _ 170 #[.val (.int m), .val (.long p), .second, .val (.long q), .second, .val (.int kd), .val (.int li1), .val (.int lq1), .val (.int li2), .val (.int lq2), .val (.int ca0), .val (.int ca1), .val (.int cb0), .val (.int cb1), .val (.int cc0), .val (.int cc1), .val (.int ce0), .val (.int ce1), .val (.ref r31), .unset, .unset, .unset, .unset, .unset, .unset] [(.ref r40)]
  refine Go.astore C d0_170 rfl (Ls' := #[.val (.int m), .val (.long p), .second, .val (.long q), .second, .val (.int kd), .val (.int li1), .val (.int lq1), .val (.int li2), .val (.int lq2), .val (.int ca0), .val (.int ca1), .val (.int cb0), .val (.int cb1), .val (.int cc0), .val (.int cc1), .val (.int ce0), .val (.int ce1), .val (.ref r31), .val (.ref r40), .unset, .unset, .unset, .unset, .unset]) rfl ?_
  refine Go.iload C d0_172 rfl ?_
  refine Go.iload C d0_174 rfl ?_
  refine Go.iload C d0_176 rfl ?_
  refine Go.callS C (z := y_8) (argsL := [(.int li2), (.int cc0), (.int cc1)]) (rm2 hW h35 (li2) (cc0) (cc1) (own_lat2 h_cc0 h_cc1)) (w_6 hW) (w_7 hW) (w_4 hW) (w_8 hW) d0_178 pd_8 rfl (by decide) rfl (st := []) rfl (by decide) (Nat.le_of_ble_eq_true rfl) (by decide) (by decide) ((fun _ hx => nomatch hx)) (fun v43 h44 os45 q46 K47 ho48 => ?_)
  obtain ⟨r49, t50, rfl, rfl, F51⟩ := q46
  replace F33 := F33.k0 K47
  replace F42 := F42.k0 K47
  show Go k h44 _ _ _ 181 #[.val (.int m), .val (.long p), .second, .val (.long q), .second, .val (.int kd), .val (.int li1), .val (.int lq1), .val (.int li2), .val (.int lq2), .val (.int ca0), .val (.int ca1), .val (.int cb0), .val (.int cb1), .val (.int cc0), .val (.int cc1), .val (.int ce0), .val (.int ce1), .val (.ref r31), .val (.ref r40), .unset, .unset, .unset, .unset, .unset] [(.ref r49)]
  refine Go.astore C d0_181 rfl (Ls' := #[.val (.int m), .val (.long p), .second, .val (.long q), .second, .val (.int kd), .val (.int li1), .val (.int lq1), .val (.int li2), .val (.int lq2), .val (.int ca0), .val (.int ca1), .val (.int cb0), .val (.int cb1), .val (.int cc0), .val (.int cc1), .val (.int ce0), .val (.int ce1), .val (.ref r31), .val (.ref r40), .val (.ref r49), .unset, .unset, .unset, .unset]) rfl ?_
  refine Go.iload C d0_183 rfl ?_
  refine Go.iload C d0_185 rfl ?_
  refine Go.iload C d0_187 rfl ?_
  refine Go.callS C (z := y_8) (argsL := [(.int lq2), (.int ce0), (.int ce1)]) (rm2 hW h44 (lq2) (ce0) (ce1) (own_lat2 h_ce0 h_ce1)) (w_6 hW) (w_7 hW) (w_4 hW) (w_8 hW) d0_189 pd_8 rfl (by decide) rfl (st := []) rfl (by decide) (Nat.le_of_ble_eq_true rfl) (by decide) (by decide) ((fun _ hx => nomatch hx)) (fun v52 h53 os54 q55 K56 ho57 => ?_)
  obtain ⟨r58, t59, rfl, rfl, F60⟩ := q55
  replace F33 := F33.k0 K56
  replace F42 := F42.k0 K56
  replace F51 := F51.k0 K56
  show Go k h53 _ _ _ 192 #[.val (.int m), .val (.long p), .second, .val (.long q), .second, .val (.int kd), .val (.int li1), .val (.int lq1), .val (.int li2), .val (.int lq2), .val (.int ca0), .val (.int ca1), .val (.int cb0), .val (.int cb1), .val (.int cc0), .val (.int cc1), .val (.int ce0), .val (.int ce1), .val (.ref r31), .val (.ref r40), .val (.ref r49), .unset, .unset, .unset, .unset] [(.ref r58)]
  refine Go.astore C d0_192 rfl (Ls' := #[.val (.int m), .val (.long p), .second, .val (.long q), .second, .val (.int kd), .val (.int li1), .val (.int lq1), .val (.int li2), .val (.int lq2), .val (.int ca0), .val (.int ca1), .val (.int cb0), .val (.int cb1), .val (.int cc0), .val (.int cc1), .val (.int ce0), .val (.int ce1), .val (.ref r31), .val (.ref r40), .val (.ref r49), .val (.ref r58), .unset, .unset, .unset]) rfl ?_
  refine Go.new C (w_31 hW) (w_32 hW) (w_33 hW) (fl_1 hW) dv_1 d0_194 (by decide) (by decide) (fun b61 h62 e63 K64 O65 => ?_)
  have n_r31_b61 : r31 ≠ b61 := ne_lt F33.lt (ge_of e63)
  have n_t32_b61 : t32 ≠ b61 := ne_lt F33.lt1 (ge_of e63)
  have n_r40_b61 : r40 ≠ b61 := ne_lt F42.lt (ge_of e63)
  have n_t41_b61 : t41 ≠ b61 := ne_lt F42.lt1 (ge_of e63)
  have n_r49_b61 : r49 ≠ b61 := ne_lt F51.lt (ge_of e63)
  have n_t50_b61 : t50 ≠ b61 := ne_lt F51.lt1 (ge_of e63)
  have n_r58_b61 : r58 ≠ b61 := ne_lt F60.lt (ge_of e63)
  have n_t59_b61 : t59 ≠ b61 := ne_lt F60.lt1 (ge_of e63)
  replace F33 := F33.k0 K64
  replace F42 := F42.k0 K64
  replace F51 := F51.k0 K64
  replace F60 := F60.k0 K64
  refine Go.dup C d0_197 rfl ?_
  refine Go.aload C d0_198 rfl rfl ?_
  refine Go.aload C d0_200 rfl rfl ?_
  refine Go.callI C (z := y_9) (a := b61) (argsL := [(.ref r31), (.ref r40)]) (rm6 hW h62 (b61) (r31) (r40) O65) rfl (w_34 hW) (w_35 hW) (w_33 hW) (w_36 hW) d0_202 pd_9 rfl (by decide) rfl (st := [(.ref b61)]) rfl (by decide) (Nat.le_of_ble_eq_true rfl) (by decide) (by decide) (List.forall_mem_cons.mpr ⟨(List.mem_of_getElem? (i := 0) rfl), (fun _ hx => nomatch hx)⟩) (fun v66 h67 os68 q69 K70 ho71 => ?_)
  obtain ⟨rfl, rfl, F72⟩ := q69
  replace F33 := F33.keep K70 (ninS n_r31_b61 nin0) (ninS n_t32_b61 nin0)
  replace F42 := F42.keep K70 (ninS n_r40_b61 nin0) (ninS n_t41_b61 nin0)
  replace F51 := F51.keep K70 (ninS n_r49_b61 nin0) (ninS n_t50_b61 nin0)
  replace F60 := F60.keep K70 (ninS n_r58_b61 nin0) (ninS n_t59_b61 nin0)
  show Go k h67 _ _ _ 205 #[.val (.int m), .val (.long p), .second, .val (.long q), .second, .val (.int kd), .val (.int li1), .val (.int lq1), .val (.int li2), .val (.int lq2), .val (.int ca0), .val (.int ca1), .val (.int cb0), .val (.int cb1), .val (.int cc0), .val (.int cc1), .val (.int ce0), .val (.int ce1), .val (.ref r31), .val (.ref r40), .val (.ref r49), .val (.ref r58), .unset, .unset, .unset] [(.ref b61)]
  refine Go.astore C d0_205 rfl (Ls' := #[.val (.int m), .val (.long p), .second, .val (.long q), .second, .val (.int kd), .val (.int li1), .val (.int lq1), .val (.int li2), .val (.int lq2), .val (.int ca0), .val (.int ca1), .val (.int cb0), .val (.int cb1), .val (.int cc0), .val (.int cc1), .val (.int ce0), .val (.int ce1), .val (.ref r31), .val (.ref r40), .val (.ref r49), .val (.ref r58), .val (.ref b61), .unset, .unset]) rfl ?_
  refine Go.new C (w_31 hW) (w_32 hW) (w_33 hW) (fl_1 hW) dv_1 d0_207 (by decide) (by decide) (fun b73 h74 e75 K76 O77 => ?_)
  have n_r31_b73 : r31 ≠ b73 := ne_lt F33.lt (ge_of e75)
  have n_t32_b73 : t32 ≠ b73 := ne_lt F33.lt1 (ge_of e75)
  have n_r40_b73 : r40 ≠ b73 := ne_lt F42.lt (ge_of e75)
  have n_t41_b73 : t41 ≠ b73 := ne_lt F42.lt1 (ge_of e75)
  have n_r49_b73 : r49 ≠ b73 := ne_lt F51.lt (ge_of e75)
  have n_t50_b73 : t50 ≠ b73 := ne_lt F51.lt1 (ge_of e75)
  have n_r58_b73 : r58 ≠ b73 := ne_lt F60.lt (ge_of e75)
  have n_t59_b73 : t59 ≠ b73 := ne_lt F60.lt1 (ge_of e75)
  have n_b61_b73 : b61 ≠ b73 := ne_lt F72.lt (ge_of e75)
  replace F33 := F33.k0 K76
  replace F42 := F42.k0 K76
  replace F51 := F51.k0 K76
  replace F60 := F60.k0 K76
  replace F72 := F72.k0 K76
  refine Go.dup C d0_210 rfl ?_
  refine Go.aload C d0_211 rfl rfl ?_
  refine Go.aload C d0_213 rfl rfl ?_
  refine Go.callI C (z := y_9) (a := b73) (argsL := [(.ref r49), (.ref r58)]) (rm6 hW h74 (b73) (r49) (r58) O77) rfl (w_34 hW) (w_35 hW) (w_33 hW) (w_36 hW) d0_215 pd_9 rfl (by decide) rfl (st := [(.ref b73)]) rfl (by decide) (Nat.le_of_ble_eq_true rfl) (by decide) (by decide) (List.forall_mem_cons.mpr ⟨(List.mem_of_getElem? (i := 0) rfl), (fun _ hx => nomatch hx)⟩) (fun v78 h79 os80 q81 K82 ho83 => ?_)
  obtain ⟨rfl, rfl, F84⟩ := q81
  replace F33 := F33.keep K82 (ninS n_r31_b73 nin0) (ninS n_t32_b73 nin0)
  replace F42 := F42.keep K82 (ninS n_r40_b73 nin0) (ninS n_t41_b73 nin0)
  replace F51 := F51.keep K82 (ninS n_r49_b73 nin0) (ninS n_t50_b73 nin0)
  replace F60 := F60.keep K82 (ninS n_r58_b73 nin0) (ninS n_t59_b73 nin0)
  replace F72 := F72.keep K82 (ninS n_b61_b73 nin0)
  show Go k h79 _ _ _ 218 #[.val (.int m), .val (.long p), .second, .val (.long q), .second, .val (.int kd), .val (.int li1), .val (.int lq1), .val (.int li2), .val (.int lq2), .val (.int ca0), .val (.int ca1), .val (.int cb0), .val (.int cb1), .val (.int cc0), .val (.int cc1), .val (.int ce0), .val (.int ce1), .val (.ref r31), .val (.ref r40), .val (.ref r49), .val (.ref r58), .val (.ref b61), .unset, .unset] [(.ref b73)]
  refine Go.astore C d0_218 rfl (Ls' := #[.val (.int m), .val (.long p), .second, .val (.long q), .second, .val (.int kd), .val (.int li1), .val (.int lq1), .val (.int li2), .val (.int lq2), .val (.int ca0), .val (.int ca1), .val (.int cb0), .val (.int cb1), .val (.int cc0), .val (.int cc1), .val (.int ce0), .val (.int ce1), .val (.ref r31), .val (.ref r40), .val (.ref r49), .val (.ref r58), .val (.ref b61), .val (.ref b73), .unset]) rfl ?_
  refine Go.iload C d0_220 rfl ?_
  refine Go.iconst C (1 : Int32) d0_222 (by decide) ?_
  refine Go.icmpne C d0_223 (fun hc223 => ?_) (fun hc223 => ?_)
  · refine Go.iload C d0_241 rfl ?_
    refine Go.iconst C (2 : Int32) d0_243 (by decide) ?_
    refine Go.icmpne C d0_244 (fun hc244 => ?_) (fun hc244 => ?_)
    · refine Go.iload C d0_263 rfl ?_
      refine Go.iconst C (3 : Int32) d0_265 (by decide) ?_
      refine Go.icmpne C d0_266 (fun hc266 => ?_) (fun hc266 => ?_)
      · have k1 := own_key (own_lat2 h_ca0 h_ca1) (own_lat2 h_cc0 h_cc1) h_li1 h_li2
        have k2 := own_key (own_lat2 h_cb0 h_cb1) (own_lat2 h_ce0 h_ce1) h_lq1 h_lq2
        by_cases P1 : own_same li1 ca0 ca1 li2 cc0 cc1 <;> by_cases P2 : own_same lq1 cb0 cb1 lq2 ce0 ce1
        · refine Go.iload C d0_277 rfl ?_
          refine Go.iload C d0_279 rfl ?_
          refine Go.iload C d0_281 rfl ?_
          refine Go.iload C d0_283 rfl ?_
          refine Go.iload C d0_285 rfl ?_
          refine Go.iload C d0_287 rfl ?_
          refine Go.callS C (z := y_10) (argsL := [(.int li1), (.int ca0), (.int ca1), (.int li2), (.int cc0), (.int cc1)]) (rm7 hW h79 (li1) (ca0) (ca1) (li2) (cc0) (cc1)) (w_42 hW) (w_43 hW) (w_4 hW) (w_44 hW) d0_289 pd_10 rfl (by decide) rfl (st := []) rfl (by decide) (Nat.le_of_ble_eq_true rfl) (by decide) (by decide) ((fun _ hx => nomatch hx)) (fun v103 h104 os105 q106 K107 ho108 => ?_)
          obtain ⟨rfl, rfl, rfl⟩ := q106
          clear K107 ho108
          show Go k h79 _ _ _ 292 #[.val (.int m), .val (.long p), .second, .val (.long q), .second, .val (.int kd), .val (.int li1), .val (.int lq1), .val (.int li2), .val (.int lq2), .val (.int ca0), .val (.int ca1), .val (.int cb0), .val (.int cb1), .val (.int cc0), .val (.int cc1), .val (.int ce0), .val (.int ce1), .val (.ref r31), .val (.ref r40), .val (.ref r49), .val (.ref r58), .val (.ref b61), .val (.ref b73), .unset] [(.int (if own_same li1 ca0 ca1 li2 cc0 cc1 then (1 : Int32) else 0))]
          refine Go.eqI (x' := (1 : Int32)) (if_pos P1) ?_
          refine Go.ifeq C d0_292 (fun hc => absurd hc (by decide)) (fun _ => ?_)
          refine Go.iload C d0_295 rfl ?_
          refine Go.iload C d0_297 rfl ?_
          refine Go.iload C d0_299 rfl ?_
          refine Go.iload C d0_301 rfl ?_
          refine Go.iload C d0_303 rfl ?_
          refine Go.iload C d0_305 rfl ?_
          refine Go.callS C (z := y_10) (argsL := [(.int lq1), (.int cb0), (.int cb1), (.int lq2), (.int ce0), (.int ce1)]) (rm7 hW h79 (lq1) (cb0) (cb1) (lq2) (ce0) (ce1)) (w_42 hW) (w_43 hW) (w_4 hW) (w_44 hW) d0_307 pd_10 rfl (by decide) rfl (st := []) rfl (by decide) (Nat.le_of_ble_eq_true rfl) (by decide) (by decide) ((fun _ hx => nomatch hx)) (fun v109 h110 os111 q112 K113 ho114 => ?_)
          obtain ⟨rfl, rfl, rfl⟩ := q112
          clear K113 ho114
          show Go k h79 _ _ _ 310 #[.val (.int m), .val (.long p), .second, .val (.long q), .second, .val (.int kd), .val (.int li1), .val (.int lq1), .val (.int li2), .val (.int lq2), .val (.int ca0), .val (.int ca1), .val (.int cb0), .val (.int cb1), .val (.int cc0), .val (.int cc1), .val (.int ce0), .val (.int ce1), .val (.ref r31), .val (.ref r40), .val (.ref r49), .val (.ref r58), .val (.ref b61), .val (.ref b73), .unset] [(.int (if own_same lq1 cb0 cb1 lq2 ce0 ce1 then (1 : Int32) else 0))]
          refine Go.eqI (x' := (1 : Int32)) (if_pos P2) ?_
          refine Go.ifeq C d0_310 (fun hc => absurd hc (by decide)) (fun _ => ?_)
          refine Go.iconst C (1 : Int32) d0_313 (by decide) ?_
          refine Go.goto C d0_314 ?_
          refine Go.istore C d0_318 (Ls' := #[.val (.int m), .val (.long p), .second, .val (.long q), .second, .val (.int kd), .val (.int li1), .val (.int lq1), .val (.int li2), .val (.int lq2), .val (.int ca0), .val (.int ca1), .val (.int cb0), .val (.int cb1), .val (.int cc0), .val (.int cc1), .val (.int ce0), .val (.int ce1), .val (.ref r31), .val (.ref r40), .val (.ref r49), .val (.ref r58), .val (.ref b61), .val (.ref b73), .val (.int (1 : Int32))]) rfl ?_
          refine Go.aload C d0_320 rfl rfl ?_
          refine Go.aload C d0_322 rfl rfl ?_
          refine Go.callV C (z := y_11) (zr := y_11) (a := b61) (argsL := [(.ref b73)]) (rm8 hW h79 (b61) (r31) (r40) (t32) (t41) ((List.map own_b (own_mk li1 ca0 ca1))) ((List.map own_b (own_mk lq1 cb0 cb1))) (b73) (r49) (r58) (t50) (t59) ((List.map own_b (own_mk li2 cc0 cc1))) ((List.map own_b (own_mk lq2 ce0 ce1))) F72 F33 F42 F84 F51 F60) F72.1 (w_45 hW) (w_46 hW) (fun hz => notFace_of_selects (args := #[]) (mvT hz (w_48 hW))) (w_48 hW) (w_47 hW) (w_33 hW) (w_49 hW) d0_324 pd_6 rfl (by decide) rfl (st := []) rfl (by decide) (Nat.le_of_ble_eq_true rfl) (by decide) (by decide) ((fun _ hx => nomatch hx)) (fun v115 h116 os117 q118 K119 ho120 => ?_)
          obtain ⟨rfl, rfl, rfl⟩ := q118
          clear K119 ho120
          show Go k h79 _ _ _ 327 #[.val (.int m), .val (.long p), .second, .val (.long q), .second, .val (.int kd), .val (.int li1), .val (.int lq1), .val (.int li2), .val (.int lq2), .val (.int ca0), .val (.int ca1), .val (.int cb0), .val (.int cb1), .val (.int cc0), .val (.int cc1), .val (.int ce0), .val (.int ce1), .val (.ref r31), .val (.ref r40), .val (.ref r49), .val (.ref r58), .val (.ref b61), .val (.ref b73), .val (.int (1 : Int32))] [(.int (if (List.map own_b (own_mk li1 ca0 ca1)) = (List.map own_b (own_mk li2 cc0 cc1)) ∧ (List.map own_b (own_mk lq1 cb0 cb1)) = (List.map own_b (own_mk lq2 ce0 ce1)) then (1 : Int32) else 0))]
          refine Go.eqI (x' := (1 : Int32)) (if_pos ⟨(k1.mpr P1), (k2.mpr P2)⟩) ?_
          refine Go.iload C d0_327 rfl ?_
          refine Go.icmpne C d0_329 (fun hc => absurd hc (by decide)) (fun _ => ?_)
          refine Go.aload C d0_332 rfl rfl ?_
          refine Go.aload C d0_334 rfl rfl ?_
          refine Go.callV C (z := y_11) (zr := y_11) (a := b73) (argsL := [(.ref b61)]) (rm8 hW h79 (b73) (r49) (r58) (t50) (t59) ((List.map own_b (own_mk li2 cc0 cc1))) ((List.map own_b (own_mk lq2 ce0 ce1))) (b61) (r31) (r40) (t32) (t41) ((List.map own_b (own_mk li1 ca0 ca1))) ((List.map own_b (own_mk lq1 cb0 cb1))) F84 F51 F60 F72 F33 F42) F84.1 (w_45 hW) (w_46 hW) (fun hz => notFace_of_selects (args := #[]) (mvT hz (w_48 hW))) (w_48 hW) (w_47 hW) (w_33 hW) (w_49 hW) d0_336 pd_6 rfl (by decide) rfl (st := []) rfl (by decide) (Nat.le_of_ble_eq_true rfl) (by decide) (by decide) ((fun _ hx => nomatch hx)) (fun v121 h122 os123 q124 K125 ho126 => ?_)
          obtain ⟨rfl, rfl, rfl⟩ := q124
          clear K125 ho126
          show Go k h79 _ _ _ 339 #[.val (.int m), .val (.long p), .second, .val (.long q), .second, .val (.int kd), .val (.int li1), .val (.int lq1), .val (.int li2), .val (.int lq2), .val (.int ca0), .val (.int ca1), .val (.int cb0), .val (.int cb1), .val (.int cc0), .val (.int cc1), .val (.int ce0), .val (.int ce1), .val (.ref r31), .val (.ref r40), .val (.ref r49), .val (.ref r58), .val (.ref b61), .val (.ref b73), .val (.int (1 : Int32))] [(.int (if (List.map own_b (own_mk li2 cc0 cc1)) = (List.map own_b (own_mk li1 ca0 ca1)) ∧ (List.map own_b (own_mk lq2 ce0 ce1)) = (List.map own_b (own_mk lq1 cb0 cb1)) then (1 : Int32) else 0))]
          refine Go.eqI (x' := (1 : Int32)) (if_pos ⟨(k1.mpr P1).symm, (k2.mpr P2).symm⟩) ?_
          refine Go.iload C d0_339 rfl ?_
          refine Go.icmpne C d0_341 (fun hc => absurd hc (by decide)) (fun _ => ?_)
          refine Go.iconst C (1 : Int32) d0_344 (by decide) ?_
          refine Go.goto C d0_345 ?_
          refine Go.ireturn C d0_349 (Nat.le_of_ble_eq_true rfl) (Nat.le_of_ble_eq_true rfl) (by simp) rfl [] (fun _ hx => nomatch hx) ?_
          exact ⟨rfl, rfl⟩
        · refine Go.iload C d0_277 rfl ?_
          refine Go.iload C d0_279 rfl ?_
          refine Go.iload C d0_281 rfl ?_
          refine Go.iload C d0_283 rfl ?_
          refine Go.iload C d0_285 rfl ?_
          refine Go.iload C d0_287 rfl ?_
          refine Go.callS C (z := y_10) (argsL := [(.int li1), (.int ca0), (.int ca1), (.int li2), (.int cc0), (.int cc1)]) (rm7 hW h79 (li1) (ca0) (ca1) (li2) (cc0) (cc1)) (w_42 hW) (w_43 hW) (w_4 hW) (w_44 hW) d0_289 pd_10 rfl (by decide) rfl (st := []) rfl (by decide) (Nat.le_of_ble_eq_true rfl) (by decide) (by decide) ((fun _ hx => nomatch hx)) (fun v127 h128 os129 q130 K131 ho132 => ?_)
          obtain ⟨rfl, rfl, rfl⟩ := q130
          clear K131 ho132
          show Go k h79 _ _ _ 292 #[.val (.int m), .val (.long p), .second, .val (.long q), .second, .val (.int kd), .val (.int li1), .val (.int lq1), .val (.int li2), .val (.int lq2), .val (.int ca0), .val (.int ca1), .val (.int cb0), .val (.int cb1), .val (.int cc0), .val (.int cc1), .val (.int ce0), .val (.int ce1), .val (.ref r31), .val (.ref r40), .val (.ref r49), .val (.ref r58), .val (.ref b61), .val (.ref b73), .unset] [(.int (if own_same li1 ca0 ca1 li2 cc0 cc1 then (1 : Int32) else 0))]
          refine Go.eqI (x' := (1 : Int32)) (if_pos P1) ?_
          refine Go.ifeq C d0_292 (fun hc => absurd hc (by decide)) (fun _ => ?_)
          refine Go.iload C d0_295 rfl ?_
          refine Go.iload C d0_297 rfl ?_
          refine Go.iload C d0_299 rfl ?_
          refine Go.iload C d0_301 rfl ?_
          refine Go.iload C d0_303 rfl ?_
          refine Go.iload C d0_305 rfl ?_
          refine Go.callS C (z := y_10) (argsL := [(.int lq1), (.int cb0), (.int cb1), (.int lq2), (.int ce0), (.int ce1)]) (rm7 hW h79 (lq1) (cb0) (cb1) (lq2) (ce0) (ce1)) (w_42 hW) (w_43 hW) (w_4 hW) (w_44 hW) d0_307 pd_10 rfl (by decide) rfl (st := []) rfl (by decide) (Nat.le_of_ble_eq_true rfl) (by decide) (by decide) ((fun _ hx => nomatch hx)) (fun v133 h134 os135 q136 K137 ho138 => ?_)
          obtain ⟨rfl, rfl, rfl⟩ := q136
          clear K137 ho138
          show Go k h79 _ _ _ 310 #[.val (.int m), .val (.long p), .second, .val (.long q), .second, .val (.int kd), .val (.int li1), .val (.int lq1), .val (.int li2), .val (.int lq2), .val (.int ca0), .val (.int ca1), .val (.int cb0), .val (.int cb1), .val (.int cc0), .val (.int cc1), .val (.int ce0), .val (.int ce1), .val (.ref r31), .val (.ref r40), .val (.ref r49), .val (.ref r58), .val (.ref b61), .val (.ref b73), .unset] [(.int (if own_same lq1 cb0 cb1 lq2 ce0 ce1 then (1 : Int32) else 0))]
          refine Go.eqI (x' := (0 : Int32)) (if_neg P2) ?_
          refine Go.ifeq C d0_310 (fun _ => ?_) (fun hc => absurd hc (by decide)) 
          refine Go.iconst C (0 : Int32) d0_317 (by decide) ?_
          refine Go.istore C d0_318 (Ls' := #[.val (.int m), .val (.long p), .second, .val (.long q), .second, .val (.int kd), .val (.int li1), .val (.int lq1), .val (.int li2), .val (.int lq2), .val (.int ca0), .val (.int ca1), .val (.int cb0), .val (.int cb1), .val (.int cc0), .val (.int cc1), .val (.int ce0), .val (.int ce1), .val (.ref r31), .val (.ref r40), .val (.ref r49), .val (.ref r58), .val (.ref b61), .val (.ref b73), .val (.int (0 : Int32))]) rfl ?_
          refine Go.aload C d0_320 rfl rfl ?_
          refine Go.aload C d0_322 rfl rfl ?_
          refine Go.callV C (z := y_11) (zr := y_11) (a := b61) (argsL := [(.ref b73)]) (rm8 hW h79 (b61) (r31) (r40) (t32) (t41) ((List.map own_b (own_mk li1 ca0 ca1))) ((List.map own_b (own_mk lq1 cb0 cb1))) (b73) (r49) (r58) (t50) (t59) ((List.map own_b (own_mk li2 cc0 cc1))) ((List.map own_b (own_mk lq2 ce0 ce1))) F72 F33 F42 F84 F51 F60) F72.1 (w_45 hW) (w_46 hW) (fun hz => notFace_of_selects (args := #[]) (mvT hz (w_48 hW))) (w_48 hW) (w_47 hW) (w_33 hW) (w_49 hW) d0_324 pd_6 rfl (by decide) rfl (st := []) rfl (by decide) (Nat.le_of_ble_eq_true rfl) (by decide) (by decide) ((fun _ hx => nomatch hx)) (fun v139 h140 os141 q142 K143 ho144 => ?_)
          obtain ⟨rfl, rfl, rfl⟩ := q142
          clear K143 ho144
          show Go k h79 _ _ _ 327 #[.val (.int m), .val (.long p), .second, .val (.long q), .second, .val (.int kd), .val (.int li1), .val (.int lq1), .val (.int li2), .val (.int lq2), .val (.int ca0), .val (.int ca1), .val (.int cb0), .val (.int cb1), .val (.int cc0), .val (.int cc1), .val (.int ce0), .val (.int ce1), .val (.ref r31), .val (.ref r40), .val (.ref r49), .val (.ref r58), .val (.ref b61), .val (.ref b73), .val (.int (0 : Int32))] [(.int (if (List.map own_b (own_mk li1 ca0 ca1)) = (List.map own_b (own_mk li2 cc0 cc1)) ∧ (List.map own_b (own_mk lq1 cb0 cb1)) = (List.map own_b (own_mk lq2 ce0 ce1)) then (1 : Int32) else 0))]
          refine Go.eqI (x' := (0 : Int32)) (if_neg fun q => P2 (k2.mp q.2)) ?_
          refine Go.iload C d0_327 rfl ?_
          refine Go.icmpne C d0_329 (fun hc => absurd hc (by decide)) (fun _ => ?_)
          refine Go.aload C d0_332 rfl rfl ?_
          refine Go.aload C d0_334 rfl rfl ?_
          refine Go.callV C (z := y_11) (zr := y_11) (a := b73) (argsL := [(.ref b61)]) (rm8 hW h79 (b73) (r49) (r58) (t50) (t59) ((List.map own_b (own_mk li2 cc0 cc1))) ((List.map own_b (own_mk lq2 ce0 ce1))) (b61) (r31) (r40) (t32) (t41) ((List.map own_b (own_mk li1 ca0 ca1))) ((List.map own_b (own_mk lq1 cb0 cb1))) F84 F51 F60 F72 F33 F42) F84.1 (w_45 hW) (w_46 hW) (fun hz => notFace_of_selects (args := #[]) (mvT hz (w_48 hW))) (w_48 hW) (w_47 hW) (w_33 hW) (w_49 hW) d0_336 pd_6 rfl (by decide) rfl (st := []) rfl (by decide) (Nat.le_of_ble_eq_true rfl) (by decide) (by decide) ((fun _ hx => nomatch hx)) (fun v145 h146 os147 q148 K149 ho150 => ?_)
          obtain ⟨rfl, rfl, rfl⟩ := q148
          clear K149 ho150
          show Go k h79 _ _ _ 339 #[.val (.int m), .val (.long p), .second, .val (.long q), .second, .val (.int kd), .val (.int li1), .val (.int lq1), .val (.int li2), .val (.int lq2), .val (.int ca0), .val (.int ca1), .val (.int cb0), .val (.int cb1), .val (.int cc0), .val (.int cc1), .val (.int ce0), .val (.int ce1), .val (.ref r31), .val (.ref r40), .val (.ref r49), .val (.ref r58), .val (.ref b61), .val (.ref b73), .val (.int (0 : Int32))] [(.int (if (List.map own_b (own_mk li2 cc0 cc1)) = (List.map own_b (own_mk li1 ca0 ca1)) ∧ (List.map own_b (own_mk lq2 ce0 ce1)) = (List.map own_b (own_mk lq1 cb0 cb1)) then (1 : Int32) else 0))]
          refine Go.eqI (x' := (0 : Int32)) (if_neg fun q => P2 (k2.mp q.2.symm)) ?_
          refine Go.iload C d0_339 rfl ?_
          refine Go.icmpne C d0_341 (fun hc => absurd hc (by decide)) (fun _ => ?_)
          refine Go.iconst C (1 : Int32) d0_344 (by decide) ?_
          refine Go.goto C d0_345 ?_
          refine Go.ireturn C d0_349 (Nat.le_of_ble_eq_true rfl) (Nat.le_of_ble_eq_true rfl) (by simp) rfl [] (fun _ hx => nomatch hx) ?_
          exact ⟨rfl, rfl⟩
        · refine Go.iload C d0_277 rfl ?_
          refine Go.iload C d0_279 rfl ?_
          refine Go.iload C d0_281 rfl ?_
          refine Go.iload C d0_283 rfl ?_
          refine Go.iload C d0_285 rfl ?_
          refine Go.iload C d0_287 rfl ?_
          refine Go.callS C (z := y_10) (argsL := [(.int li1), (.int ca0), (.int ca1), (.int li2), (.int cc0), (.int cc1)]) (rm7 hW h79 (li1) (ca0) (ca1) (li2) (cc0) (cc1)) (w_42 hW) (w_43 hW) (w_4 hW) (w_44 hW) d0_289 pd_10 rfl (by decide) rfl (st := []) rfl (by decide) (Nat.le_of_ble_eq_true rfl) (by decide) (by decide) ((fun _ hx => nomatch hx)) (fun v151 h152 os153 q154 K155 ho156 => ?_)
          obtain ⟨rfl, rfl, rfl⟩ := q154
          clear K155 ho156
          show Go k h79 _ _ _ 292 #[.val (.int m), .val (.long p), .second, .val (.long q), .second, .val (.int kd), .val (.int li1), .val (.int lq1), .val (.int li2), .val (.int lq2), .val (.int ca0), .val (.int ca1), .val (.int cb0), .val (.int cb1), .val (.int cc0), .val (.int cc1), .val (.int ce0), .val (.int ce1), .val (.ref r31), .val (.ref r40), .val (.ref r49), .val (.ref r58), .val (.ref b61), .val (.ref b73), .unset] [(.int (if own_same li1 ca0 ca1 li2 cc0 cc1 then (1 : Int32) else 0))]
          refine Go.eqI (x' := (0 : Int32)) (if_neg P1) ?_
          refine Go.ifeq C d0_292 (fun _ => ?_) (fun hc => absurd hc (by decide)) 
          refine Go.iconst C (0 : Int32) d0_317 (by decide) ?_
          refine Go.istore C d0_318 (Ls' := #[.val (.int m), .val (.long p), .second, .val (.long q), .second, .val (.int kd), .val (.int li1), .val (.int lq1), .val (.int li2), .val (.int lq2), .val (.int ca0), .val (.int ca1), .val (.int cb0), .val (.int cb1), .val (.int cc0), .val (.int cc1), .val (.int ce0), .val (.int ce1), .val (.ref r31), .val (.ref r40), .val (.ref r49), .val (.ref r58), .val (.ref b61), .val (.ref b73), .val (.int (0 : Int32))]) rfl ?_
          refine Go.aload C d0_320 rfl rfl ?_
          refine Go.aload C d0_322 rfl rfl ?_
          refine Go.callV C (z := y_11) (zr := y_11) (a := b61) (argsL := [(.ref b73)]) (rm8 hW h79 (b61) (r31) (r40) (t32) (t41) ((List.map own_b (own_mk li1 ca0 ca1))) ((List.map own_b (own_mk lq1 cb0 cb1))) (b73) (r49) (r58) (t50) (t59) ((List.map own_b (own_mk li2 cc0 cc1))) ((List.map own_b (own_mk lq2 ce0 ce1))) F72 F33 F42 F84 F51 F60) F72.1 (w_45 hW) (w_46 hW) (fun hz => notFace_of_selects (args := #[]) (mvT hz (w_48 hW))) (w_48 hW) (w_47 hW) (w_33 hW) (w_49 hW) d0_324 pd_6 rfl (by decide) rfl (st := []) rfl (by decide) (Nat.le_of_ble_eq_true rfl) (by decide) (by decide) ((fun _ hx => nomatch hx)) (fun v157 h158 os159 q160 K161 ho162 => ?_)
          obtain ⟨rfl, rfl, rfl⟩ := q160
          clear K161 ho162
          show Go k h79 _ _ _ 327 #[.val (.int m), .val (.long p), .second, .val (.long q), .second, .val (.int kd), .val (.int li1), .val (.int lq1), .val (.int li2), .val (.int lq2), .val (.int ca0), .val (.int ca1), .val (.int cb0), .val (.int cb1), .val (.int cc0), .val (.int cc1), .val (.int ce0), .val (.int ce1), .val (.ref r31), .val (.ref r40), .val (.ref r49), .val (.ref r58), .val (.ref b61), .val (.ref b73), .val (.int (0 : Int32))] [(.int (if (List.map own_b (own_mk li1 ca0 ca1)) = (List.map own_b (own_mk li2 cc0 cc1)) ∧ (List.map own_b (own_mk lq1 cb0 cb1)) = (List.map own_b (own_mk lq2 ce0 ce1)) then (1 : Int32) else 0))]
          refine Go.eqI (x' := (0 : Int32)) (if_neg fun q => P1 (k1.mp q.1)) ?_
          refine Go.iload C d0_327 rfl ?_
          refine Go.icmpne C d0_329 (fun hc => absurd hc (by decide)) (fun _ => ?_)
          refine Go.aload C d0_332 rfl rfl ?_
          refine Go.aload C d0_334 rfl rfl ?_
          refine Go.callV C (z := y_11) (zr := y_11) (a := b73) (argsL := [(.ref b61)]) (rm8 hW h79 (b73) (r49) (r58) (t50) (t59) ((List.map own_b (own_mk li2 cc0 cc1))) ((List.map own_b (own_mk lq2 ce0 ce1))) (b61) (r31) (r40) (t32) (t41) ((List.map own_b (own_mk li1 ca0 ca1))) ((List.map own_b (own_mk lq1 cb0 cb1))) F84 F51 F60 F72 F33 F42) F84.1 (w_45 hW) (w_46 hW) (fun hz => notFace_of_selects (args := #[]) (mvT hz (w_48 hW))) (w_48 hW) (w_47 hW) (w_33 hW) (w_49 hW) d0_336 pd_6 rfl (by decide) rfl (st := []) rfl (by decide) (Nat.le_of_ble_eq_true rfl) (by decide) (by decide) ((fun _ hx => nomatch hx)) (fun v163 h164 os165 q166 K167 ho168 => ?_)
          obtain ⟨rfl, rfl, rfl⟩ := q166
          clear K167 ho168
          show Go k h79 _ _ _ 339 #[.val (.int m), .val (.long p), .second, .val (.long q), .second, .val (.int kd), .val (.int li1), .val (.int lq1), .val (.int li2), .val (.int lq2), .val (.int ca0), .val (.int ca1), .val (.int cb0), .val (.int cb1), .val (.int cc0), .val (.int cc1), .val (.int ce0), .val (.int ce1), .val (.ref r31), .val (.ref r40), .val (.ref r49), .val (.ref r58), .val (.ref b61), .val (.ref b73), .val (.int (0 : Int32))] [(.int (if (List.map own_b (own_mk li2 cc0 cc1)) = (List.map own_b (own_mk li1 ca0 ca1)) ∧ (List.map own_b (own_mk lq2 ce0 ce1)) = (List.map own_b (own_mk lq1 cb0 cb1)) then (1 : Int32) else 0))]
          refine Go.eqI (x' := (0 : Int32)) (if_neg fun q => P1 (k1.mp q.1.symm)) ?_
          refine Go.iload C d0_339 rfl ?_
          refine Go.icmpne C d0_341 (fun hc => absurd hc (by decide)) (fun _ => ?_)
          refine Go.iconst C (1 : Int32) d0_344 (by decide) ?_
          refine Go.goto C d0_345 ?_
          refine Go.ireturn C d0_349 (Nat.le_of_ble_eq_true rfl) (Nat.le_of_ble_eq_true rfl) (by simp) rfl [] (fun _ hx => nomatch hx) ?_
          exact ⟨rfl, rfl⟩
        · refine Go.iload C d0_277 rfl ?_
          refine Go.iload C d0_279 rfl ?_
          refine Go.iload C d0_281 rfl ?_
          refine Go.iload C d0_283 rfl ?_
          refine Go.iload C d0_285 rfl ?_
          refine Go.iload C d0_287 rfl ?_
          refine Go.callS C (z := y_10) (argsL := [(.int li1), (.int ca0), (.int ca1), (.int li2), (.int cc0), (.int cc1)]) (rm7 hW h79 (li1) (ca0) (ca1) (li2) (cc0) (cc1)) (w_42 hW) (w_43 hW) (w_4 hW) (w_44 hW) d0_289 pd_10 rfl (by decide) rfl (st := []) rfl (by decide) (Nat.le_of_ble_eq_true rfl) (by decide) (by decide) ((fun _ hx => nomatch hx)) (fun v169 h170 os171 q172 K173 ho174 => ?_)
          obtain ⟨rfl, rfl, rfl⟩ := q172
          clear K173 ho174
          show Go k h79 _ _ _ 292 #[.val (.int m), .val (.long p), .second, .val (.long q), .second, .val (.int kd), .val (.int li1), .val (.int lq1), .val (.int li2), .val (.int lq2), .val (.int ca0), .val (.int ca1), .val (.int cb0), .val (.int cb1), .val (.int cc0), .val (.int cc1), .val (.int ce0), .val (.int ce1), .val (.ref r31), .val (.ref r40), .val (.ref r49), .val (.ref r58), .val (.ref b61), .val (.ref b73), .unset] [(.int (if own_same li1 ca0 ca1 li2 cc0 cc1 then (1 : Int32) else 0))]
          refine Go.eqI (x' := (0 : Int32)) (if_neg P1) ?_
          refine Go.ifeq C d0_292 (fun _ => ?_) (fun hc => absurd hc (by decide)) 
          refine Go.iconst C (0 : Int32) d0_317 (by decide) ?_
          refine Go.istore C d0_318 (Ls' := #[.val (.int m), .val (.long p), .second, .val (.long q), .second, .val (.int kd), .val (.int li1), .val (.int lq1), .val (.int li2), .val (.int lq2), .val (.int ca0), .val (.int ca1), .val (.int cb0), .val (.int cb1), .val (.int cc0), .val (.int cc1), .val (.int ce0), .val (.int ce1), .val (.ref r31), .val (.ref r40), .val (.ref r49), .val (.ref r58), .val (.ref b61), .val (.ref b73), .val (.int (0 : Int32))]) rfl ?_
          refine Go.aload C d0_320 rfl rfl ?_
          refine Go.aload C d0_322 rfl rfl ?_
          refine Go.callV C (z := y_11) (zr := y_11) (a := b61) (argsL := [(.ref b73)]) (rm8 hW h79 (b61) (r31) (r40) (t32) (t41) ((List.map own_b (own_mk li1 ca0 ca1))) ((List.map own_b (own_mk lq1 cb0 cb1))) (b73) (r49) (r58) (t50) (t59) ((List.map own_b (own_mk li2 cc0 cc1))) ((List.map own_b (own_mk lq2 ce0 ce1))) F72 F33 F42 F84 F51 F60) F72.1 (w_45 hW) (w_46 hW) (fun hz => notFace_of_selects (args := #[]) (mvT hz (w_48 hW))) (w_48 hW) (w_47 hW) (w_33 hW) (w_49 hW) d0_324 pd_6 rfl (by decide) rfl (st := []) rfl (by decide) (Nat.le_of_ble_eq_true rfl) (by decide) (by decide) ((fun _ hx => nomatch hx)) (fun v175 h176 os177 q178 K179 ho180 => ?_)
          obtain ⟨rfl, rfl, rfl⟩ := q178
          clear K179 ho180
          show Go k h79 _ _ _ 327 #[.val (.int m), .val (.long p), .second, .val (.long q), .second, .val (.int kd), .val (.int li1), .val (.int lq1), .val (.int li2), .val (.int lq2), .val (.int ca0), .val (.int ca1), .val (.int cb0), .val (.int cb1), .val (.int cc0), .val (.int cc1), .val (.int ce0), .val (.int ce1), .val (.ref r31), .val (.ref r40), .val (.ref r49), .val (.ref r58), .val (.ref b61), .val (.ref b73), .val (.int (0 : Int32))] [(.int (if (List.map own_b (own_mk li1 ca0 ca1)) = (List.map own_b (own_mk li2 cc0 cc1)) ∧ (List.map own_b (own_mk lq1 cb0 cb1)) = (List.map own_b (own_mk lq2 ce0 ce1)) then (1 : Int32) else 0))]
          refine Go.eqI (x' := (0 : Int32)) (if_neg fun q => P1 (k1.mp q.1)) ?_
          refine Go.iload C d0_327 rfl ?_
          refine Go.icmpne C d0_329 (fun hc => absurd hc (by decide)) (fun _ => ?_)
          refine Go.aload C d0_332 rfl rfl ?_
          refine Go.aload C d0_334 rfl rfl ?_
          refine Go.callV C (z := y_11) (zr := y_11) (a := b73) (argsL := [(.ref b61)]) (rm8 hW h79 (b73) (r49) (r58) (t50) (t59) ((List.map own_b (own_mk li2 cc0 cc1))) ((List.map own_b (own_mk lq2 ce0 ce1))) (b61) (r31) (r40) (t32) (t41) ((List.map own_b (own_mk li1 ca0 ca1))) ((List.map own_b (own_mk lq1 cb0 cb1))) F84 F51 F60 F72 F33 F42) F84.1 (w_45 hW) (w_46 hW) (fun hz => notFace_of_selects (args := #[]) (mvT hz (w_48 hW))) (w_48 hW) (w_47 hW) (w_33 hW) (w_49 hW) d0_336 pd_6 rfl (by decide) rfl (st := []) rfl (by decide) (Nat.le_of_ble_eq_true rfl) (by decide) (by decide) ((fun _ hx => nomatch hx)) (fun v181 h182 os183 q184 K185 ho186 => ?_)
          obtain ⟨rfl, rfl, rfl⟩ := q184
          clear K185 ho186
          show Go k h79 _ _ _ 339 #[.val (.int m), .val (.long p), .second, .val (.long q), .second, .val (.int kd), .val (.int li1), .val (.int lq1), .val (.int li2), .val (.int lq2), .val (.int ca0), .val (.int ca1), .val (.int cb0), .val (.int cb1), .val (.int cc0), .val (.int cc1), .val (.int ce0), .val (.int ce1), .val (.ref r31), .val (.ref r40), .val (.ref r49), .val (.ref r58), .val (.ref b61), .val (.ref b73), .val (.int (0 : Int32))] [(.int (if (List.map own_b (own_mk li2 cc0 cc1)) = (List.map own_b (own_mk li1 ca0 ca1)) ∧ (List.map own_b (own_mk lq2 ce0 ce1)) = (List.map own_b (own_mk lq1 cb0 cb1)) then (1 : Int32) else 0))]
          refine Go.eqI (x' := (0 : Int32)) (if_neg fun q => P1 (k1.mp q.1.symm)) ?_
          refine Go.iload C d0_339 rfl ?_
          refine Go.icmpne C d0_341 (fun hc => absurd hc (by decide)) (fun _ => ?_)
          refine Go.iconst C (1 : Int32) d0_344 (by decide) ?_
          refine Go.goto C d0_345 ?_
          refine Go.ireturn C d0_349 (Nat.le_of_ble_eq_true rfl) (Nat.le_of_ble_eq_true rfl) (by simp) rfl [] (fun _ hx => nomatch hx) ?_
          exact ⟨rfl, rfl⟩
      · refine Go.aload C d0_269 rfl rfl ?_
        refine Go.aload C d0_271 rfl rfl ?_
        refine Go.callV C (z := y_11) (zr := y_11) (a := b61) (argsL := [(.ref b61)]) (rm8 hW h79 (b61) (r31) (r40) (t32) (t41) ((List.map own_b (own_mk li1 ca0 ca1))) ((List.map own_b (own_mk lq1 cb0 cb1))) (b61) (r31) (r40) (t32) (t41) ((List.map own_b (own_mk li1 ca0 ca1))) ((List.map own_b (own_mk lq1 cb0 cb1))) F72 F33 F42 F72 F33 F42) F72.1 (w_45 hW) (w_46 hW) (fun hz => notFace_of_selects (args := #[]) (mvT hz (w_48 hW))) (w_48 hW) (w_47 hW) (w_33 hW) (w_49 hW) d0_273 pd_6 rfl (by decide) rfl (st := []) rfl (by decide) (Nat.le_of_ble_eq_true rfl) (by decide) (by decide) ((fun _ hx => nomatch hx)) (fun v97 h98 os99 q100 K101 ho102 => ?_)
        obtain ⟨rfl, rfl, rfl⟩ := q100
        clear K101 ho102
        show Go k h79 _ _ _ 276 #[.val (.int m), .val (.long p), .second, .val (.long q), .second, .val (.int kd), .val (.int li1), .val (.int lq1), .val (.int li2), .val (.int lq2), .val (.int ca0), .val (.int ca1), .val (.int cb0), .val (.int cb1), .val (.int cc0), .val (.int cc1), .val (.int ce0), .val (.int ce1), .val (.ref r31), .val (.ref r40), .val (.ref r49), .val (.ref r58), .val (.ref b61), .val (.ref b73), .unset] [(.int (if (List.map own_b (own_mk li1 ca0 ca1)) = (List.map own_b (own_mk li1 ca0 ca1)) ∧ (List.map own_b (own_mk lq1 cb0 cb1)) = (List.map own_b (own_mk lq1 cb0 cb1)) then (1 : Int32) else 0))]
        refine Go.eqI (x' := (1 : Int32)) (if_pos ⟨rfl, rfl⟩) ?_
        refine Go.ireturn C d0_276 (Nat.le_of_ble_eq_true rfl) (Nat.le_of_ble_eq_true rfl) (by simp) rfl [] (fun _ hx => nomatch hx) ?_
        exact ⟨rfl, rfl⟩
    · refine Go.aload C d0_247 rfl rfl ?_
      refine Go.aload C d0_249 rfl rfl ?_
      refine Go.callV C (z := y_11) (zr := y_11) (a := b61) (argsL := [(.ref r31)]) (rm_tstr hW h79 (b61) (r31) (t32) ((List.map own_b (own_mk li1 ca0 ca1))) F33) F72.1 (w_45 hW) (w_46 hW) (fun hz => notFace_of_selects (args := #[]) (mvT hz (w_48 hW))) (w_48 hW) (w_47 hW) (w_33 hW) (w_49 hW) d0_251 pd_6 rfl (by decide) rfl (st := []) rfl (by decide) (Nat.le_of_ble_eq_true rfl) (by decide) (by decide) ((fun _ hx => nomatch hx)) (fun v91 h92 os93 q94 K95 ho96 => ?_)
      obtain ⟨rfl, rfl, rfl⟩ := q94
      clear K95 ho96
      show Go k h79 _ _ _ 254 #[.val (.int m), .val (.long p), .second, .val (.long q), .second, .val (.int kd), .val (.int li1), .val (.int lq1), .val (.int li2), .val (.int lq2), .val (.int ca0), .val (.int ca1), .val (.int cb0), .val (.int cb1), .val (.int cc0), .val (.int cc1), .val (.int ce0), .val (.int ce1), .val (.ref r31), .val (.ref r40), .val (.ref r49), .val (.ref r58), .val (.ref b61), .val (.ref b73), .unset] [(.int (0 : Int32))]
      refine Go.ifne C d0_254 (fun hc => absurd hc (by decide)) (fun _ => ?_)
      refine Go.iconst C (1 : Int32) d0_257 (by decide) ?_
      refine Go.goto C d0_258 ?_
      refine Go.ireturn C d0_262 (Nat.le_of_ble_eq_true rfl) (Nat.le_of_ble_eq_true rfl) (by simp) rfl [] (fun _ hx => nomatch hx) ?_
      exact ⟨rfl, rfl⟩
  · refine Go.aload C d0_226 rfl rfl ?_
    refine Go.aconstNull C d0_228 ?_
    refine Go.callV C (z := y_11) (zr := y_11) (a := b61) (argsL := [.null]) (rm_tnull hW h79 (b61)) F72.1 (w_45 hW) (w_46 hW) (fun hz => notFace_of_selects (args := #[]) (mvT hz (w_48 hW))) (w_48 hW) (w_47 hW) (w_33 hW) (w_49 hW) d0_229 pd_6 rfl (by decide) rfl (st := []) rfl (by decide) (Nat.le_of_ble_eq_true rfl) (by decide) (by decide) ((fun _ hx => nomatch hx)) (fun v85 h86 os87 q88 K89 ho90 => ?_)
    obtain ⟨rfl, rfl, rfl⟩ := q88
    clear K89 ho90
    show Go k h79 _ _ _ 232 #[.val (.int m), .val (.long p), .second, .val (.long q), .second, .val (.int kd), .val (.int li1), .val (.int lq1), .val (.int li2), .val (.int lq2), .val (.int ca0), .val (.int ca1), .val (.int cb0), .val (.int cb1), .val (.int cc0), .val (.int cc1), .val (.int ce0), .val (.int ce1), .val (.ref r31), .val (.ref r40), .val (.ref r49), .val (.ref r58), .val (.ref b61), .val (.ref b73), .unset] [(.int (0 : Int32))]
    refine Go.ifne C d0_232 (fun hc => absurd hc (by decide)) (fun _ => ?_)
    refine Go.iconst C (1 : Int32) d0_235 (by decide) ?_
    refine Go.goto C d0_236 ?_
    refine Go.ireturn C d0_240 (Nat.le_of_ble_eq_true rfl) (Nat.le_of_ble_eq_true rfl) (by simp) rfl [] (fun _ hx => nomatch hx) ?_
    exact ⟨rfl, rfl⟩
set_option maxRecDepth 65536 in
set_option maxHeartbeats 40000000 in
theorem comes_1 {Post : Tables → Env → Array Value → State → Outcome → State → Prop} (hpost : ∀ tb e args s v u, (limb_1_1.after args s (.returned v) u = true ∧ limb_1_2.after args s (.returned v) u = true ∧ True) → ReturnedEndW s (.returned v) u (Jvm.fieldLocs frame_1_writes args s ++ Jvm.arrayLocs frame_1_arrays args s ++ Jvm.staticLocs frame_1_statics s) 40 1216 → Post tb e args s (.returned v) u) :
    ArmFor flags0 classFile x code maxLocals ret World_1 tables_1 room_1 Calls_1 rest_1 Pre_1 Post := by
  intro l hfl _ _ p e ha hc hk s m args below hf hA hF happ hP
  obtain ⟨hcalls, hrest, hpre⟩ := hP
  obtain ⟨-, -, -, hnamed, -, -, -, hat⟩ := (Spec.applies_iff hf).mp happ
  obtain ⟨hg, hn⟩ := and_e (Cond.before_iff.mp (show (Jvm.Cond.and given_1 narrow_1).before args s = true from hpre))
  obtain ⟨g1, g2⟩ := and_e hg
  obtain ⟨g3, g4⟩ := and_e g2
  obtain ⟨g5, g6⟩ := and_e g4
  obtain ⟨w0, w1, w2, rfl⟩ : ∃ w0 w1 w2 : Value, args = #[w0, w1, w2] := by
    have hs : args.size = 3 := by simpa [Cond.value, given_1] using g1
    obtain ⟨L⟩ := args
    match L, hs with
    | [w0, w1, w2], _ => exact ⟨w0, w1, w2, rfl⟩
  have hw := fun d (hd : d ∈ tables_1) => atoms_spec (ws := Jvm.Cond.code x code maxLocals ret :: tables_1) hat d (List.mem_cons_of_mem _ hd)
  have hfit : Fit s := fun {y c} hc i hi => by
    obtain ⟨ha, rfl⟩ := Array.getElem?_eq_some_iff.mp hc
    have q := List.all_eq_true.mp ((Array.all_eq_true_iff_forall_mem.mp hF) _ (Array.getElem_mem ha)) i (List.mem_range.mpr hi)
    simpa [Array.getElem?_eq_getElem hi] using q
  obtain ⟨hsets, hown0⟩ := atoms_of _ (rest_1_c_eq ▸ (show rest_1_c.before _ s = true from hrest))
  have hW : W0 s _ := ⟨hw, hsets⟩
  obtain ⟨i0, ei0⟩ := is_v g3
  obtain rfl : w0 = (.int i0) := Option.some.inj ei0
  obtain ⟨i1, ei1⟩ := isL_v g5
  obtain rfl : w1 = (.long i1) := Option.some.inj ei1
  obtain ⟨i2, ei2⟩ := isL_v g6
  obtain rfl : w2 = (.long i2) := Option.some.inj ei2
  obtain ⟨n, o, h1, h2, h3, v, L, os, rfl, hQ, -, -, N, -, hq, hq2⟩ := (rm0 (l := l) hW s.heap i0 i1 i2 : Con l s own_EL true x code maxLocals ret room_1 tables_1 _ _ _ _) p e ha hc hk s m _ below hf ((Spec.applies_iff_loose hf).mp happ).1 ⟨rfl, State.Warmed39.refl s, rfl, CHv.start (own_ew hW) (fun p hp => hcalls.1 p hp) (s_2 hW) (w_24 hW) (w_10 hW), ⟨Nat.le_refl _, fun _ _ q => q⟩, (fun _ q => nomatch q)⟩ trivial
  obtain ⟨rfl, -⟩ := hQ
  refine ⟨n, _, h1, h2, h3, hpost _ _ _ _ _ _ ⟨Cond.after_iff.mpr rfl, Cond.after_iff.mpr (eq_i res_at (Term.int_eval (1)) rfl), trivial⟩ ⟨hq.1, hq.2.1, hq.2.2.1, (hq.2.2.2.sift fun y hy => Or.inr (N y hy)).mono (by decide) (by decide)⟩⟩
theorem main_1_1 : Claimed_1_1 := comes_1 fun _ _ _ _ _ _ h hF => ⟨h.1, hF⟩
theorem main_1_2 : Claimed_1_2 := comes_1 fun _ _ _ _ _ _ h hF => ⟨h.2.1, hF⟩
end Jvm.Pilot.@@N@@
namespace Jvm.Pilot.@@N@@
open Jvm Jvm.ClassFile Sem Op Lib Jvm.Free Jvm.Stand Jvm.Pilot.@@N@@.Jvm.D
/-! MADE BY PROGRAM (witnessworld.py) out of the Statement's table words and the real class files: 20 classes; the members and pool entries that the words name. The judged class is class 1, her method 1. -/
namespace start1
open Jvm.ClassFile
def u (s : String) : CpInfo := .utf8 (stringToUtf16 s)
/-- a pool by its gaps: so many unusable entries, then the entry; so many at the end -/
def gap : Nat → List CpInfo → List CpInfo
  | 0, r => r
  | n + 1, r => .unusable :: gap n r
def poolList (es : List (Nat × CpInfo)) (last : Nat) : List CpInfo := es.foldr (fun e r => gap e.1 (e.2 :: r)) (gap last [])
def pool (es : List (Nat × CpInfo)) (last : Nat) : Array CpInfo := ⟨poolList es last⟩
def fileOf (pool : Array CpInfo) (this : Nat) (attrs : Array Attribute := #[]) (ms : Array MethodInfo := #[]) (fl : Nat := 33) (sup : Nat := 0) (ifs : Array Nat := #[]) (fds : Array FieldInfo := #[]) : ClassFile where
  minorVersion := 0
  majorVersion := 65
  constantPool := pool
  accessFlags := fl
  thisClass := this
  superClass := sup
  interfaces := ifs
  fields := fds
  methods := ms
  attributes := attrs
def plain (name : String) (sup : Option ClassId) : Class where
  name := name
  kind := .ordinary
  loader := none
  accessFlags := 33
  super := sup
  interfaces := #[]
  cf := none
  fields := #[]
  methods := #[]
  instanceTypes := #[]
  staticTypes := #[]
  resolved := #[]
  callSites := []
  init := .initialized
  statics := none
  mirror := none

def pool0 : Array CpInfo := pool [(5, u "<init>"), (0, u "()V"), (1, .class_ 10), (1, u "java/lang/Object")] 113

def k0c0 : Code := { maxStack := 0, maxLocals := 1, code := object_method_1_code, exceptionTable := #[], attributes := #[] }
def k0m0 : Method := { name := "<init>", desc := "()V", sig := { parameters := [], returnType := none }, accessFlags := 1, code := some k0c0 }
/-- java/lang/Object -/
def k0 : Class := { plain "java/lang/Object" none with
  accessFlags := 33
  interfaces := #[]
  cf := some (fileOf pool0 8 #[] #[{ accessFlags := 1, nameIndex := 5, descriptorIndex := 6, attributes := #[] }] 33 0 #[] #[])
  fields := #[]
  methods := #[k0m0]
  instanceTypes := #[]
  staticTypes := #[]
  resolved := Array.replicate 124 none
  statics := none }

def pool1 : Array CpInfo := pool [(2, .class_ 4), (1, u "java/lang/Object"), (0, u "<init>"), (0, u "()V"), (0, .integer 2147483647), (0, .long 255), (1, .methodref 11 12), (0, .class_ 13), (0, .nameAndType 14 15), (0, u "com/example/text_span_search/textspansearch/trec/TopicEqualsPinLaw"), (0, u "dl"), (0, u "(IIJI)C"), (0, .methodref 11 17), (0, .nameAndType 18 19), (0, u "mk"), (0, u "(ICC)Ljava/lang/String;"), (0, .class_ 21), (0, u "com/example/text_span_search/textspansearch/trec/Topic"), (0, .methodref 20 23), (0, .nameAndType 5 24), (0, u "(Ljava/lang/String;Ljava/lang/String;)V"), (0, .methodref 20 26), (0, .nameAndType 27 28), (0, u "equals"), (0, u "(Ljava/lang/Object;)Z"), (0, .methodref 11 30), (0, .nameAndType 31 32), (0, u "same"), (0, u "(ICCICC)Z"), (0, .class_ 34), (0, u "java/lang/String"), (0, .methodref 33 36), (0, .nameAndType 5 37), (0, u "([C)V"), (2, u "law"), (0, u "(IJJ)Z")] 3

def k1m0 : Method := { name := "<init>", desc := "()V", sig := { parameters := [], returnType := none }, accessFlags := 1, code := none }
def k1c1 : Code := { maxStack := 6, maxLocals := 25, code := code, exceptionTable := #[], attributes := #[] }
def k1m1 : Method := { name := "law", desc := "(IJJ)Z", sig := { parameters := [.int, .long, .long], returnType := some .boolean }, accessFlags := 9, code := some k1c1 }
def k1c2 : Code := { maxStack := 4, maxLocals := 5, code := method_3_code, exceptionTable := #[], attributes := #[] }
def k1m2 : Method := { name := "dl", desc := "(IIJI)C", sig := { parameters := [.int, .int, .long, .int], returnType := some .char }, accessFlags := 10, code := some k1c2 }
def k1c3 : Code := { maxStack := 3, maxLocals := 4, code := method_4_code, exceptionTable := #[], attributes := #[] }
def k1m3 : Method := { name := "mk", desc := "(ICC)Ljava/lang/String;", sig := { parameters := [.int, .char, .char], returnType := some (.object "java/lang/String") }, accessFlags := 10, code := some k1c3 }
def k1c4 : Code := { maxStack := 2, maxLocals := 6, code := method_5_code, exceptionTable := #[], attributes := #[] }
def k1m4 : Method := { name := "same", desc := "(ICCICC)Z", sig := { parameters := [.int, .char, .char, .int, .char, .char], returnType := some .boolean }, accessFlags := 10, code := some k1c4 }
/-- com/example/text_span_search/textspansearch/trec/TopicEqualsPinLaw -/
def k1 : Class := { plain "com/example/text_span_search/textspansearch/trec/TopicEqualsPinLaw" (some 0) with
  accessFlags := 49
  interfaces := #[]
  cf := some (fileOf pool1 11 #[] #[{ accessFlags := 1, nameIndex := 5, descriptorIndex := 6, attributes := #[] }, { accessFlags := 9, nameIndex := 40, descriptorIndex := 41, attributes := #[] }, { accessFlags := 10, nameIndex := 14, descriptorIndex := 15, attributes := #[] }, { accessFlags := 10, nameIndex := 18, descriptorIndex := 19, attributes := #[] }, { accessFlags := 10, nameIndex := 31, descriptorIndex := 32, attributes := #[] }] 49 2 #[] #[])
  fields := #[]
  methods := #[k1m0, k1m1, k1m2, k1m3, k1m4]
  instanceTypes := #[]
  staticTypes := #[]
  resolved := Array.replicate 45 none
  statics := none }

def pool2 : Array CpInfo := pool [(1, .class_ 2), (0, u "java/io/Serializable"), (0, .class_ 4), (0, u "java/lang/Object")] 2

/-- java/io/Serializable -/
def k2 : Class := { plain "java/io/Serializable" (some 0) with
  accessFlags := 1537
  interfaces := #[]
  cf := some (fileOf pool2 1 #[] #[] 1537 3 #[] #[])
  fields := #[]
  methods := #[]
  instanceTypes := #[]
  staticTypes := #[]
  resolved := Array.replicate 7 none
  statics := none }

def pool3 : Array CpInfo := pool [(1, .class_ 2), (0, u "java/lang/Comparable"), (0, .class_ 4), (0, u "java/lang/Object")] 7

/-- java/lang/Comparable -/
def k3 : Class := { plain "java/lang/Comparable" (some 0) with
  accessFlags := 1537
  interfaces := #[]
  cf := some (fileOf pool3 1 #[] #[] 1537 3 #[] #[])
  fields := #[]
  methods := #[]
  instanceTypes := #[]
  staticTypes := #[]
  resolved := Array.replicate 12 none
  statics := none }

def pool4 : Array CpInfo := pool [(2, .class_ 4), (1, u "java/lang/CharSequence"), (42, .class_ 48), (0, u "java/lang/CharSequence$1CodePointIterator"), (10, .class_ 60), (0, u "java/lang/CharSequence$1CharIterator"), (5, .class_ 67), (0, u "java/lang/Object")] 63

/-- java/lang/CharSequence -/
def k4 : Class := { plain "java/lang/CharSequence" (some 0) with
  accessFlags := 1537
  interfaces := #[]
  cf := some (fileOf pool4 2 #[.nestMembers #[47, 59]] #[] 1537 66 #[] #[])
  fields := #[]
  methods := #[]
  instanceTypes := #[]
  staticTypes := #[]
  resolved := Array.replicate 131 none
  statics := none }

def pool5 : Array CpInfo := pool [(1, .class_ 2), (0, u "java/lang/constant/Constable"), (0, .class_ 4), (0, u "java/lang/Object")] 6

/-- java/lang/constant/Constable -/
def k5 : Class := { plain "java/lang/constant/Constable" (some 0) with
  accessFlags := 1537
  interfaces := #[]
  cf := some (fileOf pool5 1 #[] #[] 1537 3 #[] #[])
  fields := #[]
  methods := #[]
  instanceTypes := #[]
  staticTypes := #[]
  resolved := Array.replicate 11 none
  statics := none }

def pool6 : Array CpInfo := pool [(1, .class_ 2), (0, u "java/lang/constant/ConstantDesc"), (0, .class_ 4), (0, u "java/lang/Object")] 32

/-- java/lang/constant/ConstantDesc -/
def k6 : Class := { plain "java/lang/constant/ConstantDesc" (some 0) with
  accessFlags := 1537
  interfaces := #[]
  cf := some (fileOf pool6 1 #[] #[] 1537 3 #[] #[])
  fields := #[]
  methods := #[]
  instanceTypes := #[]
  staticTypes := #[]
  resolved := Array.replicate 37 none
  statics := none }

def pool7 : Array CpInfo := pool [(1, .methodref 2 3), (0, .class_ 4), (0, .nameAndType 5 6), (0, u "java/lang/Object"), (0, u "<init>"), (0, u "()V"), (0, .string 8), (0, u ""), (0, .fieldref 10 11), (0, .class_ 12), (0, .nameAndType 13 14), (0, u "java/lang/String"), (0, u "value"), (0, u "[B"), (0, .fieldref 10 16), (0, .nameAndType 17 18), (0, u "coder"), (0, u "B"), (2, u "hash"), (0, u "I"), (2, u "hashIsZero"), (0, u "Z"), (0, .methodref 10 28), (0, .nameAndType 5 29), (0, u "([CIILjava/lang/Void;)V"), (8, .fieldref 10 39), (0, .nameAndType 40 26), (0, u "COMPACT_STRINGS"), (1, .class_ 44), (1, u "java/lang/StringUTF16"), (0, u "compress"), (1, .methodref 42 48), (0, .nameAndType 49 50), (0, u "coderFromArrayLen"), (0, u "([BI)B"), (56, .class_ 109), (1, u "java/lang/StringLatin1"), (67, .methodref 42 178), (0, .nameAndType 45 179), (0, u "([CII)[B"), (361, .methodref 107 542), (0, .nameAndType 543 544), (0, u "equals"), (0, u "([B[B)Z"), (28, u "(Ljava/lang/Object;)Z"), (1, .class_ 576), (0, u "java/lang/CharSequence"), (22, u "CASE_INSENSITIVE_ORDER"), (0, u "Ljava/util/Comparator;"), (409, u "([C)V"), (90, u "serialPersistentFields"), (0, u "[Ljava/io/ObjectStreamField;"), (0, .class_ 1104), (0, u "java/lang/String$CaseInsensitiveComparator"), (1, .class_ 1107), (0, u "java/io/Serializable"), (0, .class_ 1109), (0, u "java/lang/Comparable"), (0, .class_ 1111), (0, u "java/lang/constant/Constable"), (0, .class_ 1113), (0, u "java/lang/constant/ConstantDesc"), (2, u "serialVersionUID"), (0, u "J"), (3, u "REPL"), (0, u "C"), (2, u "LATIN1"), (1, u "UTF16")] 323

def k7m0 : Method := { name := "<init>", desc := "()V", sig := { parameters := [], returnType := none }, accessFlags := 1, code := none }
def k7c1 : Code := { maxStack := 5, maxLocals := 2, code := jdk_42_method_3_code, exceptionTable := #[], attributes := #[] }
def k7m1 : Method := { name := "<init>", desc := "([C)V", sig := { parameters := [(.array .char)], returnType := none }, accessFlags := 1, code := some k7c1 }
def k7c2 : Code := { maxStack := 2, maxLocals := 3, code := jdk_42_method_66_code, exceptionTable := #[], attributes := #[] }
def k7m2 : Method := { name := "equals", desc := "(Ljava/lang/Object;)Z", sig := { parameters := [(.object "java/lang/Object")], returnType := some .boolean }, accessFlags := 1, code := some k7c2 }
def k7c3 : Code := { maxStack := 4, maxLocals := 6, code := jdk_42_method_149_code, exceptionTable := #[], attributes := #[] }
def k7m3 : Method := { name := "<init>", desc := "([CIILjava/lang/Void;)V", sig := { parameters := [(.array .char), .int, .int, (.object "java/lang/Void")], returnType := none }, accessFlags := 2, code := some k7c3 }
/-- java/lang/String -/
def k7 : Class := { plain "java/lang/String" (some 0) with
  accessFlags := 49
  interfaces := #[2, 3, 4, 5, 6]
  cf := some (fileOf pool7 10 #[.nestMembers #[1103]] #[{ accessFlags := 1, nameIndex := 5, descriptorIndex := 6, attributes := #[] }, { accessFlags := 1, nameIndex := 5, descriptorIndex := 1010, attributes := #[] }, { accessFlags := 1, nameIndex := 543, descriptorIndex := 573, attributes := #[] }, { accessFlags := 2, nameIndex := 5, descriptorIndex := 29, attributes := #[] }] 49 2 #[1106, 1108, 575, 1110, 1112] #[{ accessFlags := 18, nameIndex := 13, descriptorIndex := 14, attributes := #[] }, { accessFlags := 18, nameIndex := 17, descriptorIndex := 18, attributes := #[] }, { accessFlags := 2, nameIndex := 21, descriptorIndex := 22, attributes := #[] }, { accessFlags := 2, nameIndex := 25, descriptorIndex := 26, attributes := #[] }, { accessFlags := 26, nameIndex := 1116, descriptorIndex := 1117, attributes := #[] }, { accessFlags := 24, nameIndex := 40, descriptorIndex := 26, attributes := #[] }, { accessFlags := 26, nameIndex := 1101, descriptorIndex := 1102, attributes := #[] }, { accessFlags := 26, nameIndex := 1121, descriptorIndex := 1122, attributes := #[] }, { accessFlags := 25, nameIndex := 599, descriptorIndex := 600, attributes := #[] }, { accessFlags := 24, nameIndex := 1125, descriptorIndex := 18, attributes := #[] }, { accessFlags := 24, nameIndex := 1127, descriptorIndex := 18, attributes := #[] }])
  fields := #[{ name := "value", type := (.array .byte), accessFlags := 18, slot := 0, constantValue := 0 }, { name := "coder", type := .byte, accessFlags := 18, slot := 1, constantValue := 0 }, { name := "hash", type := .int, accessFlags := 2, slot := 2, constantValue := 0 }, { name := "hashIsZero", type := .boolean, accessFlags := 2, slot := 3, constantValue := 0 }, { name := "serialVersionUID", type := .long, accessFlags := 26, slot := 0, constantValue := 0 }, { name := "COMPACT_STRINGS", type := .boolean, accessFlags := 24, slot := 1, constantValue := 0 }, { name := "serialPersistentFields", type := (.array (.object "java/io/ObjectStreamField")), accessFlags := 26, slot := 2, constantValue := 0 }, { name := "REPL", type := .char, accessFlags := 26, slot := 3, constantValue := 0 }, { name := "CASE_INSENSITIVE_ORDER", type := (.object "java/util/Comparator"), accessFlags := 25, slot := 4, constantValue := 0 }, { name := "LATIN1", type := .byte, accessFlags := 24, slot := 5, constantValue := 0 }, { name := "UTF16", type := .byte, accessFlags := 24, slot := 6, constantValue := 0 }]
  methods := #[k7m0, k7m1, k7m2, k7m3]
  instanceTypes := #[(.array .byte), .byte, .int, .boolean]
  staticTypes := #[.long, .boolean, (.array (.object "java/io/ObjectStreamField")), .char, (.object "java/util/Comparator"), .byte, .byte]
  resolved := Array.replicate 1451 none
  statics := some 0 }

def pool8 : Array CpInfo := pool [(1, .methodref 2 3), (0, .class_ 4), (0, .nameAndType 5 6), (0, u "java/lang/Object"), (0, u "<init>"), (0, u "()V"), (0, .fieldref 8 9), (0, .class_ 10), (0, .nameAndType 11 12), (0, u "com/example/text_span_search/textspansearch/trec/Topic"), (0, u "id"), (0, u "Ljava/lang/String;"), (0, .fieldref 8 14), (0, .nameAndType 15 12), (0, u "query"), (0, .methodref 17 18), (0, .class_ 19), (0, .nameAndType 20 21), (0, u "java/lang/String"), (0, u "equals"), (0, u "(Ljava/lang/Object;)Z"), (10, u "(Ljava/lang/String;Ljava/lang/String;)V")] 24

def k8c0 : Code := { maxStack := 2, maxLocals := 3, code := prog_59_method_1_code, exceptionTable := #[], attributes := #[] }
def k8m0 : Method := { name := "<init>", desc := "(Ljava/lang/String;Ljava/lang/String;)V", sig := { parameters := [(.object "java/lang/String"), (.object "java/lang/String")], returnType := none }, accessFlags := 1, code := some k8c0 }
def k8c1 : Code := { maxStack := 2, maxLocals := 3, code := prog_59_method_4_code, exceptionTable := #[], attributes := #[] }
def k8m1 : Method := { name := "equals", desc := "(Ljava/lang/Object;)Z", sig := { parameters := [(.object "java/lang/Object")], returnType := some .boolean }, accessFlags := 1, code := some k8c1 }
/-- com/example/text_span_search/textspansearch/trec/Topic -/
def k8 : Class := { plain "com/example/text_span_search/textspansearch/trec/Topic" (some 0) with
  accessFlags := 49
  interfaces := #[]
  cf := some (fileOf pool8 8 #[] #[{ accessFlags := 1, nameIndex := 5, descriptorIndex := 32, attributes := #[] }, { accessFlags := 1, nameIndex := 20, descriptorIndex := 21, attributes := #[] }] 49 2 #[] #[{ accessFlags := 18, nameIndex := 11, descriptorIndex := 12, attributes := #[] }, { accessFlags := 18, nameIndex := 15, descriptorIndex := 12, attributes := #[] }])
  fields := #[{ name := "id", type := (.object "java/lang/String"), accessFlags := 18, slot := 0, constantValue := 0 }, { name := "query", type := (.object "java/lang/String"), accessFlags := 18, slot := 1, constantValue := 0 }]
  methods := #[k8m0, k8m1]
  instanceTypes := #[(.object "java/lang/String"), (.object "java/lang/String")]
  staticTypes := #[]
  resolved := Array.replicate 57 none
  statics := none }

def pool9 : Array CpInfo := pool [(4, .class_ 6), (1, u "java/lang/Object"), (0, u "<init>"), (0, u "()V"), (5, .class_ 16), (1, u "java/lang/StringLatin1"), (104, u "$assertionsDisabled"), (0, u "Z"), (98, .class_ 223), (1, u "java/lang/StringLatin1$LinesSpliterator"), (57, u "equals"), (0, u "([B[B)Z"), (107, .class_ 391), (0, u "java/lang/StringLatin1$CharsSpliterator")] 3

def k9m0 : Method := { name := "<init>", desc := "()V", sig := { parameters := [], returnType := none }, accessFlags := 0, code := none }
def k9c1 : Code := { maxStack := 3, maxLocals := 3, code := jdk_43_method_13_code, exceptionTable := #[], attributes := #[] }
def k9m1 : Method := { name := "equals", desc := "([B[B)Z", sig := { parameters := [(.array .byte), (.array .byte)], returnType := some .boolean }, accessFlags := 9, code := some k9c1 }
/-- java/lang/StringLatin1 -/
def k9 : Class := { plain "java/lang/StringLatin1" (some 0) with
  accessFlags := 48
  interfaces := #[]
  cf := some (fileOf pool9 14 #[.nestMembers #[390, 221]] #[{ accessFlags := 0, nameIndex := 7, descriptorIndex := 8, attributes := #[] }, { accessFlags := 9, nameIndex := 281, descriptorIndex := 282, attributes := #[] }] 48 4 #[] #[{ accessFlags := 4120, nameIndex := 121, descriptorIndex := 122, attributes := #[] }])
  fields := #[{ name := "$assertionsDisabled", type := .boolean, accessFlags := 4120, slot := 0, constantValue := 0 }]
  methods := #[k9m0, k9m1]
  instanceTypes := #[]
  staticTypes := #[.boolean]
  resolved := Array.replicate 395 none
  statics := none }

def pool10 : Array CpInfo := pool [(6, .class_ 8), (1, u "java/lang/Object"), (0, u "<init>"), (0, u "()V"), (1, .class_ 14), (1, u "java/lang/StringUTF16"), (31, u "$assertionsDisabled"), (0, u "Z"), (13, u "HI_BYTE_SHIFT"), (0, u "I"), (2, u "LO_BYTE_SHIFT"), (49, .methodref 12 116), (0, .nameAndType 117 118), (0, u "compress"), (0, u "([CI[BII)I"), (3, u "([CII)[B"), (138, u "coderFromArrayLen"), (0, u "([BI)B"), (106, .class_ 371), (1, u "java/lang/StringUTF16$LinesSpliterator"), (58, u "MAX_LENGTH"), (196, .class_ 628), (0, u "java/lang/StringUTF16$CodePointsSpliterator"), (0, .class_ 630), (0, u "java/lang/StringUTF16$CharsSpliterator")] 4

def k10m0 : Method := { name := "<init>", desc := "()V", sig := { parameters := [], returnType := none }, accessFlags := 0, code := none }
def k10c1 : Code := { maxStack := 2, maxLocals := 2, code := jdk_52_method_15_code, exceptionTable := #[], attributes := #[] }
def k10m1 : Method := { name := "coderFromArrayLen", desc := "([BI)B", sig := { parameters := [(.array .byte), .int], returnType := some .byte }, accessFlags := 8, code := some k10c1 }
def k10c2 : Code := { maxStack := 5, maxLocals := 6, code := jdk_52_method_16_code, exceptionTable := #[], attributes := #[] }
def k10m2 : Method := { name := "compress", desc := "([CII)[B", sig := { parameters := [(.array .char), .int, .int], returnType := some (.array .byte) }, accessFlags := 9, code := some k10c2 }
def k10c3 : Code := { maxStack := 3, maxLocals := 7, code := jdk_52_method_21_code, exceptionTable := #[], attributes := #[] }
def k10m3 : Method := { name := "compress", desc := "([CI[BII)I", sig := { parameters := [(.array .char), .int, (.array .byte), .int, .int], returnType := some .int }, accessFlags := 9, code := some k10c3 }
/-- java/lang/StringUTF16 -/
def k10 : Class := { plain "java/lang/StringUTF16" (some 0) with
  accessFlags := 48
  interfaces := #[]
  cf := some (fileOf pool10 12 #[.nestMembers #[627, 629, 369]] #[{ accessFlags := 0, nameIndex := 9, descriptorIndex := 10, attributes := #[] }, { accessFlags := 8, nameIndex := 261, descriptorIndex := 262, attributes := #[] }, { accessFlags := 9, nameIndex := 117, descriptorIndex := 122, attributes := #[] }, { accessFlags := 9, nameIndex := 117, descriptorIndex := 118, attributes := #[] }] 48 6 #[] #[{ accessFlags := 26, nameIndex := 61, descriptorIndex := 62, attributes := #[] }, { accessFlags := 26, nameIndex := 65, descriptorIndex := 62, attributes := #[] }, { accessFlags := 24, nameIndex := 430, descriptorIndex := 62, attributes := #[] }, { accessFlags := 4120, nameIndex := 46, descriptorIndex := 47, attributes := #[] }])
  fields := #[{ name := "HI_BYTE_SHIFT", type := .int, accessFlags := 26, slot := 0, constantValue := 0 }, { name := "LO_BYTE_SHIFT", type := .int, accessFlags := 26, slot := 1, constantValue := 0 }, { name := "MAX_LENGTH", type := .int, accessFlags := 24, slot := 2, constantValue := 0 }, { name := "$assertionsDisabled", type := .boolean, accessFlags := 4120, slot := 3, constantValue := 0 }]
  methods := #[k10m0, k10m1, k10m2, k10m3]
  instanceTypes := #[]
  staticTypes := #[.int, .int, .int, .boolean]
  resolved := Array.replicate 635 none
  statics := none }

def pool11 : Array CpInfo := pool [(2, .class_ 4), (1, u "java/lang/Object"), (0, u "<init>"), (0, u "()V"), (17, .class_ 26), (1, u "jdk/internal/util/Preconditions"), (28, .class_ 56), (0, u "jdk/internal/util/Preconditions$4"), (57, .class_ 115), (0, u "jdk/internal/util/Preconditions$1"), (7, u "SIOOBE_FORMATTER"), (0, u "Ljava/util/function/BiFunction;"), (0, .class_ 126), (0, u "jdk/internal/util/Preconditions$2"), (3, u "AIOOBE_FORMATTER"), (0, .class_ 132), (0, u "jdk/internal/util/Preconditions$3"), (3, u "IOOBE_FORMATTER")] 57

def k11m0 : Method := { name := "<init>", desc := "()V", sig := { parameters := [], returnType := none }, accessFlags := 1, code := none }
/-- jdk/internal/util/Preconditions -/
def k11 : Class := { plain "jdk/internal/util/Preconditions" (some 0) with
  accessFlags := 33
  interfaces := #[]
  cf := some (fileOf pool11 24 #[.nestMembers #[55, 131, 125, 114]] #[{ accessFlags := 1, nameIndex := 5, descriptorIndex := 6, attributes := #[] }] 33 2 #[] #[{ accessFlags := 25, nameIndex := 123, descriptorIndex := 124, attributes := #[] }, { accessFlags := 25, nameIndex := 130, descriptorIndex := 124, attributes := #[] }, { accessFlags := 25, nameIndex := 136, descriptorIndex := 124, attributes := #[] }])
  fields := #[{ name := "SIOOBE_FORMATTER", type := (.object "java/util/function/BiFunction"), accessFlags := 25, slot := 0, constantValue := 0 }, { name := "AIOOBE_FORMATTER", type := (.object "java/util/function/BiFunction"), accessFlags := 25, slot := 1, constantValue := 0 }, { name := "IOOBE_FORMATTER", type := (.object "java/util/function/BiFunction"), accessFlags := 25, slot := 2, constantValue := 0 }]
  methods := #[k11m0]
  instanceTypes := #[]
  staticTypes := #[(.object "java/util/function/BiFunction"), (.object "java/util/function/BiFunction"), (.object "java/util/function/BiFunction")]
  resolved := Array.replicate 194 none
  statics := some 1 }

def pool12 : Array CpInfo := pool [(9, u "<init>"), (6, .class_ 18), (1, u "java/lang/Object"), (0, u "()V"), (1, .class_ 23), (1, u "jdk/internal/util/ArraysSupport"), (0, u "LOG2_ARRAY_LONG_INDEX_SCALE"), (0, u "I"), (2, u "U"), (0, u "Ljdk/internal/misc/Unsafe;"), (8, u "BIG_ENDIAN"), (0, u "Z"), (8, u "LOG2_BYTE_BIT_SIZE"), (4, u "LOG2_ARRAY_INT_INDEX_SCALE"), (54, u "JLA"), (0, u "Ljdk/internal/access/JavaLangAccess;"), (11, u "LOG2_ARRAY_BOOLEAN_INDEX_SCALE"), (9, u "LOG2_ARRAY_BYTE_INDEX_SCALE"), (5, u "LOG2_ARRAY_CHAR_INDEX_SCALE"), (5, u "LOG2_ARRAY_SHORT_INDEX_SCALE"), (18, u "LOG2_ARRAY_FLOAT_INDEX_SCALE"), (24, u "LOG2_ARRAY_DOUBLE_INDEX_SCALE"), (89, u "T_BOOLEAN"), (2, u "T_CHAR"), (1, u "T_FLOAT"), (1, u "T_DOUBLE"), (1, u "T_BYTE"), (1, u "T_SHORT"), (1, u "T_INT"), (1, u "T_LONG"), (1, u "SOFT_MAX_ARRAY_LENGTH")] 83

def k12m0 : Method := { name := "<init>", desc := "()V", sig := { parameters := [], returnType := none }, accessFlags := 2, code := none }
/-- jdk/internal/util/ArraysSupport -/
def k12 : Class := { plain "jdk/internal/util/ArraysSupport" (some 0) with
  accessFlags := 33
  interfaces := #[]
  cf := some (fileOf pool12 21 #[] #[{ accessFlags := 2, nameIndex := 9, descriptorIndex := 19, attributes := #[] }] 33 16 #[] #[{ accessFlags := 24, nameIndex := 28, descriptorIndex := 29, attributes := #[] }, { accessFlags := 26, nameIndex := 38, descriptorIndex := 39, attributes := #[] }, { accessFlags := 25, nameIndex := 121, descriptorIndex := 25, attributes := #[] }, { accessFlags := 25, nameIndex := 131, descriptorIndex := 25, attributes := #[] }, { accessFlags := 25, nameIndex := 137, descriptorIndex := 25, attributes := #[] }, { accessFlags := 25, nameIndex := 143, descriptorIndex := 25, attributes := #[] }, { accessFlags := 25, nameIndex := 53, descriptorIndex := 25, attributes := #[] }, { accessFlags := 25, nameIndex := 24, descriptorIndex := 25, attributes := #[] }, { accessFlags := 25, nameIndex := 162, descriptorIndex := 25, attributes := #[] }, { accessFlags := 25, nameIndex := 187, descriptorIndex := 25, attributes := #[] }, { accessFlags := 26, nameIndex := 48, descriptorIndex := 25, attributes := #[] }, { accessFlags := 25, nameIndex := 277, descriptorIndex := 25, attributes := #[] }, { accessFlags := 25, nameIndex := 280, descriptorIndex := 25, attributes := #[] }, { accessFlags := 25, nameIndex := 282, descriptorIndex := 25, attributes := #[] }, { accessFlags := 25, nameIndex := 284, descriptorIndex := 25, attributes := #[] }, { accessFlags := 25, nameIndex := 286, descriptorIndex := 25, attributes := #[] }, { accessFlags := 25, nameIndex := 288, descriptorIndex := 25, attributes := #[] }, { accessFlags := 25, nameIndex := 290, descriptorIndex := 25, attributes := #[] }, { accessFlags := 25, nameIndex := 292, descriptorIndex := 25, attributes := #[] }, { accessFlags := 26, nameIndex := 108, descriptorIndex := 109, attributes := #[] }, { accessFlags := 25, nameIndex := 294, descriptorIndex := 25, attributes := #[] }])
  fields := #[{ name := "U", type := (.object "jdk/internal/misc/Unsafe"), accessFlags := 24, slot := 0, constantValue := 0 }, { name := "BIG_ENDIAN", type := .boolean, accessFlags := 26, slot := 1, constantValue := 0 }, { name := "LOG2_ARRAY_BOOLEAN_INDEX_SCALE", type := .int, accessFlags := 25, slot := 2, constantValue := 0 }, { name := "LOG2_ARRAY_BYTE_INDEX_SCALE", type := .int, accessFlags := 25, slot := 3, constantValue := 0 }, { name := "LOG2_ARRAY_CHAR_INDEX_SCALE", type := .int, accessFlags := 25, slot := 4, constantValue := 0 }, { name := "LOG2_ARRAY_SHORT_INDEX_SCALE", type := .int, accessFlags := 25, slot := 5, constantValue := 0 }, { name := "LOG2_ARRAY_INT_INDEX_SCALE", type := .int, accessFlags := 25, slot := 6, constantValue := 0 }, { name := "LOG2_ARRAY_LONG_INDEX_SCALE", type := .int, accessFlags := 25, slot := 7, constantValue := 0 }, { name := "LOG2_ARRAY_FLOAT_INDEX_SCALE", type := .int, accessFlags := 25, slot := 8, constantValue := 0 }, { name := "LOG2_ARRAY_DOUBLE_INDEX_SCALE", type := .int, accessFlags := 25, slot := 9, constantValue := 0 }, { name := "LOG2_BYTE_BIT_SIZE", type := .int, accessFlags := 26, slot := 10, constantValue := 0 }, { name := "T_BOOLEAN", type := .int, accessFlags := 25, slot := 11, constantValue := 0 }, { name := "T_CHAR", type := .int, accessFlags := 25, slot := 12, constantValue := 0 }, { name := "T_FLOAT", type := .int, accessFlags := 25, slot := 13, constantValue := 0 }, { name := "T_DOUBLE", type := .int, accessFlags := 25, slot := 14, constantValue := 0 }, { name := "T_BYTE", type := .int, accessFlags := 25, slot := 15, constantValue := 0 }, { name := "T_SHORT", type := .int, accessFlags := 25, slot := 16, constantValue := 0 }, { name := "T_INT", type := .int, accessFlags := 25, slot := 17, constantValue := 0 }, { name := "T_LONG", type := .int, accessFlags := 25, slot := 18, constantValue := 0 }, { name := "JLA", type := (.object "jdk/internal/access/JavaLangAccess"), accessFlags := 26, slot := 19, constantValue := 0 }, { name := "SOFT_MAX_ARRAY_LENGTH", type := .int, accessFlags := 25, slot := 20, constantValue := 0 }]
  methods := #[k12m0]
  instanceTypes := #[]
  staticTypes := #[(.object "jdk/internal/misc/Unsafe"), .boolean, .int, .int, .int, .int, .int, .int, .int, .int, .int, .int, .int, .int, .int, .int, .int, .int, .int, (.object "jdk/internal/access/JavaLangAccess"), .int]
  resolved := Array.replicate 378 none
  statics := none }

def pool13 : Array CpInfo := pool [(1, u "java/lang/Cloneable"), (0, .class_ 1), (0, u "java/lang/Object"), (0, .class_ 3)] 3

/-- java/lang/Cloneable -/
def k13 : Class := { plain "java/lang/Cloneable" (some 0) with
  accessFlags := 1537
  interfaces := #[]
  cf := some (fileOf pool13 2 #[] #[] 1537 4 #[] #[])
  fields := #[]
  methods := #[]
  instanceTypes := #[]
  staticTypes := #[]
  resolved := Array.replicate 8 none
  statics := none }

/-- the primitive byte -/
def k14 : Class := { plain "byte" none with kind := .primitive 'B', accessFlags := 0x411 }
/-- [B -/
def k15 : Class := { plain "[B" (some 0) with kind := .array 14 .byte, interfaces := #[13, 2], accessFlags := 1041 }

/-- the primitive char -/
def k16 : Class := { plain "char" none with kind := .primitive 'C', accessFlags := 0x411 }
/-- [C -/
def k17 : Class := { plain "[C" (some 0) with kind := .array 16 .char, interfaces := #[13, 2], accessFlags := 1041 }

/-- the primitive int -/
def k18 : Class := { plain "int" none with kind := .primitive 'I', accessFlags := 0x411 }
/-- [I -/
def k19 : Class := { plain "[I" (some 0) with kind := .array 18 .int, interfaces := #[13, 2], accessFlags := 1041 }

def heap : Heap := #[{ cls := 7, slots := #[.long 0, .int 1, .null, .int 0, .null, .int 0, .int 0], vm := .statics 7 },
  { cls := 11, slots := #[.null, .null, .null], vm := .statics 11 }]
def classes : Array Class := #[k0, k1, k2, k3, k4, k5, k6, k7, k8, k9, k10, k11, k12, k13, k14, k15, k16, k17, k18, k19]
def interned : List (Array UInt16 × Addr) := []
def slotsUsed : Nat := 10
def theMethod : MethodId := ⟨1, 1⟩
def args0 : Array Value := #[.int 5, .long 7, .long 9]
def aboutOver (below : List Frame) : State where
  vm := { classes := classes, interned := interned.toArray }
  heap := heap
  slotsUsed := slotsUsed
  threads := #[{ frames := .invoking theMethod args0 :: below }]
def below0 : List Frame := [.native { method := ⟨0, 0⟩, args := #[] }]
def about1 : State := aboutOver below0
def p0 : Program := .bare "" "" ""
def e0 : Env := launch0.env 0 0 0
theorem w_frames : about1.frames = Frame.invoking theMethod args0 :: below0 := rfl
set_option maxRecDepth 65536 in
theorem w_args : argsFit about1.vm theMethod args0 = true := by decide +kernel
set_option maxRecDepth 65536 in
theorem w_heap : heapFits about1 = true := by decide +kernel
set_option maxRecDepth 65536 in
theorem w_runnable : about1.curStatus? = some .runnable := by decide +kernel
set_option maxRecDepth 65536 in
theorem w_alone : about1.alone = true := by decide +kernel
set_option maxRecDepth 65536 in
theorem w_named : about1.methodNamed? x = some theMethod := by decide +kernel
set_option maxRecDepth 65536 in
theorem w_hears : about1.hears theMethod below0 = true := by decide +kernel
set_option maxRecDepth 65536 in
theorem w_ripe : about1.ripe theMethod args0 below0 = true := by decide +kernel
theorem w_running : about1.status = .running := rfl
set_option maxRecDepth 65536 in
theorem w_room : about1.hasRoom e0.platform room_1 = true :=
  launch0.hasRoom_least _ room_1 (by decide +kernel) (by decide +kernel) (by decide +kernel) (by decide +kernel) (by decide +kernel) (by decide +kernel)
theorem allAtoms_all (ts : List Jvm.Cond) (a : Array Jvm.Value) (st : Jvm.State) : (allAtoms ts).before a st = ts.all (fun c => c.before a st) := by
  induction ts with
  | nil => rfl
  | cons c t ih =>
    show (Jvm.Cond.and c (allAtoms t)).before a st = _
    rw [Jvm.Cond.before_and, ih, List.all_cons]
def words1 : List Jvm.Cond := Jvm.Cond.code x code maxLocals ret :: tables_1
/-- a 'code' word, met by the world's own term for the bytes: nothing is compared byte by byte -/
theorem code_word {y : MethodName} {bytes : ByteArray} {mx : Nat} {rt : Option FieldType} {a : Array Value} {s : State} {m : MethodId} {meth : Method} {c : Code} (h1 : s.methodNamed? y = some m) (h2 : s.vm.method? m = some meth) (h3 : meth.code = some c) (h4 : c.code = bytes)
    (h5 : (c.maxLocals == mx && c.exceptionTable.isEmpty && decide (c.maxStack ≤ mostOperands) && decide (meth.sig.returnType = rt) && !meth.locks && decide (parseMethodDescriptor y.desc = some meth.sig)) = true) : (Jvm.Cond.code y bytes mx rt).before a s = true := by
  simp only [Bool.and_eq_true, beq_iff_eq, Bool.not_eq_true', decide_eq_true_eq] at h5
  obtain ⟨⟨⟨⟨⟨g1, g2⟩, g3⟩, g4⟩, g5⟩, g6⟩ := h5
  simp [Cond.before, Cond.holds, Cond.value, h1, h2, h3, h4, g1, g2, g3, g4, g5, g6]
def isCode : Jvm.Cond → Bool
  | .code _ _ _ _ => true
  | _ => false
theorem all_split {L : List Jvm.Cond} {P : Jvm.Cond → Bool} (h1 : L.all (fun c => isCode c || P c) = true) (h2 : ∀ c ∈ L.filter isCode, P c = true) : L.all P = true := by
  refine List.all_eq_true.mpr fun c hc => ?_
  have h := List.all_eq_true.mp h1 c hc
  rcases Bool.eq_false_or_eq_true (isCode c) with hi | hi
  · exact h2 c (List.mem_filter.mpr ⟨hc, hi⟩)
  · simpa [hi] using h
set_option maxRecDepth 65536 in
theorem w_c0 : (Jvm.Cond.code x code maxLocals ret).before args0 about1 = true := code_word (m := ⟨1, 1⟩) (meth := k1m1) (c := k1c1) (by decide +kernel) rfl rfl rfl (by decide +kernel)
set_option maxRecDepth 65536 in
theorem w_c1 : (Jvm.Cond.code ({ cls := "com/example/text_span_search/textspansearch/trec/TopicEqualsPinLaw", name := "dl", desc := "(IIJI)C" } : Jvm.MethodName) method_3_code (5 : Nat) (Option.some Jvm.ClassFile.FieldType.char)).before args0 about1 = true := code_word (m := ⟨1, 2⟩) (meth := k1m2) (c := k1c2) (by decide +kernel) rfl rfl rfl (by decide +kernel)
set_option maxRecDepth 65536 in
theorem w_c2 : (Jvm.Cond.code ({ cls := "com/example/text_span_search/textspansearch/trec/TopicEqualsPinLaw", name := "mk", desc := "(ICC)Ljava/lang/String;" } : Jvm.MethodName) method_4_code (4 : Nat) (Option.some (Jvm.ClassFile.FieldType.object "java/lang/String"))).before args0 about1 = true := code_word (m := ⟨1, 3⟩) (meth := k1m3) (c := k1c3) (by decide +kernel) rfl rfl rfl (by decide +kernel)
set_option maxRecDepth 65536 in
theorem w_c3 : (Jvm.Cond.code ({ cls := "java/lang/String", name := "<init>", desc := "([C)V" } : Jvm.MethodName) jdk_42_method_3_code (2 : Nat) (Option.none : Option Jvm.ClassFile.FieldType)).before args0 about1 = true := code_word (m := ⟨7, 1⟩) (meth := k7m1) (c := k7c1) (by decide +kernel) rfl rfl rfl (by decide +kernel)
set_option maxRecDepth 65536 in
theorem w_c4 : (Jvm.Cond.code ({ cls := "java/lang/String", name := "<init>", desc := "([CIILjava/lang/Void;)V" } : Jvm.MethodName) jdk_42_method_149_code (6 : Nat) (Option.none : Option Jvm.ClassFile.FieldType)).before args0 about1 = true := code_word (m := ⟨7, 3⟩) (meth := k7m3) (c := k7c3) (by decide +kernel) rfl rfl rfl (by decide +kernel)
set_option maxRecDepth 65536 in
theorem w_c5 : (Jvm.Cond.code ({ cls := "java/lang/Object", name := "<init>", desc := "()V" } : Jvm.MethodName) object_method_1_code (1 : Nat) (Option.none : Option Jvm.ClassFile.FieldType)).before args0 about1 = true := code_word (m := ⟨0, 0⟩) (meth := k0m0) (c := k0c0) (by decide +kernel) rfl rfl rfl (by decide +kernel)
set_option maxRecDepth 65536 in
theorem w_c6 : (Jvm.Cond.code ({ cls := "com/example/text_span_search/textspansearch/trec/Topic", name := "<init>", desc := "(Ljava/lang/String;Ljava/lang/String;)V" } : Jvm.MethodName) prog_59_method_1_code (3 : Nat) (Option.none : Option Jvm.ClassFile.FieldType)).before args0 about1 = true := code_word (m := ⟨8, 0⟩) (meth := k8m0) (c := k8c0) (by decide +kernel) rfl rfl rfl (by decide +kernel)
set_option maxRecDepth 65536 in
theorem w_c7 : (Jvm.Cond.code ({ cls := "com/example/text_span_search/textspansearch/trec/TopicEqualsPinLaw", name := "same", desc := "(ICCICC)Z" } : Jvm.MethodName) method_5_code (6 : Nat) (Option.some Jvm.ClassFile.FieldType.boolean)).before args0 about1 = true := code_word (m := ⟨1, 4⟩) (meth := k1m4) (c := k1c4) (by decide +kernel) rfl rfl rfl (by decide +kernel)
set_option maxRecDepth 65536 in
theorem w_c8 : (Jvm.Cond.code ({ cls := "com/example/text_span_search/textspansearch/trec/Topic", name := "equals", desc := "(Ljava/lang/Object;)Z" } : Jvm.MethodName) prog_59_method_4_code (3 : Nat) (Option.some Jvm.ClassFile.FieldType.boolean)).before args0 about1 = true := code_word (m := ⟨8, 1⟩) (meth := k8m1) (c := k8c1) (by decide +kernel) rfl rfl rfl (by decide +kernel)
set_option maxRecDepth 65536 in
theorem w_c9 : (Jvm.Cond.code ({ cls := "java/lang/String", name := "equals", desc := "(Ljava/lang/Object;)Z" } : Jvm.MethodName) jdk_42_method_66_code (3 : Nat) (Option.some Jvm.ClassFile.FieldType.boolean)).before args0 about1 = true := code_word (m := ⟨7, 2⟩) (meth := k7m2) (c := k7c2) (by decide +kernel) rfl rfl rfl (by decide +kernel)
set_option maxRecDepth 65536 in
theorem w_c10 : (Jvm.Cond.code ({ cls := "java/lang/StringLatin1", name := "equals", desc := "([B[B)Z" } : Jvm.MethodName) jdk_43_method_13_code (3 : Nat) (Option.some Jvm.ClassFile.FieldType.boolean)).before args0 about1 = true := code_word (m := ⟨9, 1⟩) (meth := k9m1) (c := k9c1) (by decide +kernel) rfl rfl rfl (by decide +kernel)
set_option maxRecDepth 65536 in
theorem w_c11 : (Jvm.Cond.code ({ cls := "java/lang/StringUTF16", name := "compress", desc := "([CII)[B" } : Jvm.MethodName) jdk_52_method_16_code (6 : Nat) (Option.some (Jvm.ClassFile.FieldType.array Jvm.ClassFile.FieldType.byte))).before args0 about1 = true := code_word (m := ⟨10, 2⟩) (meth := k10m2) (c := k10c2) (by decide +kernel) rfl rfl rfl (by decide +kernel)
set_option maxRecDepth 65536 in
theorem w_c12 : (Jvm.Cond.code ({ cls := "java/lang/StringUTF16", name := "compress", desc := "([CI[BII)I" } : Jvm.MethodName) jdk_52_method_21_code (7 : Nat) (Option.some Jvm.ClassFile.FieldType.int)).before args0 about1 = true := code_word (m := ⟨10, 3⟩) (meth := k10m3) (c := k10c3) (by decide +kernel) rfl rfl rfl (by decide +kernel)
set_option maxRecDepth 65536 in
theorem w_c13 : (Jvm.Cond.code ({ cls := "java/lang/StringUTF16", name := "coderFromArrayLen", desc := "([BI)B" } : Jvm.MethodName) jdk_52_method_15_code (2 : Nat) (Option.some Jvm.ClassFile.FieldType.byte)).before args0 about1 = true := code_word (m := ⟨10, 1⟩) (meth := k10m1) (c := k10c1) (by decide +kernel) rfl rfl rfl (by decide +kernel)
def codes1 : List Jvm.Cond := [Jvm.Cond.code x code maxLocals ret, Jvm.Cond.code ({ cls := "com/example/text_span_search/textspansearch/trec/TopicEqualsPinLaw", name := "dl", desc := "(IIJI)C" } : Jvm.MethodName) method_3_code (5 : Nat) (Option.some Jvm.ClassFile.FieldType.char), Jvm.Cond.code ({ cls := "com/example/text_span_search/textspansearch/trec/TopicEqualsPinLaw", name := "mk", desc := "(ICC)Ljava/lang/String;" } : Jvm.MethodName) method_4_code (4 : Nat) (Option.some (Jvm.ClassFile.FieldType.object "java/lang/String")), Jvm.Cond.code ({ cls := "java/lang/String", name := "<init>", desc := "([C)V" } : Jvm.MethodName) jdk_42_method_3_code (2 : Nat) (Option.none : Option Jvm.ClassFile.FieldType), Jvm.Cond.code ({ cls := "java/lang/String", name := "<init>", desc := "([CIILjava/lang/Void;)V" } : Jvm.MethodName) jdk_42_method_149_code (6 : Nat) (Option.none : Option Jvm.ClassFile.FieldType), Jvm.Cond.code ({ cls := "java/lang/Object", name := "<init>", desc := "()V" } : Jvm.MethodName) object_method_1_code (1 : Nat) (Option.none : Option Jvm.ClassFile.FieldType), Jvm.Cond.code ({ cls := "com/example/text_span_search/textspansearch/trec/Topic", name := "<init>", desc := "(Ljava/lang/String;Ljava/lang/String;)V" } : Jvm.MethodName) prog_59_method_1_code (3 : Nat) (Option.none : Option Jvm.ClassFile.FieldType), Jvm.Cond.code ({ cls := "com/example/text_span_search/textspansearch/trec/TopicEqualsPinLaw", name := "same", desc := "(ICCICC)Z" } : Jvm.MethodName) method_5_code (6 : Nat) (Option.some Jvm.ClassFile.FieldType.boolean), Jvm.Cond.code ({ cls := "com/example/text_span_search/textspansearch/trec/Topic", name := "equals", desc := "(Ljava/lang/Object;)Z" } : Jvm.MethodName) prog_59_method_4_code (3 : Nat) (Option.some Jvm.ClassFile.FieldType.boolean), Jvm.Cond.code ({ cls := "java/lang/String", name := "equals", desc := "(Ljava/lang/Object;)Z" } : Jvm.MethodName) jdk_42_method_66_code (3 : Nat) (Option.some Jvm.ClassFile.FieldType.boolean), Jvm.Cond.code ({ cls := "java/lang/StringLatin1", name := "equals", desc := "([B[B)Z" } : Jvm.MethodName) jdk_43_method_13_code (3 : Nat) (Option.some Jvm.ClassFile.FieldType.boolean), Jvm.Cond.code ({ cls := "java/lang/StringUTF16", name := "compress", desc := "([CII)[B" } : Jvm.MethodName) jdk_52_method_16_code (6 : Nat) (Option.some (Jvm.ClassFile.FieldType.array Jvm.ClassFile.FieldType.byte)), Jvm.Cond.code ({ cls := "java/lang/StringUTF16", name := "compress", desc := "([CI[BII)I" } : Jvm.MethodName) jdk_52_method_21_code (7 : Nat) (Option.some Jvm.ClassFile.FieldType.int), Jvm.Cond.code ({ cls := "java/lang/StringUTF16", name := "coderFromArrayLen", desc := "([BI)B" } : Jvm.MethodName) jdk_52_method_15_code (2 : Nat) (Option.some Jvm.ClassFile.FieldType.byte)]
set_option maxRecDepth 65536 in
theorem codes_eq : words1.filter isCode = codes1 := rfl
theorem w_codes : ∀ c ∈ words1.filter isCode, c.before args0 about1 = true := by
  rw [codes_eq]
  intro c hc
  simp only [codes1, List.mem_cons, List.not_mem_nil, or_false] at hc
  rcases hc with rfl | rfl | rfl | rfl | rfl | rfl | rfl | rfl | rfl | rfl | rfl | rfl | rfl | rfl
  · exact w_c0
  · exact w_c1
  · exact w_c2
  · exact w_c3
  · exact w_c4
  · exact w_c5
  · exact w_c6
  · exact w_c7
  · exact w_c8
  · exact w_c9
  · exact w_c10
  · exact w_c11
  · exact w_c12
  · exact w_c13
set_option maxRecDepth 65536 in
theorem w_t1 : (words1.take 24).all (fun c => isCode c || c.before args0 about1) = true := by decide +kernel
set_option maxRecDepth 65536 in
theorem w_t2 : ((words1.drop 24).take 24).all (fun c => isCode c || c.before args0 about1) = true := by decide +kernel
set_option maxRecDepth 65536 in
theorem w_t3 : (((words1.drop 24).drop 24).take 24).all (fun c => isCode c || c.before args0 about1) = true := by decide +kernel
set_option maxRecDepth 65536 in
theorem w_t4 : (((words1.drop 24).drop 24).drop 24).all (fun c => isCode c || c.before args0 about1) = true := by decide +kernel
theorem w_tables : (allAtoms (Jvm.Cond.code x code maxLocals ret :: tables_1)).before args0 about1 = true := by
  rw [allAtoms_all]
  show words1.all (fun c => c.before args0 about1) = true
  refine all_split ?_ w_codes
  rw [← List.take_append_drop 24 words1, List.all_append, w_t1, ← List.take_append_drop 24 (words1.drop 24), List.all_append, w_t2, ← List.take_append_drop 24 ((words1.drop 24).drop 24), List.all_append, w_t3, w_t4]
  rfl
set_option maxRecDepth 65536 in
theorem w_rest : rest_1_c.before args0 about1 = true := by decide +kernel
set_option maxRecDepth 65536 in
theorem w_case : (Jvm.Cond.and given_1 narrow_1).before args0 about1 = true := by decide +kernel
set_option maxRecDepth 65536 in
theorem w_consts : constsHeld consts_1 about1 := Jvm.Lit.constsHeldB_iff.mp (by decide +kernel)
theorem w_applies : (headSpec (Jvm.Cond.code x code maxLocals ret :: tables_1) room_1).applies x e0.platform about1 = true :=
  (Spec.applies_iff w_frames).mpr ⟨w_running, w_runnable, w_alone, w_named, w_hears, w_ripe, w_room, w_tables⟩
theorem atStart : AtStart classFile x code maxLocals ret World_1 tables_1 room_1 Calls_1 rest_1 Pre_1 launch0 p0 e0 about1 theMethod args0 below0 :=
  ⟨lists_1, trivial, launch0.admits_env _ _ _, launch0.least_env, fairChoices_fair.cas, fairChoices_fair.clock, w_frames, w_args, w_heap, w_applies, ⟨w_consts, trivial⟩, w_rest, w_case⟩
end start1
theorem witness_1 : WitnessClaimed_1 := ⟨start1.p0, start1.e0, start1.about1, start1.theMethod, start1.args0, start1.below0, start1.atStart⟩
end Jvm.Pilot.@@N@@
