import JvmDerived
import JvmDerived.Pilot.@@N@@Statement
import JvmDerived.Pilot.@@N@@Code
set_option linter.unusedVariables false
set_option linter.unusedSimpArgs false
namespace Jvm.OwnGo
open Jvm Jvm.ClassFile Sem Op Lib Jvm.Free Jvm.Stand Jvm.LawKit Jvm.RoadKit Bundle
/-! THE GO KIT: a walk of a body told backwards: 'Go k h os cells slots pc Ls st': from pc with these locals and this stack, over the heap h, the body comes to its end as its contract says. -/
abbrev QT : Type := Option Value → Heap → List Addr → Prop
abbrev KT : Type := Program × Launch × Env × Room × State × MethodId × Array Value × List Frame × Method × Code × State × List (String × Nat) × Bool × List Addr × QT
def Own (Z : State) (h0 : Heap) (EL : List (String × Nat)) (wr : List Addr) (vm : Vm) (h : Heap) (x : Addr) : Prop :=
  Safe Z EL vm h x ∧ Z.heap.size ≤ x ∧ x < h.size ∧ (x ∈ wr ∨ h0.size ≤ x)
def Done (Z : State) (EL : List (String × Nat)) (wd : Bool) (R : Room) (wr : List Addr) (Q : QT) (s : State) (o : Outcome) (s' : State) : Prop :=
  ∃ v L os, o = .returned v ∧ Q v s'.heap os ∧ (∀ x ∈ os, Safe Z EL s'.vm s'.heap x ∧ s.heap.size ≤ x ∧ x < s'.heap.size) ∧ Keep s.heap s'.heap wr ∧ Fr Z.heap.size L ∧
    CHr Z EL s.vm s.heap s'.vm s'.heap ∧ ReturnedEndW s o s' L R.cells R.slots ∧ (wd = false → FrameEnd s o s' L R.cells R.slots)
def Fen (p : Program) (e : Env) (below : List Frame) (P : Outcome → State → Prop) (A : State) : Prop :=
  ∃ s' o, Steps p.tables e below A s' ∧ s'.status = .running ∧ Ended s' below o ∧ P o s'
theorem Fen.of {p : Program} {e : Env} {below : List Frame} {P : Outcome → State → Prop} {A B : State} (st : ∀ t, Steps p.tables e below B t → Steps p.tables e below A t) (F : Fen p e below P B) : Fen p e below P A := by
  obtain ⟨s', o, h1, h2⟩ := F
  exact ⟨s', o, st _ h1, h2⟩
def Go : KT → Heap → List Addr → Nat → Nat → Nat → Array Slot → List Value → Prop :=
  fun ⟨p, l, e, R, s, m, args, below, meth, c, Z, EL, wd, wr, Q⟩ h os cells slots pc Ls st =>
    ∀ (T : State) (locs : List Loc) (vm : Vm), Stand p l e R (s.setVm vm) m args below meth c T locs cells slots → T.heap = h → Fr Z.heap.size locs → s.Since vm h.size → (wd = false → s.WarmedH vm) →
      CHr Z EL s.vm s.heap vm h → Keep s.heap h wr → (∀ x ∈ os, Own Z s.heap EL wr vm h x) → Fen p e below (Done Z EL wd R wr Q s) (T.setTop (mkF m pc Ls st))
def Ctx (k : KT) (l : Launch) (y : MethodName) (bytes : ByteArray) (maxL : Nat) (ret : Option FieldType) (R : Room) (Z : State) (a0 : Array Value) (EL : List (String × Nat)) (wd : Bool) (wr : List Addr) (h0 : Heap) (Q : QT) : Prop :=
  match k with
  | ⟨p, l', e, R', s, m, args, below, meth, c, Z', EL', wd', wr', Q'⟩ => (l' = l ∧ R' = R ∧ Z' = Z ∧ EL' = EL ∧ wd' = wd ∧ wr' = wr ∧ Q' = Q ∧ s.heap = h0) ∧ p.tables.exec = Jvm.exec ∧ c.code = bytes ∧ c.maxLocals = maxL ∧ meth.sig.returnType = ret ∧
      meth.locks = false ∧ meth.name = y.name ∧ Z'.Warmed39 s.vm ∧ s.vm.findClass y.cls = some m.cls ∧ EW Z' a0 EL' ∧ Ext Z'.heap s.heap ∧ (∀ x ∈ wr, Z'.heap.size ≤ x)
/-- a body's contract -/
def Con (l : Launch) (Z : State) (EL : List (String × Nat)) (wd : Bool) (y : MethodName) (bytes : ByteArray) (maxL : Nat) (ret : Option FieldType) (rm : Room) (ws : List Jvm.Cond) (as' : Array Value) (h : Heap) (wr : List Addr) (Q : QT) : Prop :=
  MetFree l y (head1 (Cond.code y bytes maxL ret :: ws) rm) (fun a U => a = as' ∧ Z.Warmed39 U.vm ∧ U.heap = h ∧ CHv Z EL U.vm h ∧ Ext Z.heap h ∧ ∀ x ∈ wr, Safe Z EL U.vm h x ∧ Z.heap.size ≤ x ∧ x < h.size) (fun _ _ _ _ _ => True)
    (fun _ U o U' => Done Z EL wd rm wr Q U o U')
section Base
variable {p : Program} {l : Launch} {e : Env} {R : Room} {s : State} {m : MethodId} {args : Array Value} {below : List Frame} {meth : Method} {c : Code} {T T' : State} {locs locs' : List Loc} {cells slots cells' slots' : Nat}
variable {Z : State} {a0 : Array Value} {EL : List (String × Nat)} {wd : Bool} {wr ws os : List Addr} {h h' h0 : Heap} {vm vm' : Vm} {Q : QT}
theorem Since.up {n n' : Nat} (S : s.Since vm n) (q : n ≤ n') : s.Since vm n' := ⟨S.1, fun j p hj hp => ⟨(S.2 j p hj hp).1, Nat.lt_of_lt_of_le (S.2 j p hj hp).2 q⟩⟩
theorem Own.chr {x : Addr} (O : Own Z h0 EL wr vm h x) (A : CHr Z EL vm h vm' h') : Own Z h0 EL wr vm' h' x := ⟨A.safe O.2.2.1 O.1, O.2.1, Nat.lt_of_lt_of_le O.2.2.1 A.2.1, O.2.2.2⟩
theorem keepOs (K : Keep h0 h wr) (K' : Keep h h' ws) (ow : ∀ x ∈ os, Own Z h0 EL wr vm h x) (q : ∀ x ∈ ws, x ∈ os) : Keep h0 h' wr := K.trans K' fun x hx => (ow x (q x hx)).2.2.2
theorem Keep.ofExt (E : Ext h h') : Keep h h' ws := (Keep.refl h ws).ext E
theorem safeOs (ow : ∀ x ∈ os, Own Z h0 EL wr vm h x) (q : ∀ x ∈ ws, x ∈ os) : ∀ x ∈ ws, Safe Z EL vm h x := fun x hx => (ow x (q x hx)).1
end Base
/-! decode facts -/
def De (b : ByteArray) (pc : Nat) (i : Instr) (n pc' : Nat) : Prop := decode b pc = .ok (i, n) ∧ pc' = pc + n
def DeJ (b : ByteArray) (pc : Nat) (i : Int → Instr) (pc' pcT : Nat) : Prop := ∃ o : Int, decode b pc = .ok (i o, 3) ∧ pc' = pc + 3 ∧ 0 ≤ (pc : Int) + o ∧ ((pc : Int) + o).toNat = pcT
/-! facts of the heap: an object by its fields, an array by its values -/
abbrev FL : Type := List (String × String × String)
def Obj (Z : State) (h : Heap) (a : Addr) (C : String) (F : FL) (vs : List Value) : Prop := Exa Z h a C ∧ F.length = vs.length ∧ ∀ (i : Nat) (q : String × String × String) (v : Value), F[i]? = some q → vs[i]? = some v → Fld Z h a q.1 q.2.1 q.2.2 v
def Av (Z : State) (h : Heap) (a : Addr) (ty : FieldType) (vs : List Value) : Prop := ∃ (k : ClassId) (z : Int32), Arv Z h a k ty z vs (defaultValue ty) ∧ z.toNatClampNeg = vs.length
def LaidL (Z : State) (a0 : Array Value) (C : String) : FL → Prop
  | [] => True
  | q :: r => (Laid Z a0 C q.1 q.2.1 q.2.2 ∧ ∃ t, parseFieldDescriptor q.2.2 = some t) ∧ LaidL Z a0 C r
section Facts
variable {Z : State} {a0 : Array Value} {h h' : Heap} {a b : Addr} {C : String} {F : FL} {vs : List Value} {ws : List Addr} {ty : FieldType}
theorem LaidL.at {q : String × String × String} : ∀ {F : FL}, LaidL Z a0 C F → q ∈ F → Laid Z a0 C q.1 q.2.1 q.2.2 ∧ ∃ t, parseFieldDescriptor q.2.2 = some t
  | [], _, hq => nomatch hq
  | x :: r, L, hq => by
    rcases List.mem_cons.mp hq with rfl | hq
    · exact L.1
    · exact LaidL.at L.2 hq
theorem Obj.lt (O : Obj Z h a C F vs) : a < h.size := O.1.lt
theorem Obj.keep (O : Obj Z h a C F vs) (K : Keep h h' ws) (q : a ∉ ws) : Obj Z h' a C F vs := ⟨O.1.keep K, O.2.1, fun i p v h1 h2 => (O.2.2 i p v h1 h2).keep K q⟩
theorem Obj.k0 (O : Obj Z h a C F vs) (K : Keep h h' []) : Obj Z h' a C F vs := O.keep K nin0
theorem Obj.k1 (O : Obj Z h a C F vs) (K : Keep h h' [b]) (q : a ≠ b) : Obj Z h' a C F vs := O.keep K (ninS q nin0)
theorem Av.lt (O : Av Z h a ty vs) : a < h.size := by obtain ⟨k, z, A, -⟩ := O; exact A.lt
theorem Av.keep (O : Av Z h a ty vs) (K : Keep h h' ws) (q : a ∉ ws) : Av Z h' a ty vs := by obtain ⟨k, z, A, e⟩ := O; exact ⟨k, z, A.keep K q, e⟩
theorem Av.k0 (O : Av Z h a ty vs) (K : Keep h h' []) : Av Z h' a ty vs := O.keep K nin0
theorem Av.k1 (O : Av Z h a ty vs) (K : Keep h h' [b]) (q : a ≠ b) : Av Z h' a ty vs := O.keep K (ninS q nin0)
theorem Obj.new {A : Exa Z h a C} (D : ∀ {O nm d : String} {ty : FieldType}, Laid Z a0 C O nm d → parseFieldDescriptor d = some ty → Fld Z h a O nm d (defaultValue ty)) (L : LaidL Z a0 C F) (dv : F.map (fun q => (parseFieldDescriptor q.2.2).map defaultValue) = vs.map some) : Obj Z h a C F vs := by
  refine ⟨A, by simpa using congrArg List.length dv, fun i q v h1 h2 => ?_⟩
  obtain ⟨l1, t, l2⟩ := L.at (List.mem_of_getElem? h1)
  have e := congrArg (fun l => l[i]?) dv
  simp only [List.getElem?_map, h1, h2, Option.map_some, l2, Option.some.injEq] at e
  rw [← e]; exact D l1 l2
theorem nodup_ne {α : Type} : ∀ {l : List α} {i j : Nat} {x y : α}, l.Nodup → l[i]? = some x → l[j]? = some y → i ≠ j → x ≠ y := fun {l i j x y} hn h1 h2 hij e => by
  subst e
  obtain ⟨hi, e1⟩ := List.getElem?_eq_some_iff.mp h1
  obtain ⟨hj, e2⟩ := List.getElem?_eq_some_iff.mp h2
  exact hij ((List.getElem_inj hn).mp (e1.trans e2.symm))
theorem Obj.put {q : String × String × String} {v : Value} {i : Nat} (O : Obj Z h a C F vs) (W : Wr h h' a (RoadKit.slotOf Z q.1 q.2.1 q.2.2) v) (hq : F[i]? = some q) (L : LaidL Z a0 C F) (nd : (F.map (fun q => q.2.1)).Nodup) : Obj Z h' a C F (vs.set i v) := by
  refine ⟨O.1.wr W, by simpa using O.2.1, fun j p w h1 h2 => ?_⟩
  obtain ⟨l1, t, l2⟩ := L.at (List.mem_of_getElem? hq)
  obtain ⟨m1, u, m2⟩ := L.at (List.mem_of_getElem? h1)
  have hj : j < vs.length := by rw [← O.2.1]; exact (List.getElem?_eq_some_iff.mp h1).1
  by_cases e : i = j
  · subst e
    rw [hq] at h1; cases h1
    simp [hj] at h2; subst h2
    exact (O.2.2 i q _ hq (List.getElem?_eq_getElem hj)).same W
  · rw [List.getElem?_set_ne e] at h2
    refine (O.2.2 j p w h1 h2).other W (Or.inr ?_)
    have hn : p.2.1 ≠ q.2.1 := nodup_ne nd (i := j) (j := i) (by simp [h1]) (by simp [hq]) (fun z => e z.symm)
    exact slot_ne m1 l1 hn m2 l2
theorem Av.len (V : Av Z h a ty vs) : vs.length < 2147483648 := by
  obtain ⟨k, z, ⟨c, A, r1, r2, r3, H, G⟩, e⟩ := V
  rw [← e]; exact (back32 r3).2
theorem Av.lenI {bs : List Int32} (V : Av Z h a ty (List.map Value.int bs)) : bs.length < 2147483648 := by have := V.len; rwa [List.length_map] at this
theorem Av.new {k : ClassId} {z : Int32} (A : Arr Z h a (newA k ty z) ty) (q : ¬ z < 0) {n : Nat} (hn : z.toNatClampNeg = n) : Av Z h a ty (List.replicate n (defaultValue ty)) :=
  ⟨k, z, by have := (Arv.new A q).pad (pad_rep [] (defaultValue ty) n); simpa using this, by simpa using hn⟩
theorem Av.fit (V : Av Z h a ty vs) {i : Nat} {v : Value} (hv : vs[i]? = some v) : fits ty v = true := by
  obtain ⟨k, z, ⟨c, A, r1, r2, r3, H, G⟩, e⟩ := V
  have hi := (List.getElem?_eq_some_iff.mp hv).1
  have g := G i (by rw [r2, e]; exact hi)
  rw [List.getD_eq_getElem?_getD, hv] at g; exact g
end Facts
/-- a Latin-1 String: its object a, its bytes at t -/
def fStr : FL := [("java/lang/String", "value", "[B"), ("java/lang/String", "coder", "B")]
def Str (Z : State) (h : Heap) (a t : Addr) (bs : List Int32) : Prop := Obj Z h a "java/lang/String" fStr [.ref t, .int 0] ∧ Av Z h t .byte (bs.map .int)
section StrFacts
variable {Z : State} {h h' : Heap} {a t : Addr} {bs : List Int32} {ws : List Addr}
theorem Str.exa (S : Str Z h a t bs) : Exa Z h a "java/lang/String" := S.1.1
theorem Str.lt (S : Str Z h a t bs) : a < h.size := S.1.lt
theorem Str.lt1 (S : Str Z h a t bs) : t < h.size := S.2.lt
theorem Str.keep (S : Str Z h a t bs) (K : Keep h h' ws) (q1 : a ∉ ws) (q2 : t ∉ ws) : Str Z h' a t bs := ⟨S.1.keep K q1, S.2.keep K q2⟩
theorem Str.k0 (S : Str Z h a t bs) (K : Keep h h' []) : Str Z h' a t bs := S.keep K nin0 nin0
theorem Fld.det {Z : State} {h : Heap} {a : Addr} {C n d : String} {v w : Value} (F : Fld Z h a C n d v) (G : Fld Z h a C n d w) : v = w := Decidable.byContradiction fun q => Fld.ne F G q rfl
theorem Av.det {Z : State} {h : Heap} {a : Addr} {ty : FieldType} {vs vs' : List Value} (V : Av Z h a ty vs) (V' : Av Z h a ty vs') : vs = vs' := by
  obtain ⟨k, z, ⟨c, A, r1, r2, r3, H, G⟩, e⟩ := V
  obtain ⟨k', z', ⟨c', A', r1', r2', r3', H', G'⟩, e'⟩ := V'
  cases A.1.symm.trans A'.1
  have hl : vs.length = vs'.length := by rw [← e, ← e', ← r2, ← r2']
  refine List.ext_getElem hl fun i h1 h2 => ?_
  have a1 := H i (by rw [r2, e]; exact h1)
  have a2 := H' i (by rw [r2', e']; exact h2)
  rw [a1] at a2
  simpa [List.getD_eq_getElem?_getD, h1, h2] using a2
theorem map_int_inj {xs ys : List Int32} (q : xs.map Value.int = ys.map Value.int) : xs = ys := (List.map_inj_right (fun _ _ z => Value.int.inj z)).mp q
theorem Str.det {bs' : List Int32} {t' : Addr} (S : Str Z h a t bs) (S' : Str Z h a t' bs') : t = t' ∧ bs = bs' := by
  have e : (Value.ref t) = .ref t' := Fld.det (S.1.2.2 0 _ _ rfl rfl) (S'.1.2.2 0 _ _ rfl rfl)
  cases e
  exact ⟨rfl, map_int_inj (Av.det S.2 S'.2)⟩
end StrFacts
/-- an array of references, whose class's components are C's -/
def Avr (Z : State) (h : Heap) (a : Addr) (C : String) (vs : List Value) : Prop := ∃ (k : ClassId) (z : Int32), Arv Z h a k (.object C) z vs .null ∧ z.toNatClampNeg = vs.length ∧ Ovr Z k C
theorem Avr.av {Z : State} {h : Heap} {a : Addr} {C : String} {vs : List Value} (V : Avr Z h a C vs) : Av Z h a (.object C) vs := by obtain ⟨k, z, A, e, -⟩ := V; exact ⟨k, z, A, e⟩
theorem Avr.lt {Z : State} {h : Heap} {a : Addr} {C : String} {vs : List Value} (V : Avr Z h a C vs) : a < h.size := V.av.lt
theorem Avr.keep {Z : State} {h h' : Heap} {a : Addr} {C : String} {vs : List Value} {ws : List Addr} (V : Avr Z h a C vs) (K : Keep h h' ws) (q : a ∉ ws) : Avr Z h' a C vs := by obtain ⟨k, z, A, e, O⟩ := V; exact ⟨k, z, A.keep K q, e, O⟩
theorem Avr.k0 {Z : State} {h h' : Heap} {a : Addr} {C : String} {vs : List Value} (V : Avr Z h a C vs) (K : Keep h h' []) : Avr Z h' a C vs := V.keep K nin0
theorem cat_ref {v : Value} (q : v.isRef = true) : v.category = 1 := by rcases ref_cases q with rfl | ⟨a, rfl⟩ <;> rfl
theorem fits_refv {ty : FieldType} {v : Value} (ht : ty.isReference = true) (hv : v.isRef = true) : fits ty v = true := by rcases ref_cases hv with rfl | ⟨a, rfl⟩ <;> cases ty <;> first | rfl | cases ht
theorem nar01 {z : Int32} (q : z = 0 ∨ z = 1) : narrow .boolean (.int z) = .int z ∧ fits .boolean (.int z) = true := by rcases q with rfl | rfl <;> exact ⟨rfl, rfl⟩
/-- a local that holds nothing or one word -/
def Sl (s : Slot) : Prop := s = .unset ∨ ∃ v, s = .val v ∧ v.category = 1
theorem Sl.u : Sl .unset := Or.inl rfl
theorem Sl.val {v : Value} (q : v.category = 1) : Sl (.val v) := Or.inr ⟨v, rfl, q⟩
theorem sto1 {Ls Ls' : Array Slot} {n : Nat} {v : Value} {s : Slot} (hold : Ls[n]? = some s) (hs : Sl s) (hv : v.category = 1) (e : Ls.setIfInBounds n (.val v) = Ls') : storeLocals Ls n v = some Ls' := e ▸ XS.store1 hold hs hv
section Small
theorem nI_int {n : Nat} (q : n < 2147483648) : (Int32.ofNat n).toInt = n := Int32.toInt_ofNat_of_lt q
theorem nI_nat {n : Nat} (q : n < 2147483648) : (Int32.ofNat n).toNatClampNeg = n := by rw [Int32.toNatClampNeg, nI_int q]; rfl
theorem nI_nn {n : Nat} (q : n < 2147483648) : ¬ Int32.ofNat n < 0 := by rw [Int32.lt_iff_toInt_lt, nI_int q]; show ¬ (n : Int) < 0; omega
theorem nI_lt {i n : Nat} (q1 : i < 2147483648) (q2 : n < 2147483648) : Int32.ofNat i < Int32.ofNat n ↔ i < n := by rw [Int32.lt_iff_toInt_lt, nI_int q1, nI_int q2]; omega
theorem nI_eq {i n : Nat} (q1 : i < 2147483648) (q2 : n < 2147483648) : Int32.ofNat i = Int32.ofNat n ↔ i = n := by rw [← Int32.toInt_inj, nI_int q1, nI_int q2]; omega
theorem nI_succ (i : Nat) : Int32.ofNat i + Int32.ofInt 1 = Int32.ofNat (i + 1) := by rw [Int32.ofNat_add]; rfl
theorem nI_nn' {x : Int32} (q : ¬ x < 0) : x = Int32.ofNat x.toNatClampNeg ∧ x.toNatClampNeg < 2147483648 := ⟨(back32 q).1.symm, (back32 q).2⟩
end Small
section Steps
variable {l : Launch} {y : MethodName} {bytes : ByteArray} {maxL : Nat} {ret : Option FieldType} {R : Room} {Z : State} {a0 : Array Value} {EL : List (String × Nat)} {wd : Bool} {wr : List Addr} {h0 : Heap} {Q : QT} {h : Heap} {os : List Addr} {cells slots : Nat} {Ls : Array Slot} {st : List Value}
theorem Go.pure {k : KT} (C : Ctx k l y bytes maxL ret R Z a0 EL wd wr h0 Q) {pc pc' : Nat} {Ls' : Array Slot} {st' : List Value}
    (hs : ∀ {p : Program} {e : Env} {below : List Frame} {T target : State} {m : MethodId} {c : Code}, p.tables.exec = Jvm.exec → c.code = bytes → At T m c below → Steps p.tables e below (T.setTop (mkF m pc' Ls' st')) target → Steps p.tables e below (T.setTop (mkF m pc Ls st)) target)
    (K : Go k h os cells slots pc' Ls' st') : Go k h os cells slots pc Ls st := by
  obtain ⟨p, l', e, R', s, m, args, below, meth, c, Z', EL', wd', wr', Q'⟩ := k
  obtain ⟨-, hx, hc, -⟩ := C
  intro T locs vm X e0 N S w A Kp ow
  exact Fen.of (fun t kt => hs hx hc X.here kt) (K T locs vm X e0 N S w A Kp ow)
theorem Go.iload {k : KT} (C : Ctx k l y bytes maxL ret R Z a0 EL wd wr h0 Q) {pc pc' : Nat} {n : Nat} {x : Int32} (hd : De bytes pc (.iload n) 2 pc') (hl : Ls[n]? = some (.val (.int x))) (K : Go k h os cells slots pc' Ls (.int x :: st)) : Go k h os cells slots pc Ls (st) :=
  Go.pure C (fun hx hc X kt => by obtain ⟨h1, rfl⟩ := hd; exact XS.iload X hx rfl (hb hc h1) hl kt) K
theorem Go.iloadN {k : KT} (C : Ctx k l y bytes maxL ret R Z a0 EL wd wr h0 Q) {pc pc' : Nat} {n : Fin 4} {x : Int32} (hd : De bytes pc (.iload_n n) 1 pc') (hl : Ls[n.val]? = some (.val (.int x))) (K : Go k h os cells slots pc' Ls (.int x :: st)) : Go k h os cells slots pc Ls (st) :=
  Go.pure C (fun hx hc X kt => by obtain ⟨h1, rfl⟩ := hd; exact XS.iloadN X hx rfl (hb hc h1) hl kt) K
theorem Go.lload {k : KT} (C : Ctx k l y bytes maxL ret R Z a0 EL wd wr h0 Q) {pc pc' : Nat} {n : Nat} {x : Int64} (hd : De bytes pc (.lload n) 2 pc') (hl : Ls[n]? = some (.val (.long x))) (K : Go k h os cells slots pc' Ls (.long x :: st)) : Go k h os cells slots pc Ls (st) :=
  Go.pure C (fun hx hc X kt => by obtain ⟨h1, rfl⟩ := hd; exact XS.lload X hx rfl (hb hc h1) hl kt) K
theorem Go.lloadN {k : KT} (C : Ctx k l y bytes maxL ret R Z a0 EL wd wr h0 Q) {pc pc' : Nat} {n : Fin 4} {x : Int64} (hd : De bytes pc (.lload_n n) 1 pc') (hl : Ls[n.val]? = some (.val (.long x))) (K : Go k h os cells slots pc' Ls (.long x :: st)) : Go k h os cells slots pc Ls (st) :=
  Go.pure C (fun hx hc X kt => by obtain ⟨h1, rfl⟩ := hd; exact XS.lloadN X hx rfl (hb hc h1) hl kt) K
theorem Go.aload {k : KT} (C : Ctx k l y bytes maxL ret R Z a0 EL wd wr h0 Q) {pc pc' : Nat} {n : Nat} {v : Value} (hd : De bytes pc (.aload n) 2 pc') (hl : Ls[n]? = some (.val v)) (hv : v.isRef = true) (K : Go k h os cells slots pc' Ls (v :: st)) : Go k h os cells slots pc Ls (st) :=
  Go.pure C (fun hx hc X kt => by obtain ⟨h1, rfl⟩ := hd; exact XS.aload X hx rfl (hb hc h1) hl hv kt) K
theorem Go.aloadN {k : KT} (C : Ctx k l y bytes maxL ret R Z a0 EL wd wr h0 Q) {pc pc' : Nat} {n : Fin 4} {v : Value} (hd : De bytes pc (.aload_n n) 1 pc') (hl : Ls[n.val]? = some (.val v)) (hv : v.isRef = true) (K : Go k h os cells slots pc' Ls (v :: st)) : Go k h os cells slots pc Ls (st) :=
  Go.pure C (fun hx hc X kt => by obtain ⟨h1, rfl⟩ := hd; exact XS.aloadN X hx rfl (hb hc h1) hl hv kt) K
theorem Go.istore {k : KT} (C : Ctx k l y bytes maxL ret R Z a0 EL wd wr h0 Q) {pc pc' : Nat} {n : Nat} {x : Int32} {Ls' : Array Slot} (hd : De bytes pc (.istore n) 2 pc') (hl : storeLocals Ls n (.int x) = some Ls') (K : Go k h os cells slots pc' Ls' (st)) : Go k h os cells slots pc Ls (.int x :: st) :=
  Go.pure C (fun hx hc X kt => by obtain ⟨h1, rfl⟩ := hd; exact XS.istore X hx rfl (hb hc h1) rfl hl kt) K
theorem Go.istoreN {k : KT} (C : Ctx k l y bytes maxL ret R Z a0 EL wd wr h0 Q) {pc pc' : Nat} {n : Fin 4} {x : Int32} {Ls' : Array Slot} (hd : De bytes pc (.istore_n n) 1 pc') (hl : storeLocals Ls n.val (.int x) = some Ls') (K : Go k h os cells slots pc' Ls' (st)) : Go k h os cells slots pc Ls (.int x :: st) :=
  Go.pure C (fun hx hc X kt => by obtain ⟨h1, rfl⟩ := hd; exact XS.istoreN X hx rfl (hb hc h1) rfl hl kt) K
theorem Go.lstore {k : KT} (C : Ctx k l y bytes maxL ret R Z a0 EL wd wr h0 Q) {pc pc' : Nat} {n : Nat} {x : Int64} {Ls' : Array Slot} (hd : De bytes pc (.lstore n) 2 pc') (hl : storeLocals Ls n (.long x) = some Ls') (K : Go k h os cells slots pc' Ls' (st)) : Go k h os cells slots pc Ls (.long x :: st) :=
  Go.pure C (fun hx hc X kt => by obtain ⟨h1, rfl⟩ := hd; exact XS.lstore X hx rfl (hb hc h1) rfl hl kt) K
theorem Go.lstoreN {k : KT} (C : Ctx k l y bytes maxL ret R Z a0 EL wd wr h0 Q) {pc pc' : Nat} {n : Fin 4} {x : Int64} {Ls' : Array Slot} (hd : De bytes pc (.lstore_n n) 1 pc') (hl : storeLocals Ls n.val (.long x) = some Ls') (K : Go k h os cells slots pc' Ls' (st)) : Go k h os cells slots pc Ls (.long x :: st) :=
  Go.pure C (fun hx hc X kt => by obtain ⟨h1, rfl⟩ := hd; exact XS.lstoreN X hx rfl (hb hc h1) rfl hl kt) K
theorem Go.astore {k : KT} (C : Ctx k l y bytes maxL ret R Z a0 EL wd wr h0 Q) {pc pc' : Nat} {n : Nat} {v : Value} {Ls' : Array Slot} (hd : De bytes pc (.astore n) 2 pc') (hv : v.isRef = true) (hl : storeLocals Ls n v = some Ls') (K : Go k h os cells slots pc' Ls' (st)) : Go k h os cells slots pc Ls (v :: st) :=
  Go.pure C (fun hx hc X kt => by obtain ⟨h1, rfl⟩ := hd; exact XS.astore X hx rfl (hb hc h1) rfl hv hl kt) K
theorem Go.astoreN {k : KT} (C : Ctx k l y bytes maxL ret R Z a0 EL wd wr h0 Q) {pc pc' : Nat} {n : Fin 4} {v : Value} {Ls' : Array Slot} (hd : De bytes pc (.astore_n n) 1 pc') (hv : v.isRef = true) (hl : storeLocals Ls n.val v = some Ls') (K : Go k h os cells slots pc' Ls' (st)) : Go k h os cells slots pc Ls (v :: st) :=
  Go.pure C (fun hx hc X kt => by obtain ⟨h1, rfl⟩ := hd; exact XS.astoreN X hx rfl (hb hc h1) rfl hv hl kt) K
theorem Go.iinc {k : KT} (C : Ctx k l y bytes maxL ret R Z a0 EL wd wr h0 Q) {pc pc' : Nat} {n : Nat} {cst : Int} {x : Int32} (x' : Int32) {Ls' : Array Slot} (hd : De bytes pc (.iinc n cst) 3 pc') (hl : Ls[n]? = some (.val (.int x))) (hx' : x + Int32.ofInt cst = x') (hl' : storeLocals Ls n (.int x') = some Ls') (K : Go k h os cells slots pc' Ls' (st)) : Go k h os cells slots pc Ls (st) :=
  Go.pure C (fun hx hc X kt => by obtain ⟨h1, rfl⟩ := hd; exact XS.iinc X hx rfl (hb hc h1) hl (by rw [hx']; exact hl') kt) K
theorem Go.iconst {k : KT} (C : Ctx k l y bytes maxL ret R Z a0 EL wd wr h0 Q) {pc pc' : Nat} {i : Int} (v : Int32) (hd : De bytes pc (.iconst i) 1 pc') (hv : Int32.ofInt i = v) (K : Go k h os cells slots pc' Ls (.int v :: st)) : Go k h os cells slots pc Ls (st) :=
  Go.pure C (fun hx hc X kt => by obtain ⟨h1, rfl⟩ := hd; exact XS.iconst X hx rfl (hb hc h1) (by rw [hv]; exact kt)) K
theorem Go.bipush {k : KT} (C : Ctx k l y bytes maxL ret R Z a0 EL wd wr h0 Q) {pc pc' : Nat} {i : Int} (v : Int32) (hd : De bytes pc (.bipush i) 2 pc') (hv : (Int8.ofInt i).toInt32 = v) (K : Go k h os cells slots pc' Ls (.int v :: st)) : Go k h os cells slots pc Ls (st) :=
  Go.pure C (fun hx hc X kt => by obtain ⟨h1, rfl⟩ := hd; exact XS.bipush X hx rfl (hb hc h1) (by rw [hv]; exact kt)) K
theorem Go.sipush {k : KT} (C : Ctx k l y bytes maxL ret R Z a0 EL wd wr h0 Q) {pc pc' : Nat} {i : Int} (v : Int32) (hd : De bytes pc (.sipush i) 3 pc') (hv : (Int16.ofInt i).toInt32 = v) (K : Go k h os cells slots pc' Ls (.int v :: st)) : Go k h os cells slots pc Ls (st) :=
  Go.pure C (fun hx hc X kt => by obtain ⟨h1, rfl⟩ := hd; exact XS.sipush X hx rfl (hb hc h1) (by rw [hv]; exact kt)) K
theorem Go.lconst {k : KT} (C : Ctx k l y bytes maxL ret R Z a0 EL wd wr h0 Q) {pc pc' : Nat} {i : Fin 2} (v : Int64) (hd : De bytes pc (.lconst i) 1 pc') (hv : Int64.ofNat i = v) (K : Go k h os cells slots pc' Ls (.long v :: st)) : Go k h os cells slots pc Ls (st) :=
  Go.pure C (fun hx hc X kt => by obtain ⟨h1, rfl⟩ := hd; exact XS.lconst X hx rfl (hb hc h1) (by rw [hv]; exact kt)) K
theorem Go.aconstNull {k : KT} (C : Ctx k l y bytes maxL ret R Z a0 EL wd wr h0 Q) {pc pc' : Nat}  (hd : De bytes pc (.aconst_null) 1 pc') (K : Go k h os cells slots pc' Ls (.null :: st)) : Go k h os cells slots pc Ls (st) :=
  Go.pure C (fun hx hc X kt => by obtain ⟨h1, rfl⟩ := hd; exact XS.aconstNull X hx rfl (hb hc h1) kt) K
theorem Go.iadd {k : KT} (C : Ctx k l y bytes maxL ret R Z a0 EL wd wr h0 Q) {pc pc' : Nat} {x y' : Int32} (hd : De bytes pc (.iadd) 1 pc') (K : Go k h os cells slots pc' Ls (.int (x + y') :: st)) : Go k h os cells slots pc Ls (.int y' :: .int x :: st) :=
  Go.pure C (fun hx hc X kt => by obtain ⟨h1, rfl⟩ := hd; exact XS.iadd X hx rfl (hb hc h1) rfl kt) K
theorem Go.isub {k : KT} (C : Ctx k l y bytes maxL ret R Z a0 EL wd wr h0 Q) {pc pc' : Nat} {x y' : Int32} (hd : De bytes pc (.isub) 1 pc') (K : Go k h os cells slots pc' Ls (.int (x - y') :: st)) : Go k h os cells slots pc Ls (.int y' :: .int x :: st) :=
  Go.pure C (fun hx hc X kt => by obtain ⟨h1, rfl⟩ := hd; exact XS.isub X hx rfl (hb hc h1) rfl kt) K
theorem Go.imul {k : KT} (C : Ctx k l y bytes maxL ret R Z a0 EL wd wr h0 Q) {pc pc' : Nat} {x y' : Int32} (hd : De bytes pc (.imul) 1 pc') (K : Go k h os cells slots pc' Ls (.int (x * y') :: st)) : Go k h os cells slots pc Ls (.int y' :: .int x :: st) :=
  Go.pure C (fun hx hc X kt => by obtain ⟨h1, rfl⟩ := hd; exact XS.imul X hx rfl (hb hc h1) rfl kt) K
theorem Go.iand {k : KT} (C : Ctx k l y bytes maxL ret R Z a0 EL wd wr h0 Q) {pc pc' : Nat} {x y' : Int32} (hd : De bytes pc (.iand) 1 pc') (K : Go k h os cells slots pc' Ls (.int (x &&& y') :: st)) : Go k h os cells slots pc Ls (.int y' :: .int x :: st) :=
  Go.pure C (fun hx hc X kt => by obtain ⟨h1, rfl⟩ := hd; exact XS.iand X hx rfl (hb hc h1) rfl kt) K
theorem Go.ior {k : KT} (C : Ctx k l y bytes maxL ret R Z a0 EL wd wr h0 Q) {pc pc' : Nat} {x y' : Int32} (hd : De bytes pc (.ior) 1 pc') (K : Go k h os cells slots pc' Ls (.int (x ||| y') :: st)) : Go k h os cells slots pc Ls (.int y' :: .int x :: st) :=
  Go.pure C (fun hx hc X kt => by obtain ⟨h1, rfl⟩ := hd; exact XS.ior X hx rfl (hb hc h1) rfl kt) K
theorem Go.ixor {k : KT} (C : Ctx k l y bytes maxL ret R Z a0 EL wd wr h0 Q) {pc pc' : Nat} {x y' : Int32} (hd : De bytes pc (.ixor) 1 pc') (K : Go k h os cells slots pc' Ls (.int (x ^^^ y') :: st)) : Go k h os cells slots pc Ls (.int y' :: .int x :: st) :=
  Go.pure C (fun hx hc X kt => by obtain ⟨h1, rfl⟩ := hd; exact XS.ixor X hx rfl (hb hc h1) rfl kt) K
theorem Go.ishl {k : KT} (C : Ctx k l y bytes maxL ret R Z a0 EL wd wr h0 Q) {pc pc' : Nat} {x y' : Int32} (hd : De bytes pc (.ishl) 1 pc') (K : Go k h os cells slots pc' Ls (.int (x <<< (y' &&& 31)) :: st)) : Go k h os cells slots pc Ls (.int y' :: .int x :: st) :=
  Go.pure C (fun hx hc X kt => by obtain ⟨h1, rfl⟩ := hd; exact XS.ishl X hx rfl (hb hc h1) rfl kt) K
theorem Go.ishr {k : KT} (C : Ctx k l y bytes maxL ret R Z a0 EL wd wr h0 Q) {pc pc' : Nat} {x y' : Int32} (hd : De bytes pc (.ishr) 1 pc') (K : Go k h os cells slots pc' Ls (.int (x >>> (y' &&& 31)) :: st)) : Go k h os cells slots pc Ls (.int y' :: .int x :: st) :=
  Go.pure C (fun hx hc X kt => by obtain ⟨h1, rfl⟩ := hd; exact XS.ishr X hx rfl (hb hc h1) rfl kt) K
theorem Go.iushr {k : KT} (C : Ctx k l y bytes maxL ret R Z a0 EL wd wr h0 Q) {pc pc' : Nat} {x y' : Int32} (hd : De bytes pc (.iushr) 1 pc') (K : Go k h os cells slots pc' Ls (.int ((x.toUInt32 >>> (y' &&& 31).toUInt32).toInt32) :: st)) : Go k h os cells slots pc Ls (.int y' :: .int x :: st) :=
  Go.pure C (fun hx hc X kt => by obtain ⟨h1, rfl⟩ := hd; exact XS.iushr X hx rfl (hb hc h1) rfl kt) K
theorem Go.ladd {k : KT} (C : Ctx k l y bytes maxL ret R Z a0 EL wd wr h0 Q) {pc pc' : Nat} {x y' : Int64} (hd : De bytes pc (.ladd) 1 pc') (K : Go k h os cells slots pc' Ls (.long (x + y') :: st)) : Go k h os cells slots pc Ls (.long y' :: .long x :: st) :=
  Go.pure C (fun hx hc X kt => by obtain ⟨h1, rfl⟩ := hd; exact XS.ladd X hx rfl (hb hc h1) rfl kt) K
theorem Go.lsub {k : KT} (C : Ctx k l y bytes maxL ret R Z a0 EL wd wr h0 Q) {pc pc' : Nat} {x y' : Int64} (hd : De bytes pc (.lsub) 1 pc') (K : Go k h os cells slots pc' Ls (.long (x - y') :: st)) : Go k h os cells slots pc Ls (.long y' :: .long x :: st) :=
  Go.pure C (fun hx hc X kt => by obtain ⟨h1, rfl⟩ := hd; exact XS.lsub X hx rfl (hb hc h1) rfl kt) K
theorem Go.lmul {k : KT} (C : Ctx k l y bytes maxL ret R Z a0 EL wd wr h0 Q) {pc pc' : Nat} {x y' : Int64} (hd : De bytes pc (.lmul) 1 pc') (K : Go k h os cells slots pc' Ls (.long (x * y') :: st)) : Go k h os cells slots pc Ls (.long y' :: .long x :: st) :=
  Go.pure C (fun hx hc X kt => by obtain ⟨h1, rfl⟩ := hd; exact XS.lmul X hx rfl (hb hc h1) rfl kt) K
theorem Go.land {k : KT} (C : Ctx k l y bytes maxL ret R Z a0 EL wd wr h0 Q) {pc pc' : Nat} {x y' : Int64} (hd : De bytes pc (.land) 1 pc') (K : Go k h os cells slots pc' Ls (.long (x &&& y') :: st)) : Go k h os cells slots pc Ls (.long y' :: .long x :: st) :=
  Go.pure C (fun hx hc X kt => by obtain ⟨h1, rfl⟩ := hd; exact XS.land X hx rfl (hb hc h1) rfl kt) K
theorem Go.lor {k : KT} (C : Ctx k l y bytes maxL ret R Z a0 EL wd wr h0 Q) {pc pc' : Nat} {x y' : Int64} (hd : De bytes pc (.lor) 1 pc') (K : Go k h os cells slots pc' Ls (.long (x ||| y') :: st)) : Go k h os cells slots pc Ls (.long y' :: .long x :: st) :=
  Go.pure C (fun hx hc X kt => by obtain ⟨h1, rfl⟩ := hd; exact XS.lor X hx rfl (hb hc h1) rfl kt) K
theorem Go.lxor {k : KT} (C : Ctx k l y bytes maxL ret R Z a0 EL wd wr h0 Q) {pc pc' : Nat} {x y' : Int64} (hd : De bytes pc (.lxor) 1 pc') (K : Go k h os cells slots pc' Ls (.long (x ^^^ y') :: st)) : Go k h os cells slots pc Ls (.long y' :: .long x :: st) :=
  Go.pure C (fun hx hc X kt => by obtain ⟨h1, rfl⟩ := hd; exact XS.lxor X hx rfl (hb hc h1) rfl kt) K
theorem Go.lshl {k : KT} (C : Ctx k l y bytes maxL ret R Z a0 EL wd wr h0 Q) {pc pc' : Nat} {x : Int64} {y' : Int32} (hd : De bytes pc (.lshl) 1 pc') (K : Go k h os cells slots pc' Ls (.long (x <<< (y' &&& 0x3f).toInt64) :: st)) : Go k h os cells slots pc Ls (.int y' :: .long x :: st) :=
  Go.pure C (fun hx hc X kt => by obtain ⟨h1, rfl⟩ := hd; exact XS.lshl X hx rfl (hb hc h1) rfl kt) K
theorem Go.lshr {k : KT} (C : Ctx k l y bytes maxL ret R Z a0 EL wd wr h0 Q) {pc pc' : Nat} {x : Int64} {y' : Int32} (hd : De bytes pc (.lshr) 1 pc') (K : Go k h os cells slots pc' Ls (.long (x >>> (y' &&& 0x3f).toInt64) :: st)) : Go k h os cells slots pc Ls (.int y' :: .long x :: st) :=
  Go.pure C (fun hx hc X kt => by obtain ⟨h1, rfl⟩ := hd; exact XS.lshr X hx rfl (hb hc h1) rfl kt) K
theorem Go.lushr {k : KT} (C : Ctx k l y bytes maxL ret R Z a0 EL wd wr h0 Q) {pc pc' : Nat} {x : Int64} {y' : Int32} (hd : De bytes pc (.lushr) 1 pc') (K : Go k h os cells slots pc' Ls (.long ((x.toUInt64 >>> (y' &&& 0x3f).toInt64.toUInt64).toInt64) :: st)) : Go k h os cells slots pc Ls (.int y' :: .long x :: st) :=
  Go.pure C (fun hx hc X kt => by obtain ⟨h1, rfl⟩ := hd; exact XS.lushr X hx rfl (hb hc h1) rfl kt) K
theorem Go.idiv {k : KT} (C : Ctx k l y bytes maxL ret R Z a0 EL wd wr h0 Q) {pc pc' : Nat} {x y' : Int32} (hd : De bytes pc (.idiv) 1 pc') (hy : y' ≠ 0) (K : Go k h os cells slots pc' Ls (.int (x / y') :: st)) : Go k h os cells slots pc Ls (.int y' :: .int x :: st) :=
  Go.pure C (fun hx hc X kt => by obtain ⟨h1, rfl⟩ := hd; exact XS.idiv X hx rfl (hb hc h1) rfl hy kt) K
theorem Go.irem {k : KT} (C : Ctx k l y bytes maxL ret R Z a0 EL wd wr h0 Q) {pc pc' : Nat} {x y' : Int32} (hd : De bytes pc (.irem) 1 pc') (hy : y' ≠ 0) (K : Go k h os cells slots pc' Ls (.int (x % y') :: st)) : Go k h os cells slots pc Ls (.int y' :: .int x :: st) :=
  Go.pure C (fun hx hc X kt => by obtain ⟨h1, rfl⟩ := hd; exact XS.irem X hx rfl (hb hc h1) rfl hy (by rw [irem_eq_mod x y']; exact kt)) K
theorem Go.ldiv {k : KT} (C : Ctx k l y bytes maxL ret R Z a0 EL wd wr h0 Q) {pc pc' : Nat} {x y' : Int64} (hd : De bytes pc (.ldiv) 1 pc') (hy : y' ≠ 0) (K : Go k h os cells slots pc' Ls (.long (x / y') :: st)) : Go k h os cells slots pc Ls (.long y' :: .long x :: st) :=
  Go.pure C (fun hx hc X kt => by obtain ⟨h1, rfl⟩ := hd; exact XS.ldiv X hx rfl (hb hc h1) rfl hy kt) K
theorem Go.lcmp {k : KT} (C : Ctx k l y bytes maxL ret R Z a0 EL wd wr h0 Q) {pc pc' : Nat} {x y' : Int64} (hd : De bytes pc (.lcmp) 1 pc') (K : Go k h os cells slots pc' Ls (.int (lcmpW x y') :: st)) : Go k h os cells slots pc Ls (.long y' :: .long x :: st) :=
  Go.pure C (fun hx hc X kt => by obtain ⟨h1, rfl⟩ := hd; exact XS.lcmp X hx rfl (hb hc h1) rfl kt) K
theorem Go.ineg {k : KT} (C : Ctx k l y bytes maxL ret R Z a0 EL wd wr h0 Q) {pc pc' : Nat} {x : Int32} (hd : De bytes pc (.ineg) 1 pc') (K : Go k h os cells slots pc' Ls (.int (-x) :: st)) : Go k h os cells slots pc Ls (.int x :: st) :=
  Go.pure C (fun hx hc X kt => by obtain ⟨h1, rfl⟩ := hd; exact XS.ineg X hx rfl (hb hc h1) rfl kt) K
theorem Go.lneg {k : KT} (C : Ctx k l y bytes maxL ret R Z a0 EL wd wr h0 Q) {pc pc' : Nat} {x : Int64} (hd : De bytes pc (.lneg) 1 pc') (K : Go k h os cells slots pc' Ls (.long (-x) :: st)) : Go k h os cells slots pc Ls (.long x :: st) :=
  Go.pure C (fun hx hc X kt => by obtain ⟨h1, rfl⟩ := hd; exact XS.lneg X hx rfl (hb hc h1) rfl kt) K
theorem Go.i2l {k : KT} (C : Ctx k l y bytes maxL ret R Z a0 EL wd wr h0 Q) {pc pc' : Nat} {x : Int32} (hd : De bytes pc (.i2l) 1 pc') (K : Go k h os cells slots pc' Ls (.long (x.toInt64) :: st)) : Go k h os cells slots pc Ls (.int x :: st) :=
  Go.pure C (fun hx hc X kt => by obtain ⟨h1, rfl⟩ := hd; exact XS.i2l X hx rfl (hb hc h1) rfl kt) K
theorem Go.l2i {k : KT} (C : Ctx k l y bytes maxL ret R Z a0 EL wd wr h0 Q) {pc pc' : Nat} {x : Int64} (hd : De bytes pc (.l2i) 1 pc') (K : Go k h os cells slots pc' Ls (.int (x.toInt32) :: st)) : Go k h os cells slots pc Ls (.long x :: st) :=
  Go.pure C (fun hx hc X kt => by obtain ⟨h1, rfl⟩ := hd; exact XS.l2i X hx rfl (hb hc h1) rfl kt) K
theorem Go.i2b {k : KT} (C : Ctx k l y bytes maxL ret R Z a0 EL wd wr h0 Q) {pc pc' : Nat} {x : Int32} (hd : De bytes pc (.i2b) 1 pc') (K : Go k h os cells slots pc' Ls (.int (x.toInt8.toInt32) :: st)) : Go k h os cells slots pc Ls (.int x :: st) :=
  Go.pure C (fun hx hc X kt => by obtain ⟨h1, rfl⟩ := hd; exact XS.i2b X hx rfl (hb hc h1) rfl kt) K
theorem Go.i2s {k : KT} (C : Ctx k l y bytes maxL ret R Z a0 EL wd wr h0 Q) {pc pc' : Nat} {x : Int32} (hd : De bytes pc (.i2s) 1 pc') (K : Go k h os cells slots pc' Ls (.int (x.toInt16.toInt32) :: st)) : Go k h os cells slots pc Ls (.int x :: st) :=
  Go.pure C (fun hx hc X kt => by obtain ⟨h1, rfl⟩ := hd; exact XS.i2s X hx rfl (hb hc h1) rfl kt) K
theorem Go.i2c {k : KT} (C : Ctx k l y bytes maxL ret R Z a0 EL wd wr h0 Q) {pc pc' : Nat} {x : Int32} (hd : De bytes pc (.i2c) 1 pc') (K : Go k h os cells slots pc' Ls (.int (x.toUInt32.toUInt16.toUInt32.toInt32) :: st)) : Go k h os cells slots pc Ls (.int x :: st) :=
  Go.pure C (fun hx hc X kt => by obtain ⟨h1, rfl⟩ := hd; exact XS.i2c X hx rfl (hb hc h1) rfl kt) K
theorem Go.dup {k : KT} (C : Ctx k l y bytes maxL ret R Z a0 EL wd wr h0 Q) {pc pc' : Nat} {v : Value} (hd : De bytes pc (.dup) 1 pc') (hv : v.category = 1) (K : Go k h os cells slots pc' Ls (v :: v :: st)) : Go k h os cells slots pc Ls (v :: st) :=
  Go.pure C (fun hx hc X kt => by obtain ⟨h1, rfl⟩ := hd; exact XS.dup X hx rfl (hb hc h1) rfl hv kt) K
theorem Go.pop {k : KT} (C : Ctx k l y bytes maxL ret R Z a0 EL wd wr h0 Q) {pc pc' : Nat} {v : Value} (hd : De bytes pc (.pop) 1 pc') (hv : v.category = 1) (K : Go k h os cells slots pc' Ls (st)) : Go k h os cells slots pc Ls (v :: st) :=
  Go.pure C (fun hx hc X kt => by obtain ⟨h1, rfl⟩ := hd; exact XS.pop X hx rfl (hb hc h1) rfl hv kt) K
theorem Go.dupX1 {k : KT} (C : Ctx k l y bytes maxL ret R Z a0 EL wd wr h0 Q) {pc pc' : Nat} {v w : Value} (hd : De bytes pc (.dup_x1) 1 pc') (hv : v.category = 1) (hw : w.category = 1) (K : Go k h os cells slots pc' Ls (v :: w :: v :: st)) : Go k h os cells slots pc Ls (v :: w :: st) :=
  Go.pure C (fun hx hc X kt => by obtain ⟨h1, rfl⟩ := hd; exact XS.dupX1 X hx rfl (hb hc h1) rfl hv hw kt) K
theorem Go.swap {k : KT} (C : Ctx k l y bytes maxL ret R Z a0 EL wd wr h0 Q) {pc pc' : Nat} {v w : Value} (hd : De bytes pc (.swap) 1 pc') (hv : v.category = 1) (hw : w.category = 1) (K : Go k h os cells slots pc' Ls (w :: v :: st)) : Go k h os cells slots pc Ls (v :: w :: st) :=
  Go.pure C (fun hx hc X kt => by obtain ⟨h1, rfl⟩ := hd; exact XS.swap X hx rfl (hb hc h1) rfl hv hw kt) K
theorem Go.dup2 {k : KT} (C : Ctx k l y bytes maxL ret R Z a0 EL wd wr h0 Q) {pc pc' : Nat} {v w : Value} (hd : De bytes pc (.dup2) 1 pc') (hv : v.category = 1) (hw : w.category = 1) (K : Go k h os cells slots pc' Ls (v :: w :: v :: w :: st)) : Go k h os cells slots pc Ls (v :: w :: st) :=
  Go.pure C (fun hx hc X kt => by obtain ⟨h1, rfl⟩ := hd; exact XT.dup2 X hx rfl (hb hc h1) rfl hv hw kt) K
theorem Go.goto {k : KT} (C : Ctx k l y bytes maxL ret R Z a0 EL wd wr h0 Q) {pc pc' pcT : Nat} (hd : DeJ bytes pc .goto pc' pcT) (K : Go k h os cells slots pcT Ls st) : Go k h os cells slots pc Ls st :=
  Go.pure C (fun hx hc X kt => by obtain ⟨o, h1, -, h2, h3⟩ := hd; exact XS.goto X hx rfl rfl (hb hc h1) h2 h3 kt) K
theorem Go.ifeq {k : KT} (C : Ctx k l y bytes maxL ret R Z a0 EL wd wr h0 Q) {pc pc' pcT : Nat} {x : Int32} (hd : DeJ bytes pc (.ifCond .eq) pc' pcT) (KT : (x = 0) → Go k h os cells slots pcT Ls st) (KF : ¬ (x = 0) → Go k h os cells slots pc' Ls st) : Go k h os cells slots pc Ls (.int x :: st) := by
  obtain ⟨o, h1, rfl, h2, h3⟩ := hd
  by_cases q : (x = 0)
  · exact Go.pure C (fun hx hc X kt => XS.ifYes X hx rfl rfl (hb hc h1) rfl ((if0 _ _).trans (teq q).1) h2 h3 kt) (KT q)
  · exact Go.pure C (fun hx hc X kt => XS.ifNo X hx rfl (hb hc h1) rfl ((if0 _ _).trans (feq q).1) kt) (KF q)
theorem Go.icmpeq {k : KT} (C : Ctx k l y bytes maxL ret R Z a0 EL wd wr h0 Q) {pc pc' pcT : Nat} {x z : Int32} (hd : DeJ bytes pc (.if_icmp .eq) pc' pcT) (KT : (x = z) → Go k h os cells slots pcT Ls st) (KF : ¬ (x = z) → Go k h os cells slots pc' Ls st) : Go k h os cells slots pc Ls (.int z :: .int x :: st) := by
  obtain ⟨o, h1, rfl, h2, h3⟩ := hd
  by_cases q : (x = z)
  · exact Go.pure C (fun hx hc X kt => XS.icmpYes X hx rfl rfl (hb hc h1) rfl (teq q).1 h2 h3 kt) (KT q)
  · exact Go.pure C (fun hx hc X kt => XS.icmpNo X hx rfl (hb hc h1) rfl (feq q).1 kt) (KF q)
theorem Go.ifne {k : KT} (C : Ctx k l y bytes maxL ret R Z a0 EL wd wr h0 Q) {pc pc' pcT : Nat} {x : Int32} (hd : DeJ bytes pc (.ifCond .ne) pc' pcT) (KT : ¬ (x = 0) → Go k h os cells slots pcT Ls st) (KF : (x = 0) → Go k h os cells slots pc' Ls st) : Go k h os cells slots pc Ls (.int x :: st) := by
  obtain ⟨o, h1, rfl, h2, h3⟩ := hd
  by_cases q : ¬ (x = 0)
  · exact Go.pure C (fun hx hc X kt => XS.ifYes X hx rfl rfl (hb hc h1) rfl ((if0 _ _).trans (feq q).2) h2 h3 kt) (KT q)
  · have q := Decidable.not_not.mp q
    exact Go.pure C (fun hx hc X kt => XS.ifNo X hx rfl (hb hc h1) rfl ((if0 _ _).trans (teq q).2) kt) (KF q)
theorem Go.icmpne {k : KT} (C : Ctx k l y bytes maxL ret R Z a0 EL wd wr h0 Q) {pc pc' pcT : Nat} {x z : Int32} (hd : DeJ bytes pc (.if_icmp .ne) pc' pcT) (KT : ¬ (x = z) → Go k h os cells slots pcT Ls st) (KF : (x = z) → Go k h os cells slots pc' Ls st) : Go k h os cells slots pc Ls (.int z :: .int x :: st) := by
  obtain ⟨o, h1, rfl, h2, h3⟩ := hd
  by_cases q : ¬ (x = z)
  · exact Go.pure C (fun hx hc X kt => XS.icmpYes X hx rfl rfl (hb hc h1) rfl (feq q).2 h2 h3 kt) (KT q)
  · have q := Decidable.not_not.mp q
    exact Go.pure C (fun hx hc X kt => XS.icmpNo X hx rfl (hb hc h1) rfl (teq q).2 kt) (KF q)
theorem Go.iflt {k : KT} (C : Ctx k l y bytes maxL ret R Z a0 EL wd wr h0 Q) {pc pc' pcT : Nat} {x : Int32} (hd : DeJ bytes pc (.ifCond .lt) pc' pcT) (KT : (x < 0) → Go k h os cells slots pcT Ls st) (KF : ¬ (x < 0) → Go k h os cells slots pc' Ls st) : Go k h os cells slots pc Ls (.int x :: st) := by
  obtain ⟨o, h1, rfl, h2, h3⟩ := hd
  by_cases q : (x < 0)
  · exact Go.pure C (fun hx hc X kt => XS.ifYes X hx rfl rfl (hb hc h1) rfl ((if0 _ _).trans (tlt q).1) h2 h3 kt) (KT q)
  · exact Go.pure C (fun hx hc X kt => XS.ifNo X hx rfl (hb hc h1) rfl ((if0 _ _).trans (flt q).1) kt) (KF q)
theorem Go.icmplt {k : KT} (C : Ctx k l y bytes maxL ret R Z a0 EL wd wr h0 Q) {pc pc' pcT : Nat} {x z : Int32} (hd : DeJ bytes pc (.if_icmp .lt) pc' pcT) (KT : (x < z) → Go k h os cells slots pcT Ls st) (KF : ¬ (x < z) → Go k h os cells slots pc' Ls st) : Go k h os cells slots pc Ls (.int z :: .int x :: st) := by
  obtain ⟨o, h1, rfl, h2, h3⟩ := hd
  by_cases q : (x < z)
  · exact Go.pure C (fun hx hc X kt => XS.icmpYes X hx rfl rfl (hb hc h1) rfl (tlt q).1 h2 h3 kt) (KT q)
  · exact Go.pure C (fun hx hc X kt => XS.icmpNo X hx rfl (hb hc h1) rfl (flt q).1 kt) (KF q)
theorem Go.ifge {k : KT} (C : Ctx k l y bytes maxL ret R Z a0 EL wd wr h0 Q) {pc pc' pcT : Nat} {x : Int32} (hd : DeJ bytes pc (.ifCond .ge) pc' pcT) (KT : ¬ (x < 0) → Go k h os cells slots pcT Ls st) (KF : (x < 0) → Go k h os cells slots pc' Ls st) : Go k h os cells slots pc Ls (.int x :: st) := by
  obtain ⟨o, h1, rfl, h2, h3⟩ := hd
  by_cases q : ¬ (x < 0)
  · exact Go.pure C (fun hx hc X kt => XS.ifYes X hx rfl rfl (hb hc h1) rfl ((if0 _ _).trans (flt q).2.1) h2 h3 kt) (KT q)
  · have q := Decidable.not_not.mp q
    exact Go.pure C (fun hx hc X kt => XS.ifNo X hx rfl (hb hc h1) rfl ((if0 _ _).trans (tlt q).2.1) kt) (KF q)
theorem Go.icmpge {k : KT} (C : Ctx k l y bytes maxL ret R Z a0 EL wd wr h0 Q) {pc pc' pcT : Nat} {x z : Int32} (hd : DeJ bytes pc (.if_icmp .ge) pc' pcT) (KT : ¬ (x < z) → Go k h os cells slots pcT Ls st) (KF : (x < z) → Go k h os cells slots pc' Ls st) : Go k h os cells slots pc Ls (.int z :: .int x :: st) := by
  obtain ⟨o, h1, rfl, h2, h3⟩ := hd
  by_cases q : ¬ (x < z)
  · exact Go.pure C (fun hx hc X kt => XS.icmpYes X hx rfl rfl (hb hc h1) rfl (flt q).2.1 h2 h3 kt) (KT q)
  · have q := Decidable.not_not.mp q
    exact Go.pure C (fun hx hc X kt => XS.icmpNo X hx rfl (hb hc h1) rfl (tlt q).2.1 kt) (KF q)
theorem Go.ifgt {k : KT} (C : Ctx k l y bytes maxL ret R Z a0 EL wd wr h0 Q) {pc pc' pcT : Nat} {x : Int32} (hd : DeJ bytes pc (.ifCond .gt) pc' pcT) (KT : (0 < x) → Go k h os cells slots pcT Ls st) (KF : ¬ (0 < x) → Go k h os cells slots pc' Ls st) : Go k h os cells slots pc Ls (.int x :: st) := by
  obtain ⟨o, h1, rfl, h2, h3⟩ := hd
  by_cases q : (0 < x)
  · exact Go.pure C (fun hx hc X kt => XS.ifYes X hx rfl rfl (hb hc h1) rfl ((if0 _ _).trans (tlt q).2.2.1) h2 h3 kt) (KT q)
  · exact Go.pure C (fun hx hc X kt => XS.ifNo X hx rfl (hb hc h1) rfl ((if0 _ _).trans (flt q).2.2.1) kt) (KF q)
theorem Go.icmpgt {k : KT} (C : Ctx k l y bytes maxL ret R Z a0 EL wd wr h0 Q) {pc pc' pcT : Nat} {x z : Int32} (hd : DeJ bytes pc (.if_icmp .gt) pc' pcT) (KT : (z < x) → Go k h os cells slots pcT Ls st) (KF : ¬ (z < x) → Go k h os cells slots pc' Ls st) : Go k h os cells slots pc Ls (.int z :: .int x :: st) := by
  obtain ⟨o, h1, rfl, h2, h3⟩ := hd
  by_cases q : (z < x)
  · exact Go.pure C (fun hx hc X kt => XS.icmpYes X hx rfl rfl (hb hc h1) rfl (tlt q).2.2.1 h2 h3 kt) (KT q)
  · exact Go.pure C (fun hx hc X kt => XS.icmpNo X hx rfl (hb hc h1) rfl (flt q).2.2.1 kt) (KF q)
theorem Go.ifle {k : KT} (C : Ctx k l y bytes maxL ret R Z a0 EL wd wr h0 Q) {pc pc' pcT : Nat} {x : Int32} (hd : DeJ bytes pc (.ifCond .le) pc' pcT) (KT : ¬ (0 < x) → Go k h os cells slots pcT Ls st) (KF : (0 < x) → Go k h os cells slots pc' Ls st) : Go k h os cells slots pc Ls (.int x :: st) := by
  obtain ⟨o, h1, rfl, h2, h3⟩ := hd
  by_cases q : ¬ (0 < x)
  · exact Go.pure C (fun hx hc X kt => XS.ifYes X hx rfl rfl (hb hc h1) rfl ((if0 _ _).trans (flt q).2.2.2) h2 h3 kt) (KT q)
  · have q := Decidable.not_not.mp q
    exact Go.pure C (fun hx hc X kt => XS.ifNo X hx rfl (hb hc h1) rfl ((if0 _ _).trans (tlt q).2.2.2) kt) (KF q)
theorem Go.icmple {k : KT} (C : Ctx k l y bytes maxL ret R Z a0 EL wd wr h0 Q) {pc pc' pcT : Nat} {x z : Int32} (hd : DeJ bytes pc (.if_icmp .le) pc' pcT) (KT : ¬ (z < x) → Go k h os cells slots pcT Ls st) (KF : (z < x) → Go k h os cells slots pc' Ls st) : Go k h os cells slots pc Ls (.int z :: .int x :: st) := by
  obtain ⟨o, h1, rfl, h2, h3⟩ := hd
  by_cases q : ¬ (z < x)
  · exact Go.pure C (fun hx hc X kt => XS.icmpYes X hx rfl rfl (hb hc h1) rfl (flt q).2.2.2 h2 h3 kt) (KT q)
  · have q := Decidable.not_not.mp q
    exact Go.pure C (fun hx hc X kt => XS.icmpNo X hx rfl (hb hc h1) rfl (tlt q).2.2.2 kt) (KF q)
theorem Go.ifnullY {k : KT} (C : Ctx k l y bytes maxL ret R Z a0 EL wd wr h0 Q) {pc pc' pcT : Nat} (hd : DeJ bytes pc .ifnull pc' pcT) (K : Go k h os cells slots pcT Ls st) : Go k h os cells slots pc Ls (.null :: st) :=
  Go.pure C (fun hx hc X kt => by obtain ⟨o, h1, -, h2, h3⟩ := hd; exact XS.ifnullYes X hx rfl rfl (hb hc h1) rfl h2 h3 kt) K
theorem Go.ifnullN {k : KT} (C : Ctx k l y bytes maxL ret R Z a0 EL wd wr h0 Q) {pc pc' pcT : Nat} {b : Addr} (hd : DeJ bytes pc .ifnull pc' pcT) (K : Go k h os cells slots pc' Ls st) : Go k h os cells slots pc Ls (.ref b :: st) :=
  Go.pure C (fun hx hc X kt => by obtain ⟨o, h1, rfl, h2, h3⟩ := hd; exact XS.ifnullNo X hx rfl (hb hc h1) rfl kt) K
theorem Go.ifnonnullY {k : KT} (C : Ctx k l y bytes maxL ret R Z a0 EL wd wr h0 Q) {pc pc' pcT : Nat} {b : Addr} (hd : DeJ bytes pc .ifnonnull pc' pcT) (K : Go k h os cells slots pcT Ls st) : Go k h os cells slots pc Ls (.ref b :: st) :=
  Go.pure C (fun hx hc X kt => by obtain ⟨o, h1, -, h2, h3⟩ := hd; exact XS.ifnonnullYes X hx rfl rfl (hb hc h1) rfl h2 h3 kt) K
theorem Go.ifnonnullN {k : KT} (C : Ctx k l y bytes maxL ret R Z a0 EL wd wr h0 Q) {pc pc' pcT : Nat} (hd : DeJ bytes pc .ifnonnull pc' pcT) (K : Go k h os cells slots pc' Ls st) : Go k h os cells slots pc Ls (.null :: st) :=
  Go.pure C (fun hx hc X kt => by obtain ⟨o, h1, rfl, h2, h3⟩ := hd; exact XS.ifnonnullNo X hx rfl (hb hc h1) rfl kt) K
end Steps
section Heapy
variable {l : Launch} {y : MethodName} {bytes : ByteArray} {maxL : Nat} {ret : Option FieldType} {R : Room} {Z : State} {a0 : Array Value} {EL : List (String × Nat)} {wd : Bool} {wr : List Addr} {h0 : Heap} {Q : QT} {h : Heap} {os : List Addr} {cells slots : Nat} {Ls : Array Slot} {st : List Value}
/-- the run moves on: heap, tables and frame at hand -/
theorem mov {p : Program} {e : Env} {s : State} {m : MethodId} {args : Array Value} {below : List Frame} {meth : Method} {c : Code} {T T' : State} {locs' : List Loc} {vm' : Vm} {h' : Heap} {os' : List Addr} {cells' slots' pc pc' : Nat} {Ls' : Array Slot} {st' : List Value}
    (G : Go ⟨p, l, e, R, s, m, args, below, meth, c, Z, EL, wd, wr, Q⟩ h' os' cells' slots' pc' Ls' st') (X' : Stand p l e R (s.setVm vm') m args below meth c T' locs' cells' slots') (e' : T'.heap = h') (N' : Fr Z.heap.size locs') (S' : s.Since vm' h'.size) (w' : wd = false → s.WarmedH vm')
    (A' : CHr Z EL s.vm s.heap vm' h') (K' : Keep s.heap h' wr) (ow' : ∀ x ∈ os', Own Z s.heap EL wr vm' h' x)
    (stp : ∀ target, Steps p.tables e below (T'.setTop (mkF m pc' Ls' st')) target → Steps p.tables e below (T.setTop (mkF m pc Ls st)) target) : Fen p e below (Done Z EL wd R wr Q s) (T.setTop (mkF m pc Ls st)) :=
  Fen.of stp (G T' locs' vm' X' e' N' S' w' A' K' ow')
theorem ext0 {s : State} {h' : Heap} (E : Ext Z.heap s.heap) (K : Keep s.heap h' wr) (q : ∀ x ∈ wr, Z.heap.size ≤ x) : Ext Z.heap h' :=
  ⟨Nat.le_trans E.1 K.1, fun a c r => K.2.1 a c (E.2 a c r) fun hm => absurd (Array.getElem?_eq_some_iff.mp r).1 (Nat.not_lt.mpr (q a hm))⟩
theorem Go.old {k : KT} (C : Ctx k l y bytes maxL ret R Z a0 EL wd wr h0 Q) {pc : Nat} (K : Ext Z.heap h → Go k h os cells slots pc Ls st) : Go k h os cells slots pc Ls st := by
  obtain ⟨p, l', e, R', s, m, args, below, meth, c, Z', EL', wd', wr', Q'⟩ := k
  have C' := C
  obtain ⟨⟨rfl, rfl, rfl, rfl, rfl, rfl, rfl, rfl⟩, hx, hc, hml, hret, hlk, hnm, hZ, hown, hEL, hE, hwr⟩ := C
  intro T locs vm X e0 N S w A Kp ow
  exact K (ext0 hE Kp hwr) T locs vm X e0 N S w A Kp ow
theorem Go.kept {k : KT} (C : Ctx k l y bytes maxL ret R Z a0 EL wd wr h0 Q) {pc : Nat} (K : Keep h0 h wr → Go k h os cells slots pc Ls st) : Go k h os cells slots pc Ls st := by
  obtain ⟨p, l', e, R', s, m, args, below, meth, c, Z', EL', wd', wr', Q'⟩ := k
  obtain ⟨⟨rfl, rfl, rfl, rfl, rfl, rfl, rfl, rfl⟩, -⟩ := C
  intro T locs vm X e0 N S w A Kp ow
  exact K Kp T locs vm X e0 N S w A Kp ow
/-- fewer owned, more cells -/
theorem Go.less {k : KT} {pc : Nat} {os' : List Addr} (q : ∀ x ∈ os', x ∈ os) (G : Go k h os' cells slots pc Ls st) : Go k h os cells slots pc Ls st := by
  obtain ⟨p, l', e, R', s, m, args, below, meth, c, Z', EL', wd', wr', Q'⟩ := k
  intro T locs vm X e0 N S w A Kp ow
  exact G T locs vm X e0 N S w A Kp fun x hx => ow x (q x hx)
theorem Go.more {k : KT} {pc cells' slots' : Nat} (q1 : cells ≤ cells') (q2 : slots ≤ slots') (G : Go k h os cells' slots' pc Ls st) : Go k h os cells slots pc Ls st := by
  obtain ⟨p, l', e, R', s, m, args, below, meth, c, Z', EL', wd', wr', Q'⟩ := k
  intro T locs vm X e0 N S w A Kp ow
  exact G T locs vm (X.more q1 q2) e0 N S w A Kp ow
theorem ownPush {s : State} {vm : Vm} {h' : Heap} (E0 : Ext Z.heap s.heap) (A : CHr Z EL s.vm s.heap vm h) (Kp : Keep s.heap h wr) (E : Ext h h') (hlt : h.size < h'.size) (ow : ∀ x ∈ os, Own Z s.heap EL wr vm h x) : ∀ x ∈ h.size :: os, Own Z s.heap EL wr vm h' x := fun x hx => by
  rcases List.mem_cons.mp hx with rfl | hx
  · exact ⟨Safe.ext E A.1 (Safe.new (Nat.le_refl _)), Nat.le_trans E0.1 Kp.1, hlt, Or.inr Kp.1⟩
  · exact (ow x hx).chr (CHr.ext E A.1)
theorem Go.new {k : KT} (C : Ctx k l y bytes maxL ret R Z a0 EL wd wr h0 Q) {pc pc' i n : Nat} {Cn : String} {F : FL} {vs : List Value} (w1 : (Cond.classLink y.cls i Cn).before a0 Z = true) (w2 : (Cond.instantiable Cn n).before a0 Z = true) (w3 : (Cond.initialized Cn).before a0 Z = true)
    (LF : LaidL Z a0 Cn F) (dv : F.map (fun q => (parseFieldDescriptor q.2.2).map defaultValue) = vs.map some) (hd : De bytes pc (.new i) 3 pc') (hc : cells + 1 ≤ R.cells) (hl : slots + n ≤ R.slots)
    (K : ∀ (b : Addr) (h' : Heap), b = h.size → Keep h h' [] → Obj Z h' b Cn F vs → Go k h' (b :: os) (cells + 1) (slots + n) pc' Ls (.ref b :: st)) : Go k h os cells slots pc Ls st := by
  obtain ⟨p, l', e, R', s, m, args, below, meth, c, Z', EL', wd', wr', Q'⟩ := k
  obtain ⟨⟨rfl, rfl, rfl, rfl, rfl, rfl, rfl, rfl⟩, hx, hc', hml, hret, hlk, hnm, hZ, hown, hEL, hE, hwr⟩ := C
  obtain ⟨h1, rfl⟩ := hd
  intro T locs vm X e0 N S w A Kp ow
  have hZ' : Z'.Warmed39 (s.setVm vm).vm := State.Warmed39.trans (t := s) hZ S.1
  have hown' : (s.setVm vm).vm.findClass y.cls = some m.cls := (S.1.alike.findClass _ _).trans hown
  obtain ⟨T', h', X', e', E, Ex, D, -, stp⟩ := newO X hx hZ' hown' w1 w2 w3 e0 (g := mkF m pc Ls st) rfl (hb hc' h1) hc hl
  exact mov (K h.size h' rfl (Keep.ofExt E) (Obj.new (A := Ex) D LF dv)) X' e' N (Since.up S E.1) w (A.trans (CHr.ext E A.1)) (Kp.ext E) (ownPush hE A Kp E Ex.lt ow) stp
theorem Go.newarray {k : KT} (C : Ctx k l y bytes maxL ret R Z a0 EL wd wr h0 Q) {pc pc' : Nat} {aty : ArrayType} {z : Int32} (w1 : (Cond.arrayClass (newarray.typeOf aty)).before a0 Z = true) (hd : De bytes pc (.newarray aty) 2 pc') (hz : ¬ z < 0) (n : Nat) (hn : z.toNatClampNeg = n) {cap : Nat} (hcap : n ≤ cap) (hb8 : cap * 8 ≤ 536870912)
    (hc : cells + 1 ≤ R.cells) (hl : slots + cap ≤ R.slots)
    (K : ∀ (b : Addr) (h' : Heap), b = h.size → Keep h h' [] → Av Z h' b (newarray.typeOf aty) (List.replicate n (defaultValue (newarray.typeOf aty))) → Go k h' (b :: os) (cells + 1) (slots + cap) pc' Ls (.ref b :: st)) : Go k h os cells slots pc Ls (.int z :: st) := by
  obtain ⟨p, l', e, R', s, m, args, below, meth, c, Z', EL', wd', wr', Q'⟩ := k
  obtain ⟨⟨rfl, rfl, rfl, rfl, rfl, rfl, rfl, rfl⟩, hx, hc', hml, hret, hlk, hnm, hZ, hown, hEL, hE, hwr⟩ := C
  obtain ⟨h1, rfl⟩ := hd
  intro T locs vm X e0 N S w A Kp ow
  have hZ' : Z'.Warmed39 (s.setVm vm).vm := State.Warmed39.trans (t := s) hZ S.1
  obtain ⟨T', h', cA, X', e', E, Ar, stp⟩ := newP X hx hZ' w1 e0 (g := mkF m pc Ls (.int z :: st)) rfl (hb hc' h1) rfl hz (cap := cap) (by rw [hn]; exact hcap) hb8 hc hl
  exact mov (K h.size h' rfl (Keep.ofExt E) (Av.new Ar hz hn)) X' e' N (Since.up S E.1) w (A.trans (CHr.ext E A.1)) (Kp.ext E) (ownPush hE A Kp E Ar.lt ow) stp
theorem Go.getF {k : KT} (C : Ctx k l y bytes maxL ret R Z a0 EL wd wr h0 Q) {pc pc' i : Nat} {a : Addr} {Cn R0 host : String} {F : FL} {vs : List Value} {v : Value} {q : String × String × String} (O : Obj Z h a Cn F vs) (j : Nat) (hq : F[j]? = some q) (hv : vs[j]? = some v)
    (w : (Cond.fieldLink y.cls i R0 q.2.1 q.2.2).before a0 Z = true ∨ (Cond.fieldLinkNest y.cls i R0 q.2.1 q.2.2 host).before a0 Z = true) (via : Via Z R0 q.1 q.2.1 q.2.2) (hd : De bytes pc (.getfield i) 3 pc') (K : Go k h os cells slots pc' Ls (v :: st)) : Go k h os cells slots pc Ls (.ref a :: st) := by
  obtain ⟨p, l', e, R', s, m, args, below, meth, c, Z', EL', wd', wr', Q'⟩ := k
  obtain ⟨⟨rfl, rfl, rfl, rfl, rfl, rfl, rfl, rfl⟩, hx, hc', hml, hret, hlk, hnm, hZ, hown, hEL, hE, hwr⟩ := C
  obtain ⟨h1, rfl⟩ := hd
  intro T locs vm X e0 N S w' A Kp ow
  have hZ' : Z'.Warmed39 (s.setVm vm).vm := State.Warmed39.trans (t := s) hZ S.1
  have hown' : (s.setVm vm).vm.findClass y.cls = some m.cls := (S.1.alike.findClass _ _).trans hown
  obtain ⟨T', X', e', stp⟩ := RoadKit.getF X hx hZ' hown' w via e0 (O.2.2 j q v hq hv) (g := mkF m pc Ls (.ref a :: st)) rfl rfl (hb hc' h1)
  exact mov K X' e' N S w' A Kp ow stp
theorem Go.getS {k : KT} (C : Ctx k l y bytes maxL ret R Z a0 EL wd wr h0 Q) {pc pc' i : Nat} {R0 O n d host : String} {v : Value} (F : Sta Z Z.heap O n d v)
    (w : (Cond.fieldLink y.cls i R0 n d).before a0 Z = true ∨ (Cond.fieldLinkNest y.cls i R0 n d host).before a0 Z = true) (via : Via Z R0 O n d) (hd : De bytes pc (.getstatic i) 3 pc') (K : Go k h os cells slots pc' Ls (v :: st)) : Go k h os cells slots pc Ls st := by
  obtain ⟨p, l', e, R', s, m, args, below, meth, c, Z', EL', wd', wr', Q'⟩ := k
  obtain ⟨⟨rfl, rfl, rfl, rfl, rfl, rfl, rfl, rfl⟩, hx, hc', hml, hret, hlk, hnm, hZ, hown, hEL, hE, hwr⟩ := C
  obtain ⟨h1, rfl⟩ := hd
  intro T locs vm X e0 N S w' A Kp ow
  have hZ' : Z'.Warmed39 (s.setVm vm).vm := State.Warmed39.trans (t := s) hZ S.1
  have hown' : (s.setVm vm).vm.findClass y.cls = some m.cls := (S.1.alike.findClass _ _).trans hown
  obtain ⟨T', X', e', stp⟩ := getS2 X hx hZ' hown' w via e0 (F.ext (ext0 hE Kp hwr)) (g := mkF m pc Ls st) rfl (hb hc' h1)
  exact mov K X' e' N S w' A Kp ow stp
theorem Go.putF {k : KT} (C : Ctx k l y bytes maxL ret R Z a0 EL wd wr h0 Q) {pc pc' i kk : Nat} {a : Addr} {Cn R0 : String} {F : FL} {vs vs' : List Value} {v v' : Value} {ty : FieldType} {q : String × String × String} (O : Obj Z h a Cn F vs) (ho : a ∈ os) (j : Nat) (hq : F[j]? = some q)
    (w : (Cond.fieldLink y.cls i R0 q.2.1 q.2.2).before a0 Z = true) (via : Via Z R0 q.1 q.2.1 q.2.2) (Lw : (Cond.lays Cn q.1 q.2.1 q.2.2).before a0 Z = true ∨ ((Cond.laysFinal Cn q.1 q.2.1 q.2.2).before a0 Z = true ∧ y.cls = q.1 ∧ y.name = "<init>")) (wi : (Cond.instantiable Cn kk).before a0 Z = true)
    (LF : LaidL Z a0 Cn F) (nd : (F.map (fun q => q.2.1)).Nodup) (hty : parseFieldDescriptor q.2.2 = some ty) (hn : narrow ty v = v') (hf : fits ty v' = true) (hvs : vs.set j v' = vs') (hd : De bytes pc (.putfield i) 3 pc')
    (K : ∀ h' : Heap, Keep h h' [a] → Obj Z h' a Cn F vs' → Go k h' os cells slots pc' Ls st) : Go k h os cells slots pc Ls (v :: .ref a :: st) := by
  obtain ⟨p, l', e, R', s, m, args, below, meth, c, Z', EL', wd', wr', Q'⟩ := k
  obtain ⟨⟨rfl, rfl, rfl, rfl, rfl, rfl, rfl, rfl⟩, hx, hc', hml, hret, hlk, hnm, hZ, hown, hEL, hE, hwr⟩ := C
  obtain ⟨h1, rfl⟩ := hd
  intro T locs vm X e0 N S w' A Kp ow
  have hZ' : Z'.Warmed39 (s.setVm vm).vm := State.Warmed39.trans (t := s) hZ S.1
  have hown' : (s.setVm vm).vm.findClass y.cls = some m.cls := (S.1.alike.findClass _ _).trans hown
  have hj : j < vs.length := by rw [← O.2.1]; exact (List.getElem?_eq_some_iff.mp hq).1
  obtain ⟨T', h', X', e', W, stp⟩ := putFN X hx hZ' hown' w via e0 (O.2.2 j q _ hq (List.getElem?_eq_getElem hj)) O.1 (Lw.imp id fun z => ⟨z.1, z.2.1, hnm.trans z.2.2⟩) wi hty hn hf (g := mkF m pc Ls (v :: .ref a :: st)) rfl rfl (hb hc' h1)
  have KW := Keep.of_wr W
  have os1 : ∀ x ∈ [a], x ∈ os := fun x hx => by cases List.mem_singleton.mp hx; exact ho
  have Ch := CHr.keep KW (safeOs ow os1) A.1
  subst hvs
  exact mov (K h' KW (O.put W hq LF nd)) X' e' (Fr.snoc X' N (ow a ho).2.1) (Since.up S KW.1) w' (A.trans Ch) (keepOs Kp KW ow os1) (fun x hx => (ow x hx).chr Ch) stp
theorem av_in {a : Addr} {ty : FieldType} {vs : List Value} {c : Cell} {z j : Int32} {i : Nat} (r2 : c.slots.size = z.toNatClampNeg) (e : z.toNatClampNeg = vs.length) (hj : ¬ j < 0) (hi : j.toNatClampNeg = i) (hlt : i < vs.length) : ¬ (j < 0 ∨ c.slots.size ≤ j.toNatClampNeg) := by
  rintro (q | q)
  · exact hj q
  · rw [r2, e, hi] at q; omega
theorem has_at {c : Cell} {vs : List Value} {d : Value} (H : Has c vs d) {i : Nat} {v : Value} (hi : i < c.slots.size) (hv : vs[i]? = some v) : c.slots[i]? = some v := by
  rw [H i hi, List.getD_eq_getElem?_getD, hv]; rfl
theorem Go.arraylength {k : KT} (C : Ctx k l y bytes maxL ret R Z a0 EL wd wr h0 Q) {pc pc' : Nat} {a : Addr} {ty : FieldType} {vs : List Value} (V : Av Z h a ty vs) (v : Int32) (hv : vs.length.toInt32 = v) (hd : De bytes pc .arraylength 1 pc') (K : Go k h os cells slots pc' Ls (.int v :: st)) : Go k h os cells slots pc Ls (.ref a :: st) := by
  obtain ⟨p, l', e, R', s, m, args, below, meth, c, Z', EL', wd', wr', Q'⟩ := k
  obtain ⟨⟨rfl, rfl, rfl, rfl, rfl, rfl, rfl, rfl⟩, hx, hc', hml, hret, hlk, hnm, hZ, hown, hEL, hE, hwr⟩ := C
  obtain ⟨h1, rfl⟩ := hd
  intro T locs vm X e0 N S w' A Kp ow
  have hZ' : Z'.Warmed39 (s.setVm vm).vm := State.Warmed39.trans (t := s) hZ S.1
  obtain ⟨kc, z, ⟨cl, Ar, r1, r2, r3, H, G⟩, ez⟩ := V
  refine Fen.of (fun t kt => X.arraylength hx (by rw [e0]; exact Ar.1) (State.isArrayOf_alike hZ'.alike Ar.2.1) (g := mkF m pc Ls (.ref a :: st)) rfl rfl (hb hc' h1) t ?_) (K T locs vm X e0 N S w' A Kp ow)
  rw [r2, ez, hv]; exact kt
theorem Go.iaload {k : KT} (C : Ctx k l y bytes maxL ret R Z a0 EL wd wr h0 Q) {pc pc' : Nat} {a : Addr} {vs : List Value} {j : Int32} {v : Value} (V : Av Z h a .int vs) (i : Nat) (hj : ¬ j < 0) (hi : j.toNatClampNeg = i) (hv : vs[i]? = some v) (hd : De bytes pc .iaload 1 pc') (K : Go k h os cells slots pc' Ls (v :: st)) : Go k h os cells slots pc Ls (.int j :: .ref a :: st) := by
  obtain ⟨p, l', e, R', s, m, args, below, meth, c, Z', EL', wd', wr', Q'⟩ := k
  obtain ⟨⟨rfl, rfl, rfl, rfl, rfl, rfl, rfl, rfl⟩, hx, hc', hml, hret, hlk, hnm, hZ, hown, hEL, hE, hwr⟩ := C
  obtain ⟨h1, rfl⟩ := hd
  intro T locs vm X e0 N S w' A Kp ow
  have hZ' : Z'.Warmed39 (s.setVm vm).vm := State.Warmed39.trans (t := s) hZ S.1
  obtain ⟨kc, z, ⟨cl, Ar, r1, r2, r3, H, G⟩, ez⟩ := V
  have hlt := (List.getElem?_eq_some_iff.mp hv).1
  refine Fen.of (fun t kt => X.iaload hx (j := j) (v := v) (by rw [e0]; exact Ar.1) (State.isArrayOf_alike hZ'.alike Ar.2.1) Ar.2.2 (av_in (a := a) (ty := .int) (vs := vs) r2 ez hj hi hlt) (by rw [hi]; exact has_at H (by rw [r2, ez]; exact hlt) hv) (g := mkF m pc Ls (.int j :: .ref a :: st)) rfl rfl (hb hc' h1) t kt) (K T locs vm X e0 N S w' A Kp ow)
theorem Go.laload {k : KT} (C : Ctx k l y bytes maxL ret R Z a0 EL wd wr h0 Q) {pc pc' : Nat} {a : Addr} {vs : List Value} {j : Int32} {v : Value} (V : Av Z h a .long vs) (i : Nat) (hj : ¬ j < 0) (hi : j.toNatClampNeg = i) (hv : vs[i]? = some v) (hd : De bytes pc .laload 1 pc') (K : Go k h os cells slots pc' Ls (v :: st)) : Go k h os cells slots pc Ls (.int j :: .ref a :: st) := by
  obtain ⟨p, l', e, R', s, m, args, below, meth, c, Z', EL', wd', wr', Q'⟩ := k
  obtain ⟨⟨rfl, rfl, rfl, rfl, rfl, rfl, rfl, rfl⟩, hx, hc', hml, hret, hlk, hnm, hZ, hown, hEL, hE, hwr⟩ := C
  obtain ⟨h1, rfl⟩ := hd
  intro T locs vm X e0 N S w' A Kp ow
  have hZ' : Z'.Warmed39 (s.setVm vm).vm := State.Warmed39.trans (t := s) hZ S.1
  obtain ⟨kc, z, ⟨cl, Ar, r1, r2, r3, H, G⟩, ez⟩ := V
  have hlt := (List.getElem?_eq_some_iff.mp hv).1
  refine Fen.of (fun t kt => X.laload hx (j := j) (v := v) (by rw [e0]; exact Ar.1) (State.isArrayOf_alike hZ'.alike Ar.2.1) Ar.2.2 (av_in (a := a) (ty := .long) (vs := vs) r2 ez hj hi hlt) (by rw [hi]; exact has_at H (by rw [r2, ez]; exact hlt) hv) (g := mkF m pc Ls (.int j :: .ref a :: st)) rfl rfl (hb hc' h1) t kt) (K T locs vm X e0 N S w' A Kp ow)
theorem Go.caload {k : KT} (C : Ctx k l y bytes maxL ret R Z a0 EL wd wr h0 Q) {pc pc' : Nat} {a : Addr} {vs : List Value} {j : Int32} {v : Value} (V : Av Z h a .char vs) (i : Nat) (hj : ¬ j < 0) (hi : j.toNatClampNeg = i) (hv : vs[i]? = some v) (hd : De bytes pc .caload 1 pc') (K : Go k h os cells slots pc' Ls (v :: st)) : Go k h os cells slots pc Ls (.int j :: .ref a :: st) := by
  obtain ⟨p, l', e, R', s, m, args, below, meth, c, Z', EL', wd', wr', Q'⟩ := k
  obtain ⟨⟨rfl, rfl, rfl, rfl, rfl, rfl, rfl, rfl⟩, hx, hc', hml, hret, hlk, hnm, hZ, hown, hEL, hE, hwr⟩ := C
  obtain ⟨h1, rfl⟩ := hd
  intro T locs vm X e0 N S w' A Kp ow
  have hZ' : Z'.Warmed39 (s.setVm vm).vm := State.Warmed39.trans (t := s) hZ S.1
  obtain ⟨kc, z, ⟨cl, Ar, r1, r2, r3, H, G⟩, ez⟩ := V
  have hlt := (List.getElem?_eq_some_iff.mp hv).1
  refine Fen.of (fun t kt => X.caload hx (j := j) (v := v) (by rw [e0]; exact Ar.1) (State.isArrayOf_alike hZ'.alike Ar.2.1) Ar.2.2 (av_in (a := a) (ty := .char) (vs := vs) r2 ez hj hi hlt) (by rw [hi]; exact has_at H (by rw [r2, ez]; exact hlt) hv) (g := mkF m pc Ls (.int j :: .ref a :: st)) rfl rfl (hb hc' h1) t kt) (K T locs vm X e0 N S w' A Kp ow)
theorem Go.saload {k : KT} (C : Ctx k l y bytes maxL ret R Z a0 EL wd wr h0 Q) {pc pc' : Nat} {a : Addr} {vs : List Value} {j : Int32} {v : Value} (V : Av Z h a .short vs) (i : Nat) (hj : ¬ j < 0) (hi : j.toNatClampNeg = i) (hv : vs[i]? = some v) (hd : De bytes pc .saload 1 pc') (K : Go k h os cells slots pc' Ls (v :: st)) : Go k h os cells slots pc Ls (.int j :: .ref a :: st) := by
  obtain ⟨p, l', e, R', s, m, args, below, meth, c, Z', EL', wd', wr', Q'⟩ := k
  obtain ⟨⟨rfl, rfl, rfl, rfl, rfl, rfl, rfl, rfl⟩, hx, hc', hml, hret, hlk, hnm, hZ, hown, hEL, hE, hwr⟩ := C
  obtain ⟨h1, rfl⟩ := hd
  intro T locs vm X e0 N S w' A Kp ow
  have hZ' : Z'.Warmed39 (s.setVm vm).vm := State.Warmed39.trans (t := s) hZ S.1
  obtain ⟨kc, z, ⟨cl, Ar, r1, r2, r3, H, G⟩, ez⟩ := V
  have hlt := (List.getElem?_eq_some_iff.mp hv).1
  refine Fen.of (fun t kt => X.saload hx (j := j) (v := v) (by rw [e0]; exact Ar.1) (State.isArrayOf_alike hZ'.alike Ar.2.1) Ar.2.2 (av_in (a := a) (ty := .short) (vs := vs) r2 ez hj hi hlt) (by rw [hi]; exact has_at H (by rw [r2, ez]; exact hlt) hv) (g := mkF m pc Ls (.int j :: .ref a :: st)) rfl rfl (hb hc' h1) t kt) (K T locs vm X e0 N S w' A Kp ow)
theorem Go.baload {k : KT} (C : Ctx k l y bytes maxL ret R Z a0 EL wd wr h0 Q) {pc pc' : Nat} {a : Addr} {vs : List Value} {j : Int32} {v : Value} (V : Av Z h a .byte vs) (i : Nat) (hj : ¬ j < 0) (hi : j.toNatClampNeg = i) (hv : vs[i]? = some v) (hd : De bytes pc .baload 1 pc') (K : Go k h os cells slots pc' Ls (v :: st)) : Go k h os cells slots pc Ls (.int j :: .ref a :: st) := by
  obtain ⟨p, l', e, R', s, m, args, below, meth, c, Z', EL', wd', wr', Q'⟩ := k
  obtain ⟨⟨rfl, rfl, rfl, rfl, rfl, rfl, rfl, rfl⟩, hx, hc', hml, hret, hlk, hnm, hZ, hown, hEL, hE, hwr⟩ := C
  obtain ⟨h1, rfl⟩ := hd
  intro T locs vm X e0 N S w' A Kp ow
  have hZ' : Z'.Warmed39 (s.setVm vm).vm := State.Warmed39.trans (t := s) hZ S.1
  obtain ⟨kc, z, ⟨cl, Ar, r1, r2, r3, H, G⟩, ez⟩ := V
  have hlt := (List.getElem?_eq_some_iff.mp hv).1
  refine Fen.of (fun t kt => X.baloadBytes hx (j := j) (v := v) (by rw [e0]; exact Ar.1) (State.isArrayOf_alike hZ'.alike Ar.2.1) Ar.2.2 (av_in (a := a) (ty := .byte) (vs := vs) r2 ez hj hi hlt) (by rw [hi]; exact has_at H (by rw [r2, ez]; exact hlt) hv) (g := mkF m pc Ls (.int j :: .ref a :: st)) rfl rfl (hb hc' h1) t kt) (K T locs vm X e0 N S w' A Kp ow)
theorem Go.aaload {k : KT} (C : Ctx k l y bytes maxL ret R Z a0 EL wd wr h0 Q) {pc pc' : Nat} {a : Addr} {vs : List Value} {j : Int32} {v : Value} {ty : FieldType} (hty : ty.isReference = true) (V : Av Z h a ty vs) (i : Nat) (hj : ¬ j < 0) (hi : j.toNatClampNeg = i) (hv : vs[i]? = some v) (hd : De bytes pc .aaload 1 pc') (K : Go k h os cells slots pc' Ls (v :: st)) : Go k h os cells slots pc Ls (.int j :: .ref a :: st) := by
  obtain ⟨p, l', e, R', s, m, args, below, meth, c, Z', EL', wd', wr', Q'⟩ := k
  obtain ⟨⟨rfl, rfl, rfl, rfl, rfl, rfl, rfl, rfl⟩, hx, hc', hml, hret, hlk, hnm, hZ, hown, hEL, hE, hwr⟩ := C
  obtain ⟨h1, rfl⟩ := hd
  intro T locs vm X e0 N S w' A Kp ow
  have hZ' : Z'.Warmed39 (s.setVm vm).vm := State.Warmed39.trans (t := s) hZ S.1
  obtain ⟨kc, z, ⟨cl, Ar, r1, r2, r3, H, G⟩, ez⟩ := V
  have hlt := (List.getElem?_eq_some_iff.mp hv).1
  refine Fen.of (fun t kt => X.aaload hx (j := j) (v := v) (by rw [e0]; exact Ar.1) (State.isArrayOf_alike hZ'.alike Ar.2.1) hty Ar.2.2 (av_in (a := a) (ty := ty) (vs := vs) r2 ez hj hi hlt) (by rw [hi]; exact has_at H (by rw [r2, ez]; exact hlt) hv) (g := mkF m pc Ls (.int j :: .ref a :: st)) rfl rfl (hb hc' h1) t kt) (K T locs vm X e0 N S w' A Kp ow)
theorem Go.iastore {k : KT} (C : Ctx k l y bytes maxL ret R Z a0 EL wd wr h0 Q) {pc pc' : Nat} {a : Addr} {vs vs' : List Value} {j : Int32} {x : Int32} (V : Av Z h a .int vs) (ho : a ∈ os) (i : Nat) (hj : ¬ j < 0) (hi : j.toNatClampNeg = i) (hlt : i < vs.length) (hvs : vs.set i (.int x) = vs') (hd : De bytes pc .iastore 1 pc')
    (K : ∀ h' : Heap, Keep h h' [a] → Av Z h' a .int vs' → Go k h' os cells slots pc' Ls st) : Go k h os cells slots pc Ls (.int x :: .int j :: .ref a :: st) := by
  obtain ⟨p, l', e, R', s, m, args, below, meth, c, Z', EL', wd', wr', Q'⟩ := k
  obtain ⟨⟨rfl, rfl, rfl, rfl, rfl, rfl, rfl, rfl⟩, hx, hc', hml, hret, hlk, hnm, hZ, hown, hEL, hE, hwr⟩ := C
  obtain ⟨h1, rfl⟩ := hd
  intro T locs vm X e0 N S w' A Kp ow
  have hZ' : Z'.Warmed39 (s.setVm vm).vm := State.Warmed39.trans (t := s) hZ S.1
  obtain ⟨kc, z, ⟨cl, Ar, r1, r2, r3, H, G⟩, ez⟩ := V
  obtain ⟨T', h', X', e', W, stp⟩ := stI X hx hZ' e0 Ar (j := j) (av_in (a := a) (ty := .int) (vs := vs) r2 ez hj hi hlt) (g := mkF m pc Ls (.int x :: .int j :: .ref a :: st)) rfl rfl (hb hc' h1)
  have KW := Keep.of_wr W
  have os1 : ∀ x ∈ [a], x ∈ os := fun x hx => by cases List.mem_singleton.mp hx; exact ho
  have Ch := CHr.keep KW (safeOs ow os1) A.1
  subst hvs
  exact mov (K h' KW ⟨kc, z, Arv.set Ar r1 r2 r3 H G rfl W i hi hlt, by simpa using ez⟩) X' e' (Fr.snoc X' N (ow a ho).2.1) (Since.up S KW.1) w' (A.trans Ch) (keepOs Kp KW ow os1) (fun x hx => (ow x hx).chr Ch) stp
theorem Go.lastore {k : KT} (C : Ctx k l y bytes maxL ret R Z a0 EL wd wr h0 Q) {pc pc' : Nat} {a : Addr} {vs vs' : List Value} {j : Int32} {x : Int64} (V : Av Z h a .long vs) (ho : a ∈ os) (i : Nat) (hj : ¬ j < 0) (hi : j.toNatClampNeg = i) (hlt : i < vs.length) (hvs : vs.set i (.long x) = vs') (hd : De bytes pc .lastore 1 pc')
    (K : ∀ h' : Heap, Keep h h' [a] → Av Z h' a .long vs' → Go k h' os cells slots pc' Ls st) : Go k h os cells slots pc Ls (.long x :: .int j :: .ref a :: st) := by
  obtain ⟨p, l', e, R', s, m, args, below, meth, c, Z', EL', wd', wr', Q'⟩ := k
  obtain ⟨⟨rfl, rfl, rfl, rfl, rfl, rfl, rfl, rfl⟩, hx, hc', hml, hret, hlk, hnm, hZ, hown, hEL, hE, hwr⟩ := C
  obtain ⟨h1, rfl⟩ := hd
  intro T locs vm X e0 N S w' A Kp ow
  have hZ' : Z'.Warmed39 (s.setVm vm).vm := State.Warmed39.trans (t := s) hZ S.1
  obtain ⟨kc, z, ⟨cl, Ar, r1, r2, r3, H, G⟩, ez⟩ := V
  obtain ⟨T', h', X', e', W, stp⟩ := stJ X hx hZ' e0 Ar (j := j) (av_in (a := a) (ty := .long) (vs := vs) r2 ez hj hi hlt) (g := mkF m pc Ls (.long x :: .int j :: .ref a :: st)) rfl rfl (hb hc' h1)
  have KW := Keep.of_wr W
  have os1 : ∀ x ∈ [a], x ∈ os := fun x hx => by cases List.mem_singleton.mp hx; exact ho
  have Ch := CHr.keep KW (safeOs ow os1) A.1
  subst hvs
  exact mov (K h' KW ⟨kc, z, Arv.set Ar r1 r2 r3 H G rfl W i hi hlt, by simpa using ez⟩) X' e' (Fr.snoc X' N (ow a ho).2.1) (Since.up S KW.1) w' (A.trans Ch) (keepOs Kp KW ow os1) (fun x hx => (ow x hx).chr Ch) stp
theorem Go.castore {k : KT} (C : Ctx k l y bytes maxL ret R Z a0 EL wd wr h0 Q) {pc pc' : Nat} {a : Addr} {vs vs' : List Value} {j : Int32} {x x' : Int32} (V : Av Z h a .char vs) (ho : a ∈ os) (i : Nat) (hj : ¬ j < 0) (hi : j.toNatClampNeg = i) (hlt : i < vs.length) (hn : nar .char x = x') (hvs : vs.set i (.int x') = vs') (hd : De bytes pc .castore 1 pc')
    (K : ∀ h' : Heap, Keep h h' [a] → Av Z h' a .char vs' → Go k h' os cells slots pc' Ls st) : Go k h os cells slots pc Ls (.int x :: .int j :: .ref a :: st) := by
  obtain ⟨p, l', e, R', s, m, args, below, meth, c, Z', EL', wd', wr', Q'⟩ := k
  obtain ⟨⟨rfl, rfl, rfl, rfl, rfl, rfl, rfl, rfl⟩, hx, hc', hml, hret, hlk, hnm, hZ, hown, hEL, hE, hwr⟩ := C
  obtain ⟨h1, rfl⟩ := hd
  intro T locs vm X e0 N S w' A Kp ow
  have hZ' : Z'.Warmed39 (s.setVm vm).vm := State.Warmed39.trans (t := s) hZ S.1
  obtain ⟨kc, z, ⟨cl, Ar, r1, r2, r3, H, G⟩, ez⟩ := V
  obtain ⟨T', h', X', e', W, stp⟩ := stC X hx hZ' e0 Ar (j := j) (av_in (a := a) (ty := .char) (vs := vs) r2 ez hj hi hlt) (g := mkF m pc Ls (.int x :: .int j :: .ref a :: st)) rfl rfl (hb hc' h1)
  have KW := Keep.of_wr W
  have os1 : ∀ x ∈ [a], x ∈ os := fun x hx => by cases List.mem_singleton.mp hx; exact ho
  have Ch := CHr.keep KW (safeOs ow os1) A.1
  subst hn
  subst hvs
  exact mov (K h' KW ⟨kc, z, Arv.set Ar r1 r2 r3 H G (fits_nar_char x) W i hi hlt, by simpa using ez⟩) X' e' (Fr.snoc X' N (ow a ho).2.1) (Since.up S KW.1) w' (A.trans Ch) (keepOs Kp KW ow os1) (fun x hx => (ow x hx).chr Ch) stp
theorem Go.sastore {k : KT} (C : Ctx k l y bytes maxL ret R Z a0 EL wd wr h0 Q) {pc pc' : Nat} {a : Addr} {vs vs' : List Value} {j : Int32} {x x' : Int32} (V : Av Z h a .short vs) (ho : a ∈ os) (i : Nat) (hj : ¬ j < 0) (hi : j.toNatClampNeg = i) (hlt : i < vs.length) (hn : nar .short x = x') (hvs : vs.set i (.int x') = vs') (hd : De bytes pc .sastore 1 pc')
    (K : ∀ h' : Heap, Keep h h' [a] → Av Z h' a .short vs' → Go k h' os cells slots pc' Ls st) : Go k h os cells slots pc Ls (.int x :: .int j :: .ref a :: st) := by
  obtain ⟨p, l', e, R', s, m, args, below, meth, c, Z', EL', wd', wr', Q'⟩ := k
  obtain ⟨⟨rfl, rfl, rfl, rfl, rfl, rfl, rfl, rfl⟩, hx, hc', hml, hret, hlk, hnm, hZ, hown, hEL, hE, hwr⟩ := C
  obtain ⟨h1, rfl⟩ := hd
  intro T locs vm X e0 N S w' A Kp ow
  have hZ' : Z'.Warmed39 (s.setVm vm).vm := State.Warmed39.trans (t := s) hZ S.1
  obtain ⟨kc, z, ⟨cl, Ar, r1, r2, r3, H, G⟩, ez⟩ := V
  obtain ⟨T', h', X', e', W, stp⟩ := stS X hx hZ' e0 Ar (j := j) (av_in (a := a) (ty := .short) (vs := vs) r2 ez hj hi hlt) (g := mkF m pc Ls (.int x :: .int j :: .ref a :: st)) rfl rfl (hb hc' h1)
  have KW := Keep.of_wr W
  have os1 : ∀ x ∈ [a], x ∈ os := fun x hx => by cases List.mem_singleton.mp hx; exact ho
  have Ch := CHr.keep KW (safeOs ow os1) A.1
  subst hn
  subst hvs
  exact mov (K h' KW ⟨kc, z, Arv.set Ar r1 r2 r3 H G (fits_nar_short x) W i hi hlt, by simpa using ez⟩) X' e' (Fr.snoc X' N (ow a ho).2.1) (Since.up S KW.1) w' (A.trans Ch) (keepOs Kp KW ow os1) (fun x hx => (ow x hx).chr Ch) stp
theorem Go.bastore {k : KT} (C : Ctx k l y bytes maxL ret R Z a0 EL wd wr h0 Q) {pc pc' : Nat} {a : Addr} {vs vs' : List Value} {j : Int32} {x x' : Int32} (V : Av Z h a .byte vs) (ho : a ∈ os) (i : Nat) (hj : ¬ j < 0) (hi : j.toNatClampNeg = i) (hlt : i < vs.length) (hn : nar .byte x = x') (hvs : vs.set i (.int x') = vs') (hd : De bytes pc .bastore 1 pc')
    (K : ∀ h' : Heap, Keep h h' [a] → Av Z h' a .byte vs' → Go k h' os cells slots pc' Ls st) : Go k h os cells slots pc Ls (.int x :: .int j :: .ref a :: st) := by
  obtain ⟨p, l', e, R', s, m, args, below, meth, c, Z', EL', wd', wr', Q'⟩ := k
  obtain ⟨⟨rfl, rfl, rfl, rfl, rfl, rfl, rfl, rfl⟩, hx, hc', hml, hret, hlk, hnm, hZ, hown, hEL, hE, hwr⟩ := C
  obtain ⟨h1, rfl⟩ := hd
  intro T locs vm X e0 N S w' A Kp ow
  have hZ' : Z'.Warmed39 (s.setVm vm).vm := State.Warmed39.trans (t := s) hZ S.1
  obtain ⟨kc, z, ⟨cl, Ar, r1, r2, r3, H, G⟩, ez⟩ := V
  obtain ⟨T', h', X', e', W, stp⟩ := stB X hx hZ' e0 Ar (j := j) (av_in (a := a) (ty := .byte) (vs := vs) r2 ez hj hi hlt) (g := mkF m pc Ls (.int x :: .int j :: .ref a :: st)) rfl rfl (hb hc' h1)
  have KW := Keep.of_wr W
  have os1 : ∀ x ∈ [a], x ∈ os := fun x hx => by cases List.mem_singleton.mp hx; exact ho
  have Ch := CHr.keep KW (safeOs ow os1) A.1
  subst hn
  subst hvs
  exact mov (K h' KW ⟨kc, z, Arv.set Ar r1 r2 r3 H G (fits_nar_byte x) W i hi hlt, by simpa using ez⟩) X' e' (Fr.snoc X' N (ow a ho).2.1) (Since.up S KW.1) w' (A.trans Ch) (keepOs Kp KW ow os1) (fun x hx => (ow x hx).chr Ch) stp
theorem Go.zastore {k : KT} (C : Ctx k l y bytes maxL ret R Z a0 EL wd wr h0 Q) {pc pc' : Nat} {a : Addr} {vs vs' : List Value} {j : Int32} {x x' : Int32} (V : Av Z h a .boolean vs) (ho : a ∈ os) (i : Nat) (hj : ¬ j < 0) (hi : j.toNatClampNeg = i) (hlt : i < vs.length) (hn : nar .boolean x = x') (hvs : vs.set i (.int x') = vs') (hd : De bytes pc .bastore 1 pc')
    (K : ∀ h' : Heap, Keep h h' [a] → Av Z h' a .boolean vs' → Go k h' os cells slots pc' Ls st) : Go k h os cells slots pc Ls (.int x :: .int j :: .ref a :: st) := by
  obtain ⟨p, l', e, R', s, m, args, below, meth, c, Z', EL', wd', wr', Q'⟩ := k
  obtain ⟨⟨rfl, rfl, rfl, rfl, rfl, rfl, rfl, rfl⟩, hx, hc', hml, hret, hlk, hnm, hZ, hown, hEL, hE, hwr⟩ := C
  obtain ⟨h1, rfl⟩ := hd
  intro T locs vm X e0 N S w' A Kp ow
  have hZ' : Z'.Warmed39 (s.setVm vm).vm := State.Warmed39.trans (t := s) hZ S.1
  obtain ⟨kc, z, ⟨cl, Ar, r1, r2, r3, H, G⟩, ez⟩ := V
  obtain ⟨T', h', X', e', W, stp⟩ := stZ X hx hZ' e0 Ar (j := j) (av_in (a := a) (ty := .boolean) (vs := vs) r2 ez hj hi hlt) (g := mkF m pc Ls (.int x :: .int j :: .ref a :: st)) rfl rfl (hb hc' h1)
  have KW := Keep.of_wr W
  have os1 : ∀ x ∈ [a], x ∈ os := fun x hx => by cases List.mem_singleton.mp hx; exact ho
  have Ch := CHr.keep KW (safeOs ow os1) A.1
  subst hn
  subst hvs
  exact mov (K h' KW ⟨kc, z, Arv.set Ar r1 r2 r3 H G (fits_nar_bool x) W i hi hlt, by simpa using ez⟩) X' e' (Fr.snoc X' N (ow a ho).2.1) (Since.up S KW.1) w' (A.trans Ch) (keepOs Kp KW ow os1) (fun x hx => (ow x hx).chr Ch) stp
theorem Go.anewarray {k : KT} (C : Ctx k l y bytes maxL ret R Z a0 EL wd wr h0 Q) {pc pc' i : Nat} {Cn : String} {z : Int32} (w1 : (Cond.classLink y.cls i Cn).before a0 Z = true) (w2 : (Cond.arrayOver (.object Cn)).before a0 Z = true) (hd : De bytes pc (.anewarray i) 3 pc') (hz : ¬ z < 0) (n : Nat) (hn : z.toNatClampNeg = n) {cap : Nat} (hcap : n ≤ cap) (hb8 : cap * 8 ≤ 536870912)
    (hc : cells + 1 ≤ R.cells) (hl : slots + cap ≤ R.slots)
    (K : ∀ (b : Addr) (h' : Heap), b = h.size → Keep h h' [] → Avr Z h' b Cn (List.replicate n .null) → Go k h' (b :: os) (cells + 1) (slots + cap) pc' Ls (.ref b :: st)) : Go k h os cells slots pc Ls (.int z :: st) := by
  obtain ⟨p, l', e, R', s, m, args, below, meth, c, Z', EL', wd', wr', Q'⟩ := k
  obtain ⟨⟨rfl, rfl, rfl, rfl, rfl, rfl, rfl, rfl⟩, hx, hc', hml, hret, hlk, hnm, hZ, hown, hEL, hE, hwr⟩ := C
  obtain ⟨h1, rfl⟩ := hd
  intro T locs vm X e0 N S w A Kp ow
  have hZ' : Z'.Warmed39 (s.setVm vm).vm := State.Warmed39.trans (t := s) hZ S.1
  have hown' : (s.setVm vm).vm.findClass y.cls = some m.cls := (S.1.alike.findClass _ _).trans hown
  obtain ⟨T', h', cA, X', e', E, Ar, O, stp⟩ := newR X hx hZ' hown' w1 w2 e0 (g := mkF m pc Ls (.int z :: st)) rfl (hb hc' h1) rfl hz (cap := cap) (by rw [hn]; exact hcap) hb8 hc hl
  have V : Avr Z' h' h.size Cn (List.replicate n .null) := ⟨cA, z, by have := (Arv.new Ar hz).pad (pad_rep [] (.null) n); simpa [defaultValue] using this, by simpa using hn, O⟩
  exact mov (K h.size h' rfl (Keep.ofExt E) V) X' e' N (Since.up S E.1) w (A.trans (CHr.ext E A.1)) (Kp.ext E) (ownPush hE A Kp E Ar.lt ow) stp
theorem Go.aastore {k : KT} (C : Ctx k l y bytes maxL ret R Z a0 EL wd wr h0 Q) {pc pc' : Nat} {a b : Addr} {Cn : String} {vs vs' : List Value} {j : Int32} (V : Avr Z h a Cn vs) (ho : a ∈ os) (I : Ins Z h b Cn true) (i : Nat) (hj : ¬ j < 0) (hi : j.toNatClampNeg = i) (hlt : i < vs.length) (hvs : vs.set i (.ref b) = vs') (hd : De bytes pc .aastore 1 pc')
    (K : ∀ h' : Heap, Keep h h' [a] → Avr Z h' a Cn vs' → Go k h' os cells slots pc' Ls st) : Go k h os cells slots pc Ls (.ref b :: .int j :: .ref a :: st) := by
  obtain ⟨p, l', e, R', s, m, args, below, meth, c, Z', EL', wd', wr', Q'⟩ := k
  obtain ⟨⟨rfl, rfl, rfl, rfl, rfl, rfl, rfl, rfl⟩, hx, hc', hml, hret, hlk, hnm, hZ, hown, hEL, hE, hwr⟩ := C
  obtain ⟨h1, rfl⟩ := hd
  intro T locs vm X e0 N S w' A Kp ow
  have hZ' : Z'.Warmed39 (s.setVm vm).vm := State.Warmed39.trans (t := s) hZ S.1
  obtain ⟨kc, z, ⟨cl, Ar, r1, r2, r3, H, G⟩, ez, Ov⟩ := V
  obtain ⟨T', h', X', e', W, stp⟩ := stR X hx hZ' e0 Ar (j := j) (av_in (a := a) (ty := .int) (vs := vs) r2 ez hj hi hlt) rfl (Sto.ofV Ar r1 Ov I) (g := mkF m pc Ls (.ref b :: .int j :: .ref a :: st)) rfl rfl (hb hc' h1)
  have KW := Keep.of_wr W
  have os1 : ∀ x ∈ [a], x ∈ os := fun x hx => by cases List.mem_singleton.mp hx; exact ho
  have Ch := CHr.keep KW (safeOs ow os1) A.1
  subst hvs
  exact mov (K h' KW ⟨kc, z, Arv.set Ar r1 r2 r3 H G rfl W i hi hlt, by simpa using ez, Ov⟩) X' e' (Fr.snoc X' N (ow a ho).2.1) (Since.up S KW.1) w' (A.trans Ch) (keepOs Kp KW ow os1) (fun x hx => (ow x hx).chr Ch) stp
theorem copy_us {vs : List Value} {d : Value} {m n : Nat} (q : m + n ≤ vs.length) : ((List.range n).map fun i => vs.getD (m + i) d) = (vs.drop m).take n := by
  refine List.ext_getElem? fun i => ?_
  by_cases hi : i < n
  · simp [List.getElem?_take, hi, List.getD_eq_getElem?_getD, show m + i < vs.length by omega]
  · simp [List.getElem?_take, hi]
theorem Go.arraycopy {k : KT} (C : Ctx k l y bytes maxL ret R Z a0 EL wd wr h0 Q) {pc pc' i : Nat} {a b : Addr} {ty : FieldType} {vs vd vd' : List Value} {sp dp nn : Int32} (V : Av Z h a ty vs) (U : Av Z h b ty vd) (ho : b ∈ os) (hty : refKind ty = false) (w1 : (Cond.methodLink y.cls i Jvm.Stand.acN).before a0 Z = true) (w2 : (Cond.native Jvm.Stand.acN).before a0 Z = true) (w3 : (Cond.static Jvm.Stand.acN).before a0 Z = true) (w4 : (Cond.initialized "java/lang/System").before a0 Z = true)
    (h1 : ¬ sp < 0) (h2 : ¬ dp < 0) (h3 : ¬ nn < 0) (ms md n : Nat) (e1 : sp.toNatClampNeg = ms) (e2 : dp.toNatClampNeg = md) (e3 : nn.toNatClampNeg = n) (h4 : ms + n ≤ vs.length) (h5 : md + n ≤ vd.length) (hvd : vd.take md ++ (vs.drop ms).take n ++ vd.drop (md + n) = vd') (hd : De bytes pc (.invokestatic i) 3 pc') (hsz : Ls.size = maxL) (hf : 1 ≤ R.frames) (hlo : (st.map fun v => v.category).sum + 18 ≤ R.locals)
    (K : ∀ h' : Heap, Keep h h' [b] → Av Z h' b ty vd' → Go k h' os cells slots pc' Ls st) : Go k h os cells slots pc Ls (.int nn :: .int dp :: .ref b :: .int sp :: .ref a :: st) := by
  obtain ⟨p, l', e, R', s, m, args, below, meth, c, Z', EL', wd', wr', Q'⟩ := k
  obtain ⟨⟨rfl, rfl, rfl, rfl, rfl, rfl, rfl, rfl⟩, hx, hc', hml, hret, hlk, hnm, hZ, hown, hEL, hE, hwr⟩ := C
  obtain ⟨g1, rfl⟩ := hd
  intro T locs vm X e0 N S w' A Kp ow
  have hZ' : Z'.Warmed39 (s.setVm vm).vm := State.Warmed39.trans (t := s) hZ S.1
  have hown' : (s.setVm vm).vm.findClass y.cls = some m.cls := (S.1.alike.findClass _ _).trans hown
  obtain ⟨k1, z1, A1, ez1⟩ := V
  obtain ⟨k2, z2, A2, ez2⟩ := U
  obtain ⟨T', h', L, X', e', N', KW, Aw, stp⟩ := cpA X hx hZ' hown' w1 w2 w3 w4 e0 A1 A2 (Or.inl ⟨rfl, hty⟩) h1 h2 h3 (by rw [e1, e3, ez1]; exact h4) (by rw [e2, e3, ez2]; exact h5) (us := (vs.drop ms).take n) (by rw [e1, e3]; exact (copy_us h4).symm) (by rw [e2, e3]; exact h5) N (ow b ho).2.1 (g := mkF m pc Ls (.int nn :: .int dp :: .ref b :: .int sp :: .ref a :: st)) rfl (hsz.trans hml.symm) rfl (hb hc' g1) hf (W := (st.map fun v => v.category).sum) (by show 2 * 0 + _ ≤ _; omega) hlo
  rw [e2, e3, hvd] at Aw
  have os1 : ∀ x ∈ [b], x ∈ os := fun x hx => by cases List.mem_singleton.mp hx; exact ho
  have Ch := CHr.keep KW (safeOs ow os1) A.1
  refine mov (K h' KW ⟨k2, z2, Aw, ?_⟩) X' e' N' (Since.up S KW.1) w' (A.trans Ch) (keepOs Kp KW ow os1) (fun x hx => (ow x hx).chr Ch) stp
  rw [ez2, ← hvd]; simp; omega
theorem Go.ldcO {k : KT} (C : Ctx k l y bytes maxL ret R Z a0 EL true wr h0 Q) {pc pc' i : Nat} {text : String} (w : (Cond.stringLink y.cls i text).before a0 Z = true) (wS : ∀ a ∈ Bundle.stringAtoms, a.before a0 Z = true) (hd : De bytes pc (.ldc i) 2 pc') {n : Nat} (hn : 4 * text.toList.length ≤ n) (hbig : n ≤ 536870912) (hc : cells + 2 ≤ R.cells) (hl : slots + (n + 4) ≤ R.slots)
    (K : ∀ (a : Addr) (h' : Heap), Keep h h' [] → Go k h' os (cells + 2) (slots + (n + 4)) pc' Ls (.ref a :: st)) : Go k h os cells slots pc Ls st := by
  obtain ⟨p, l', e, R', s, m, args, below, meth, c, Z', EL', wd', wr', Q'⟩ := k
  obtain ⟨⟨rfl, rfl, rfl, rfl, rfl, rfl, rfl, rfl⟩, hx, hc', hml, hret, hlk, hnm, hZ, hown, hEL, hE, hwr⟩ := C
  obtain ⟨h1, rfl⟩ := hd
  intro T locs vm X e0 N S w' A Kp ow
  have hZ' : Z'.Warmed39 vm := State.Warmed39.trans (t := s) hZ S.1
  have hown' : vm.findClass y.cls = some m.cls := (S.1.alike.findClass _ _).trans hown
  obtain ⟨a, T', h', k1, X', e', E, S', hk1, -, -, Ch, -, stp⟩ := ldcOH X hx hZ' hown' w wS e0 S (Nat.le_refl _) hEL A.1 (g := mkF m pc Ls st) rfl (hb hc' h1) hn hbig hc hl
  refine mov (K a h' (Keep.ofExt E)) X' e' N (Since.up S' hk1) (fun q => Bool.noConfusion q) (A.trans Ch) (Kp.ext E) (fun x hx => (ow x hx).chr Ch) stp
theorem Go.checkcast {k : KT} (C : Ctx k l y bytes maxL ret R Z a0 EL wd wr h0 Q) {pc pc' i : Nat} {a : Addr} {Kn : String} (I : Ins Z h a Kn true) (w : (Cond.classLink y.cls i Kn).before a0 Z = true) (hd : De bytes pc (.checkcast i) 3 pc') (K : Go k h os cells slots pc' Ls (.ref a :: st)) : Go k h os cells slots pc Ls (.ref a :: st) := by
  obtain ⟨p, l', e, R', s, m, args, below, meth, c, Z', EL', wd', wr', Q'⟩ := k
  obtain ⟨⟨rfl, rfl, rfl, rfl, rfl, rfl, rfl, rfl⟩, hx, hc', hml, hret, hlk, hnm, hZ, hown, hEL, hE, hwr⟩ := C
  obtain ⟨h1, rfl⟩ := hd
  intro T locs vm X e0 N S w' A Kp ow
  have hZ' : Z'.Warmed39 (s.setVm vm).vm := State.Warmed39.trans (t := s) hZ S.1
  have hown' : (s.setVm vm).vm.findClass y.cls = some m.cls := (S.1.alike.findClass _ _).trans hown
  obtain ⟨T', X', e', stp⟩ := castY X hx hZ' hown' w e0 I (g := mkF m pc Ls (.ref a :: st)) rfl rfl (hb hc' h1)
  exact mov K X' e' N S w' A Kp ow stp
theorem Go.checkcastNull {k : KT} (C : Ctx k l y bytes maxL ret R Z a0 EL wd wr h0 Q) {pc pc' i : Nat} (hd : De bytes pc (.checkcast i) 3 pc') (K : Go k h os cells slots pc' Ls (.null :: st)) : Go k h os cells slots pc Ls (.null :: st) := by
  obtain ⟨p, l', e, R', s, m, args, below, meth, c, Z', EL', wd', wr', Q'⟩ := k
  obtain ⟨⟨rfl, rfl, rfl, rfl, rfl, rfl, rfl, rfl⟩, hx, hc', hml, hret, hlk, hnm, hZ, hown, hEL, hE, hwr⟩ := C
  obtain ⟨h1, rfl⟩ := hd
  intro T locs vm X e0 N S w' A Kp ow
  exact mov K X e0 N S w' A Kp ow (X.checkcastNull hx (g := mkF m pc Ls (.null :: st)) rfl rfl (hb hc' h1))
theorem Go.instanceofYes {k : KT} (C : Ctx k l y bytes maxL ret R Z a0 EL wd wr h0 Q) {pc pc' i : Nat} {a : Addr} {Kn : String} (I : Ins Z h a Kn true) (w : (Cond.classLink y.cls i Kn).before a0 Z = true) (hd : De bytes pc (.instanceof i) 3 pc') (K : Go k h os cells slots pc' Ls (.int 1 :: st)) : Go k h os cells slots pc Ls (.ref a :: st) := by
  obtain ⟨p, l', e, R', s, m, args, below, meth, c, Z', EL', wd', wr', Q'⟩ := k
  obtain ⟨⟨rfl, rfl, rfl, rfl, rfl, rfl, rfl, rfl⟩, hx, hc', hml, hret, hlk, hnm, hZ, hown, hEL, hE, hwr⟩ := C
  obtain ⟨h1, rfl⟩ := hd
  intro T locs vm X e0 N S w' A Kp ow
  have hZ' : Z'.Warmed39 (s.setVm vm).vm := State.Warmed39.trans (t := s) hZ S.1
  have hown' : (s.setVm vm).vm.findClass y.cls = some m.cls := (S.1.alike.findClass _ _).trans hown
  obtain ⟨T', X', e', stp⟩ := instY X hx hZ' hown' w e0 I (g := mkF m pc Ls (.ref a :: st)) rfl rfl (hb hc' h1)
  exact mov K X' e' N S w' A Kp ow stp
theorem noSub {C O K : String} {n : Nat} (w1 : (Cond.superclass C O).before a0 Z = true) (w0 : (Cond.noSuperclass O).before a0 Z = true) (wk : (Cond.instantiable K n).before a0 Z = true) (q1 : C ≠ K) (q2 : O ≠ K) : ∃ c t, Z.vm.findClass C = some c ∧ Z.vm.findClass K = some t ∧ Z.vm.assignable c t = false := by
  obtain ⟨c, hc⟩ := found_sup w1
  obtain ⟨o, k, kp, a1, a2, a3, a4, a5, a6, a7⟩ := Cond.superclass_spec hc w1
  obtain ⟨o', ko, b1, b2, b3, -, -⟩ := Cond.noSuperclass_spec w0
  obtain ⟨t, kt, t1, t2, t3, t4, -⟩ := Cond.instantiable_spec wk
  cases a1.symm.trans b1
  have n1 := ids_ne hc t1 q1
  have n2 := ids_ne b1 t1 q2
  have hi : kt.isInterface = false := (Bool.or_eq_false_iff.mp t4).1
  refine ⟨c, t, hc, t1, ?_⟩
  have sub : ∀ fuel, Z.vm.isSubclassAux fuel c t = false := fun fuel => by
    rcases fuel with _ | _ | f
    · rfl
    · simp [Vm.isSubclassAux, n1, a2, a4]
    · simp [Vm.isSubclassAux, n1, n2, a2, a4, b2, b3]
  show Z.vm.assignableAux (255 + 1) c t = false
  simp [Vm.assignableAux, n1, a2, t2, a5, t3, hi, Vm.isSubclass, sub]
theorem Go.instanceofNo {k : KT} (C : Ctx k l y bytes maxL ret R Z a0 EL wd wr h0 Q) {pc pc' i : Nat} {a : Addr} {Cn Kn : String} (E : Exa Z h a Cn) (F : ∃ c t, Z.vm.findClass Cn = some c ∧ Z.vm.findClass Kn = some t ∧ Z.vm.assignable c t = false) (w : (Cond.classLink y.cls i Kn).before a0 Z = true) (hd : De bytes pc (.instanceof i) 3 pc') (K : Go k h os cells slots pc' Ls (.int 0 :: st)) : Go k h os cells slots pc Ls (.ref a :: st) := by
  obtain ⟨p, l', e, R', s, m, args, below, meth, c, Z', EL', wd', wr', Q'⟩ := k
  obtain ⟨⟨rfl, rfl, rfl, rfl, rfl, rfl, rfl, rfl⟩, hx, hc', hml, hret, hlk, hnm, hZ, hown, hEL, hE, hwr⟩ := C
  obtain ⟨h1, rfl⟩ := hd
  intro T locs vm X e0 N S w' A Kp ow
  have hZ' : Z'.Warmed39 (s.setVm vm).vm := State.Warmed39.trans (t := s) hZ S.1
  have hown' : (s.setVm vm).vm.findClass y.cls = some m.cls := (S.1.alike.findClass _ _).trans hown
  obtain ⟨T', X', e', stp⟩ := instNo X hx hZ' hown' w e0 E F (g := mkF m pc Ls (.ref a :: st)) rfl rfl (hb hc' h1)
  exact mov K X' e' N S w' A Kp ow stp
theorem Go.instanceofNull {k : KT} (C : Ctx k l y bytes maxL ret R Z a0 EL wd wr h0 Q) {pc pc' i : Nat} (hd : De bytes pc (.instanceof i) 3 pc') (K : Go k h os cells slots pc' Ls (.int 0 :: st)) : Go k h os cells slots pc Ls (.null :: st) := by
  obtain ⟨p, l', e, R', s, m, args, below, meth, c, Z', EL', wd', wr', Q'⟩ := k
  obtain ⟨⟨rfl, rfl, rfl, rfl, rfl, rfl, rfl, rfl⟩, hx, hc', hml, hret, hlk, hnm, hZ, hown, hEL, hE, hwr⟩ := C
  obtain ⟨h1, rfl⟩ := hd
  intro T locs vm X e0 N S w' A Kp ow
  exact mov K X e0 N S w' A Kp ow (X.instanceofNull hx (g := mkF m pc Ls (.null :: st)) rfl rfl (hb hc' h1))
theorem Go.initO {k : KT} (C : Ctx k l y bytes maxL ret R Z a0 EL wd wr h0 Q) {pc pc' i : Nat} {a : Addr} (w1 : (Cond.methodLink y.cls i Lib.objectInit).before a0 Z = true) (w2 : (Cond.instanceMethod Lib.objectInit).before a0 Z = true) (w3 : (Cond.code Lib.objectInit ⟨#[0xb1]⟩ 1 none).before a0 Z = true)
    (hd : De bytes pc (.invokespecial i) 3 pc') (hs : Ls.size = maxL) (hf : 1 ≤ R.frames) (hl : (st.map fun v => v.category).sum + 12 ≤ R.locals) (K : Go k h os cells slots pc' Ls st) : Go k h os cells slots pc Ls (.ref a :: st) := by
  obtain ⟨p, l', e, R', s, m, args, below, meth, c, Z', EL', wd', wr', Q'⟩ := k
  obtain ⟨⟨rfl, rfl, rfl, rfl, rfl, rfl, rfl, rfl⟩, hx, hc', hml, hret, hlk, hnm, hZ, hown, hEL, hE, hwr⟩ := C
  obtain ⟨h1, rfl⟩ := hd
  intro T locs vm X e0 N S w' A Kp ow
  have hZ' : Z'.Warmed39 (s.setVm vm).vm := State.Warmed39.trans (t := s) hZ S.1
  have hown' : (s.setVm vm).vm.findClass y.cls = some m.cls := (S.1.alike.findClass _ _).trans hown
  obtain ⟨T', X', e', stp⟩ := RoadKit.initO X hx hZ' hown' w1 w2 w3 e0 (g := mkF m pc Ls (.ref a :: st)) rfl (hs.trans hml.symm) rfl (hb hc' h1) hf (W := (st.map fun v => v.category).sum) (by show 2 * 0 + _ ≤ _; omega) hl
  exact mov K X' e' N S w' A Kp ow stp
theorem Go.acmp {k : KT} (C : Ctx k l y bytes maxL ret R Z a0 EL wd wr h0 Q) {pc pc' pcT : Nat} {cd : ACond} {u v : Value} (same : Bool) (hd : DeJ bytes pc (.if_acmp cd) pc' pcT) (h1 : u.isRef = true) (h2 : v.isRef = true) (hq : decide (u = v) = same) {pcN : Nat} (hp : pcN = if acV cd same = true then pcT else pc') (K : Go k h os cells slots pcN Ls st) : Go k h os cells slots pc Ls (v :: u :: st) := by
  obtain ⟨p, l', e, R', s, m, args, below, meth, c, Z', EL', wd', wr', Q'⟩ := k
  obtain ⟨⟨rfl, rfl, rfl, rfl, rfl, rfl, rfl, rfl⟩, hx, hc', hml, hret, hlk, hnm, hZ, hown, hEL, hE, hwr⟩ := C
  obtain ⟨o, g1, rfl, g2, g3⟩ := hd
  intro T locs vm X e0 N S w' A Kp ow
  refine Fen.of (fun t kt => RoadKit.acmp X hx (g := mkF m pc Ls (v :: u :: st)) rfl h1 h2 (pc0 := pc) (pc' := pcN) (same := same) rfl (hb hc' g1) rfl hq g2 (by rw [hp, g3]) kt) (K T locs vm X e0 N S w' A Kp ow)
theorem Go.eqI {k : KT} {pc : Nat} {x x' : Int32} (e : x = x') (K : Go k h os cells slots pc Ls (.int x' :: st)) : Go k h os cells slots pc Ls (.int x :: st) := e ▸ K
theorem Go.eqJ {k : KT} {pc : Nat} {x x' : Int64} (e : x = x') (K : Go k h os cells slots pc Ls (.long x' :: st)) : Go k h os cells slots pc Ls (.long x :: st) := e ▸ K
theorem ne_lt {a b n : Nat} (q : a < n) (e : n ≤ b) : a ≠ b := Nat.ne_of_lt (Nat.lt_of_lt_of_le q e)
theorem ge_of {b n : Nat} (e : b = n) : n ≤ b := Nat.le_of_eq e.symm
theorem Go.ldcI {k : KT} (C : Ctx k l y bytes maxL ret R Z a0 EL wd wr h0 Q) {pc pc' i : Nat} {v : Int32} (w : (Cond.constant y.cls i v).before a0 Z = true) (hd : De bytes pc (.ldc i) 2 pc') (K : Go k h os cells slots pc' Ls (.int v :: st)) : Go k h os cells slots pc Ls st := by
  obtain ⟨p, l', e, R', s, m, args, below, meth, c, Z', EL', wd', wr', Q'⟩ := k
  obtain ⟨⟨rfl, rfl, rfl, rfl, rfl, rfl, rfl, rfl⟩, hx, hc', hml, hret, hlk, hnm, hZ, hown, hEL, hE, hwr⟩ := C
  obtain ⟨h1, rfl⟩ := hd
  intro T locs vm X e0 N S w' A Kp ow
  have hZ' : Z'.Warmed39 (s.setVm vm).vm := State.Warmed39.trans (t := s) hZ S.1
  have hown' : (s.setVm vm).vm.findClass y.cls = some m.cls := (S.1.alike.findClass _ _).trans hown
  exact mov K X e0 N S w' A Kp ow (X.ldcInt hx hown' (mvT hZ' w) (g := mkF m pc Ls st) rfl (hb hc' h1))
theorem Go.ldcWI {k : KT} (C : Ctx k l y bytes maxL ret R Z a0 EL wd wr h0 Q) {pc pc' i : Nat} {v : Int32} (w : (Cond.constant y.cls i v).before a0 Z = true) (hd : De bytes pc (.ldc_w i) 3 pc') (K : Go k h os cells slots pc' Ls (.int v :: st)) : Go k h os cells slots pc Ls st := by
  obtain ⟨p, l', e, R', s, m, args, below, meth, c, Z', EL', wd', wr', Q'⟩ := k
  obtain ⟨⟨rfl, rfl, rfl, rfl, rfl, rfl, rfl, rfl⟩, hx, hc', hml, hret, hlk, hnm, hZ, hown, hEL, hE, hwr⟩ := C
  obtain ⟨h1, rfl⟩ := hd
  intro T locs vm X e0 N S w' A Kp ow
  have hZ' : Z'.Warmed39 (s.setVm vm).vm := State.Warmed39.trans (t := s) hZ S.1
  have hown' : (s.setVm vm).vm.findClass y.cls = some m.cls := (S.1.alike.findClass _ _).trans hown
  exact mov K X e0 N S w' A Kp ow (X.ldcwInt hx hown' (mvT hZ' w) (g := mkF m pc Ls st) rfl (hb hc' h1))
theorem Go.ldcJ {k : KT} (C : Ctx k l y bytes maxL ret R Z a0 EL wd wr h0 Q) {pc pc' i : Nat} {v : Int64} (w : (Cond.constantLong y.cls i v).before a0 Z = true) (hd : De bytes pc (.ldc2_w i) 3 pc') (K : Go k h os cells slots pc' Ls (.long v :: st)) : Go k h os cells slots pc Ls st := by
  obtain ⟨p, l', e, R', s, m, args, below, meth, c, Z', EL', wd', wr', Q'⟩ := k
  obtain ⟨⟨rfl, rfl, rfl, rfl, rfl, rfl, rfl, rfl⟩, hx, hc', hml, hret, hlk, hnm, hZ, hown, hEL, hE, hwr⟩ := C
  obtain ⟨h1, rfl⟩ := hd
  intro T locs vm X e0 N S w' A Kp ow
  have hZ' : Z'.Warmed39 (s.setVm vm).vm := State.Warmed39.trans (t := s) hZ S.1
  have hown' : (s.setVm vm).vm.findClass y.cls = some m.cls := (S.1.alike.findClass _ _).trans hown
  exact mov K X e0 N S w' A Kp ow (X.ldc2Long hx hown' (mvT hZ' w) (g := mkF m pc Ls st) rfl (hb hc' h1))
theorem sizeExt {h' : Heap} {a : Addr} {C : String} (E : Exa Z h' a C) : a < h'.size := E.lt
theorem Go.ldcStr {k : KT} (C : Ctx k l y bytes maxL ret R Z a0 EL true wr h0 Q) {pc pc' i : Nat} {text : String} (w : (Cond.stringLink y.cls i text).before a0 Z = true) (wS : ∀ a ∈ Bundle.stringAtoms, a.before a0 Z = true) (hmem : (y.cls, i) ∈ EL) {bs : List Int32}
    (ht : (∀ c ∈ text.toList, c.toNat < 256) ∧ text.toList.map (fun c => Value.int (Jvm.Lit.byteI c.toNat.toUInt16)) = bs.map .int) (hln : (Int32.ofNat bs.length).toNatClampNeg = bs.length ∧ ¬ (Int32.ofNat bs.length) < 0) (hd : De bytes pc (.ldc i) 2 pc') {n : Nat} (hn : 4 * text.toList.length ≤ n) (hbig : n ≤ 536870912) (hc : cells + 2 ≤ R.cells) (hl : slots + (n + 4) ≤ R.slots)
    (K : ∀ (a t : Addr) (h' : Heap), Keep h h' [] → Str Z h' a t bs → (∀ x ∈ os, a ≠ x ∧ t ≠ x) → Go k h' os (cells + 2) (slots + (n + 4)) pc' Ls (.ref a :: st)) : Go k h os cells slots pc Ls st := by
  obtain ⟨p, l', e, R', s, m, args, below, meth, c, Z', EL', wd', wr', Q'⟩ := k
  obtain ⟨⟨rfl, rfl, rfl, rfl, rfl, rfl, rfl, rfl⟩, hx, hc', hml, hret, hlk, hnm, hZ, hown, hEL, hE, hwr⟩ := C
  obtain ⟨h1, rfl⟩ := hd
  intro T locs vm X e0 N S w' A Kp ow
  have hZ' : Z'.Warmed39 vm := State.Warmed39.trans (t := s) hZ S.1
  have hown' : vm.findClass y.cls = some m.cls := (S.1.alike.findClass _ _).trans hown
  obtain ⟨a, T', h', k1, b, kc, X', e', E, S', hk1, -, -, Ex, Fc, Fv, Av1, -, -, Ch, -, hsf, stp⟩ := ldcCH X hx hZ' hown' w wS e0 S (Nat.le_refl _) hEL hmem A.1 (vs := bs.map .int) (z := Int32.ofNat bs.length) ht hln.2 (by rw [hln.1]; simp) (g := mkF m pc Ls st) rfl (hb hc' h1) hn hbig hc hl
  have Sx : Str Z' h' a b bs := ⟨⟨Ex, rfl, fun i q v g1 g2 => by
    match i, g1, g2 with
    | 0, g1, g2 => cases g1; cases g2; exact Fv
    | 1, g1, g2 => cases g1; cases g2; exact Fc
    | i + 2, g1, g2 => simp [fStr] at g1⟩, ⟨kc, Int32.ofNat bs.length, Av1, by rw [hln.1]; simp⟩⟩
  have Kx : Keep h h' [] := Keep.ofExt E
  refine mov (K a b h' Kx Sx fun x hx => ⟨fun q => (hsf x ((ow x hx).chr Ch).1).1 q.symm, fun q => (hsf x ((ow x hx).chr Ch).1).2 q.symm⟩) X' e' N (Since.up S' hk1) (fun q => Bool.noConfusion q) (A.trans Ch) (Kp.ext E) (fun x hx => (ow x hx).chr Ch) stp
theorem Go.acmpne {k : KT} (C : Ctx k l y bytes maxL ret R Z a0 EL wd wr h0 Q) {pc pc' pcT : Nat} {a b : Addr} (hd : DeJ bytes pc (.if_acmp .ne) pc' pcT) (KD : ¬ (a = b) → Go k h os cells slots pcT Ls st) (KS : a = b → Go k h os cells slots pc' Ls st) : Go k h os cells slots pc Ls (.ref b :: .ref a :: st) := by
  by_cases q : a = b
  · exact Go.acmp C true hd rfl rfl (decide_eq_true (congrArg _ q)) rfl (KS q)
  · exact Go.acmp C false hd rfl rfl (decide_eq_false fun z => q (Value.ref.inj z)) rfl (KD q)
theorem Go.acmpeq {k : KT} (C : Ctx k l y bytes maxL ret R Z a0 EL wd wr h0 Q) {pc pc' pcT : Nat} {a b : Addr} (hd : DeJ bytes pc (.if_acmp .eq) pc' pcT) (KS : a = b → Go k h os cells slots pcT Ls st) (KD : ¬ (a = b) → Go k h os cells slots pc' Ls st) : Go k h os cells slots pc Ls (.ref b :: .ref a :: st) := by
  by_cases q : a = b
  · exact Go.acmp C true hd rfl rfl (decide_eq_true (congrArg _ q)) rfl (KS q)
  · exact Go.acmp C false hd rfl rfl (decide_eq_false fun z => q (Value.ref.inj z)) rfl (KD q)
/-- a callee's contract, as its caller takes it -/
theorem conBack {p : Program} {e : Env} {s : State} {args : Array Value} {below : List Frame} {z : MethodName} {bz : ByteArray} {mz : Nat} {rz : Option FieldType} {rm : Room} {as' : Array Value} {wr' : List Addr} {Q' : QT} {vm : Vm} {len W : Nat}
    (M : Con l Z EL wd z bz mz rz rm [] as' h wr' Q') (hZ : Z.Warmed39 vm) (wc : (Cond.code z bz mz rz).before a0 Z = true) (wz : (Cond.initialized z.cls).before a0 Z = true) (hf : rm.frames + 1 ≤ R.frames) (hl : W + (mz + 11) + rm.locals ≤ R.locals) (hEL : EW Z a0 EL) (H : CHv Z EL vm h) (hE : Ext Z.heap h) (hs : ∀ x ∈ wr', Safe Z EL vm h x ∧ Z.heap.size ≤ x ∧ x < h.size) :
    BackS l R p e below (s.setVm vm) args z len W (fun A a => a = as' ∧ A.U.heap = h ∧ A.cells + rm.cells ≤ R.cells ∧ A.slots + rm.slots ≤ R.slots)
      (fun A _ v B => ∃ L os, Q' v B.U.heap os ∧ (∀ x ∈ os, Safe Z EL B.U.vm B.U.heap x ∧ h.size ≤ x ∧ x < B.U.heap.size) ∧ Keep h B.U.heap wr' ∧ Fr Z.heap.size L ∧ CHr Z EL vm h B.U.vm B.U.heap ∧ (wd = false → (s.setVm vm).WarmedH B.U.vm) ∧ B.locs = A.locs ++ L ∧ B.cells = A.cells + rm.cells ∧ B.slots = A.slots + rm.slots) :=
  BackS.of_freeW (bytes := bz) (maxL := mz) (ret := rz) (E := fun _ first o t L k n => k = rm.cells ∧ n = rm.slots ∧ (∃ v os, o = .returned v ∧ Q' v t.heap os ∧ (∀ x ∈ os, Safe Z EL t.vm t.heap x ∧ first.heap.size ≤ x ∧ x < t.heap.size) ∧ Keep first.heap t.heap wr' ∧ Fr Z.heap.size L) ∧ CHr Z EL first.vm first.heap t.vm t.heap ∧ (wd = false → first.WarmedH t.vm)) M hf hl
    (fun m meth c A a Y hp => have hU : Z.Warmed39 A.U.vm := wtrans (s := s.setVm vm) hZ Y.warmed
      ⟨by show (Cond.and _ .tt).before a A.U = true; rw [Cond.before_and, mv hU wc]; rfl, mv hU wc, mv hU wz, hp.2.2.1, hp.2.2.2⟩)
    (fun m meth c A a g mk Y hp => ⟨hp.1, wtrans (s := s.setVm vm) hZ Y.warmed, hp.2.1, (CHv.at Y hZ hEL H).1, hE, fun x hx => ⟨(CHv.at Y hZ hEL H).safe (hs x hx).2.2 (hs x hx).1, (hs x hx).2⟩⟩) (fun _ _ _ _ _ _ _ _ _ => trivial)
    (fun _ _ _ _ ⟨v, L, os, h1, h2, h3, h4, h5, h6, h7, h8⟩ => ⟨L, _, _, h7, rfl, rfl, ⟨v, os, h1, h2, h3, h4, h5⟩, h6, fun q => (h8 q).2.1⟩)
    (fun m meth c A a g mk v t L k n Y hp _ _ ⟨e1, e2, ⟨v', os, e3, e4, e5, e6, e7⟩, e8, e9⟩ => by
      cases e3; subst e1 e2
      have eh : (A.U.calling g mk a).heap = h := hp.2.1
      rw [eh] at e6 e8
      refine ⟨L, os, e4, fun x hx => ?_, e6, e7, (CHv.at Y hZ hEL H).trans e8, fun q => State.WarmedH.trans Y.warmed (e9 q), rfl, rfl, rfl⟩
      have := e5 x hx
      rw [eh] at this; exact this)
theorem afterCall {p : Program} {e : Env} {s : State} {m : MethodId} {args : Array Value} {below : List Frame} {meth : Method} {c : Code} {T : State} {locs : List Loc} {vm : Vm} {rm : Room} {wr' : List Addr} {Q' : QT} {pc pc' : Nat} {st0 : List Value} {v : Option Value} {B : Pt} {L : List Loc} {os' : List Addr}
    (N : Fr Z.heap.size locs) (S : s.Since vm h.size) (w : wd = false → s.WarmedH vm) (A : CHr Z EL s.vm s.heap vm h) (Kp : Keep s.heap h wr) (hE : Ext Z.heap s.heap) (ow : ∀ x ∈ os, Own Z s.heap EL wr vm h x) (how : ∀ x ∈ wr', x ∈ os)
    (K : Go ⟨p, l, e, R, s, m, args, below, meth, c, Z, EL, wd, wr, Q⟩ B.U.heap (os' ++ os) (cells + rm.cells) (slots + rm.slots) pc' Ls (v.toList ++ st))
    (X' : Stand p l e R ((s.setVm vm).setVm B.U.vm) m args below meth c B.U B.locs B.cells B.slots) (hS : (s.setVm vm).Since B.U.vm B.U.heap.size) (hgr : h.size ≤ B.U.heap.size)
    (q2 : ∀ x ∈ os', Safe Z EL B.U.vm B.U.heap x ∧ h.size ≤ x ∧ x < B.U.heap.size) (q3 : Keep h B.U.heap wr') (q4 : Fr Z.heap.size L) (q5 : CHr Z EL vm h B.U.vm B.U.heap) (q6 : wd = false → (s.setVm vm).WarmedH B.U.vm) (q7 : B.locs = locs ++ L) (q8 : B.cells = cells + rm.cells) (q9 : B.slots = slots + rm.slots)
    (stp : Steps p.tables e below (T.setTop (mkF m pc Ls st0)) (B.U.setTop (mkF m pc' Ls (v.toList ++ st)))) : Fen p e below (Done Z EL wd R wr Q s) (T.setTop (mkF m pc Ls st0)) := by
  rw [q7, q8, q9] at X'
  refine mov (vm' := B.U.vm) K X' rfl (N.app q4) (S.trans hS hgr) (fun q => State.WarmedH.trans (w q) (q6 q)) (A.trans q5) (keepOs Kp q3 ow how) (fun x hx => ?_) (fun t kt => stp.trans kt)
  rcases List.mem_append.mp hx with hx | hx
  · obtain ⟨z1, z2, z3⟩ := q2 x hx
    exact ⟨z1, Nat.le_trans hE.1 (Nat.le_trans Kp.1 z2), z3, Or.inr (Nat.le_trans Kp.1 z2)⟩
  · exact (ow x hx).chr q5
theorem Go.callS {k : KT} (C : Ctx k l y bytes maxL ret R Z a0 EL wd wr h0 Q) {pc pc' : Nat} {i : Nat} {z : MethodName} {bz : ByteArray} {mz : Nat} {rz : Option FieldType} {rm : Room} {wr' : List Addr} {Q' : QT} {argsL : List Value} {ps : List FieldType} {rr : Option FieldType}
    (M : Con l Z EL wd z bz mz rz rm [] argsL.toArray h wr' Q') (w1 : (Cond.methodLink y.cls i z).before a0 Z = true) (w2 : (Cond.static z).before a0 Z = true) (w3 : (Cond.initialized z.cls).before a0 Z = true) (w4 : (Cond.code z bz mz rz).before a0 Z = true) (hd : De bytes pc (.invokestatic i) 3 pc') (hpd : parseMethodDescriptor z.desc = some ⟨ps, rr⟩) (hln : argsL.length = ps.length) (hmh : z.cls ≠ "java/lang/invoke/MethodHandle" ∧ z.cls ≠ "java/lang/invoke/VarHandle") (hsz : Ls.size = maxL) {st0 : List Value} (hst : st0 = argsL.reverse ++ st) (hfr : rm.frames + 1 ≤ R.frames) (hlo : (st.map fun v => v.category).sum + (mz + 11) + rm.locals ≤ R.locals) (hce : cells + rm.cells ≤ R.cells) (hsl : slots + rm.slots ≤ R.slots) (how : ∀ x ∈ wr', x ∈ os)
    (K : ∀ (v : Option Value) (h' : Heap) (os' : List Addr), Q' v h' os' → Keep h h' wr' → (∀ x ∈ os', h.size ≤ x ∧ x < h'.size) → Go k h' (os' ++ os) (cells + rm.cells) (slots + rm.slots) pc' Ls (v.toList ++ st)) : Go k h os cells slots pc Ls st0 := by
  obtain ⟨p, l', e, R', s, m, args, below, meth, c, Z', EL', wd', wr', Q'⟩ := k
  obtain ⟨⟨rfl, rfl, rfl, rfl, rfl, rfl, rfl, rfl⟩, hx, hc', hml, hret, hlk, hnm, hZ, hown, hEL, hE, hwr⟩ := C
  obtain ⟨h1, rfl⟩ := hd
  intro T locs vm X e0 N S w' A Kp ow
  have hZ' : Z'.Warmed39 (s.setVm vm).vm := State.Warmed39.trans (t := s) hZ S.1
  have hown' : (s.setVm vm).vm.findClass y.cls = some m.cls := (S.1.alike.findClass _ _).trans hown
  subst hst
  obtain ⟨v, vm₁, B, -, X', hS, hgr, hpost, stp⟩ := callSS X hx hown' (mvT hZ' w1) (mvT hZ' w2) (mvT hZ' w3) (mvT hZ' w4) hmh (conBack (p := p) (e := e) (below := below) (s := s) (args := args) M hZ' w4 w3 hfr hlo hEL A.1 (ext0 hE Kp hwr) (fun x hx => ⟨(ow x (how x hx)).1, (ow x (how x hx)).2.1, (ow x (how x hx)).2.2.1⟩)) (g := mkF m pc Ls (argsL.reverse ++ st)) rfl (hsz.trans hml.symm) (argsL := argsL) (rest := st) (lenOf hpd hln) rfl (by show 2 * 0 + _ ≤ _; exact Nat.le_of_eq (Nat.zero_add _)) (hb hc' h1) (fun _ _ => ⟨rfl, e0, hce, hsl⟩)
  obtain ⟨L, os', q1, q2, q3, q4, q5, q6, q7, q8, q9⟩ := hpost
  exact afterCall (Q' := Q') (rm := rm) N S w' A Kp hE ow how (K v B.U.heap os' q1 q3 fun x hx => (q2 x hx).2) X' hS (e0 ▸ hgr) q2 q3 q4 q5 q6 q7 q8 q9 stp
theorem Go.callI {k : KT} (C : Ctx k l y bytes maxL ret R Z a0 EL wd wr h0 Q) {pc pc' : Nat} {i : Nat} {a : Addr} {z : MethodName} {bz : ByteArray} {mz : Nat} {rm : Room} {wr' : List Addr} {Q' : QT} {argsL : List Value} {ps : List FieldType} {rr : Option FieldType}
    (M : Con l Z EL wd z bz mz none rm [] (.ref a :: argsL).toArray h wr' Q') (hin : z.name = "<init>") (w1 : (Cond.methodLink y.cls i z).before a0 Z = true) (w2 : (Cond.instanceMethod z).before a0 Z = true) (w3 : (Cond.initialized z.cls).before a0 Z = true) (w4 : (Cond.code z bz mz none).before a0 Z = true) (hd : De bytes pc (.invokespecial i) 3 pc') (hpd : parseMethodDescriptor z.desc = some ⟨ps, rr⟩) (hln : argsL.length = ps.length) (hmh : z.cls ≠ "java/lang/invoke/MethodHandle" ∧ z.cls ≠ "java/lang/invoke/VarHandle") (hsz : Ls.size = maxL) {st0 : List Value} (hst : st0 = argsL.reverse ++ .ref a :: st) (hfr : rm.frames + 1 ≤ R.frames) (hlo : (st.map fun v => v.category).sum + (mz + 11) + rm.locals ≤ R.locals) (hce : cells + rm.cells ≤ R.cells) (hsl : slots + rm.slots ≤ R.slots) (how : ∀ x ∈ wr', x ∈ os)
    (K : ∀ (v : Option Value) (h' : Heap) (os' : List Addr), Q' v h' os' → Keep h h' wr' → (∀ x ∈ os', h.size ≤ x ∧ x < h'.size) → Go k h' (os' ++ os) (cells + rm.cells) (slots + rm.slots) pc' Ls (v.toList ++ st)) : Go k h os cells slots pc Ls st0 := by
  obtain ⟨p, l', e, R', s, m, args, below, meth, c, Z', EL', wd', wr', Q'⟩ := k
  obtain ⟨⟨rfl, rfl, rfl, rfl, rfl, rfl, rfl, rfl⟩, hx, hc', hml, hret, hlk, hnm, hZ, hown, hEL, hE, hwr⟩ := C
  obtain ⟨h1, rfl⟩ := hd
  intro T locs vm X e0 N S w' A Kp ow
  have hZ' : Z'.Warmed39 (s.setVm vm).vm := State.Warmed39.trans (t := s) hZ S.1
  have hown' : (s.setVm vm).vm.findClass y.cls = some m.cls := (S.1.alike.findClass _ _).trans hown
  subst hst
  obtain ⟨v, vm₁, B, -, X', hS, hgr, hpost, stp⟩ := X.specialBackS hx hin hown' (mvT hZ' w1) (mvT hZ' w2) (mvT hZ' w4) hmh (conBack (p := p) (e := e) (below := below) (s := s) (args := args) M hZ' w4 w3 hfr hlo hEL A.1 (ext0 hE Kp hwr) (fun x hx => ⟨(ow x (how x hx)).1, (ow x (how x hx)).2.1, (ow x (how x hx)).2.2.1⟩)) (g := mkF m pc Ls (argsL.reverse ++ .ref a :: st)) rfl (hsz.trans hml.symm) (Steps.refl _) (a := a) (argsL := argsL) (rest := st) (lenOf hpd hln) rfl (by show 2 * 0 + _ ≤ _; exact Nat.le_of_eq (Nat.zero_add _)) (hb hc' h1) (fun _ _ => ⟨rfl, e0, hce, hsl⟩)
  obtain ⟨L, os', q1, q2, q3, q4, q5, q6, q7, q8, q9⟩ := hpost
  exact afterCall (Q' := Q') (rm := rm) N S w' A Kp hE ow how (K v B.U.heap os' q1 q3 fun x hx => (q2 x hx).2) X' hS (e0 ▸ hgr) q2 q3 q4 q5 q6 q7 q8 q9 stp
theorem Go.callV {k : KT} (C : Ctx k l y bytes maxL ret R Z a0 EL wd wr h0 Q) {pc pc' : Nat} {i : Nat} {a : Addr} {Cn : String} {zr : MethodName} {z : MethodName} {bz : ByteArray} {mz : Nat} {rz : Option FieldType} {rm : Room} {wr' : List Addr} {Q' : QT} {argsL : List Value} {ps : List FieldType} {rr : Option FieldType}
    (M : Con l Z EL wd z bz mz rz rm [] (.ref a :: argsL).toArray h wr' Q') (Ex : Exa Z h a Cn) (w1 : (Cond.methodLink y.cls i zr).before a0 Z = true) (wd1 : (Cond.declares zr).before a0 Z = true) (nf : ∀ {s : State}, Z.Warmed39 s.vm → NotFace s zr) (ws : (Cond.selects Cn zr z).before a0 Z = true) (w2 : (Cond.instanceMethod z).before a0 Z = true) (w3 : (Cond.initialized z.cls).before a0 Z = true) (w4 : (Cond.code z bz mz rz).before a0 Z = true) (hd : De bytes pc (.invokevirtual i) 3 pc') (hpd : parseMethodDescriptor zr.desc = some ⟨ps, rr⟩) (hln : argsL.length = ps.length) (hmh : zr.cls ≠ "java/lang/invoke/MethodHandle" ∧ zr.cls ≠ "java/lang/invoke/VarHandle") (hsz : Ls.size = maxL) {st0 : List Value} (hst : st0 = argsL.reverse ++ .ref a :: st) (hfr : rm.frames + 1 ≤ R.frames) (hlo : (st.map fun v => v.category).sum + (mz + 11) + rm.locals ≤ R.locals) (hce : cells + rm.cells ≤ R.cells) (hsl : slots + rm.slots ≤ R.slots) (how : ∀ x ∈ wr', x ∈ os)
    (K : ∀ (v : Option Value) (h' : Heap) (os' : List Addr), Q' v h' os' → Keep h h' wr' → (∀ x ∈ os', h.size ≤ x ∧ x < h'.size) → Go k h' (os' ++ os) (cells + rm.cells) (slots + rm.slots) pc' Ls (v.toList ++ st)) : Go k h os cells slots pc Ls st0 := by
  obtain ⟨p, l', e, R', s, m, args, below, meth, c, Z', EL', wd', wr', Q'⟩ := k
  obtain ⟨⟨rfl, rfl, rfl, rfl, rfl, rfl, rfl, rfl⟩, hx, hc', hml, hret, hlk, hnm, hZ, hown, hEL, hE, hwr⟩ := C
  obtain ⟨h1, rfl⟩ := hd
  intro T locs vm X e0 N S w' A Kp ow
  have hZ' : Z'.Warmed39 (s.setVm vm).vm := State.Warmed39.trans (t := s) hZ S.1
  have hown' : (s.setVm vm).vm.findClass y.cls = some m.cls := (S.1.alike.findClass _ _).trans hown
  subst hst
  obtain ⟨cq, kq, q1a, q1b, q1c⟩ := isOf hZ' e0 Ex
  obtain ⟨v, vm₁, B, -, X', hS, hgr, hpost, stp⟩ := X.virtualBackS hx hown' (mvT hZ' w1) (mvT hZ' wd1) (nf hZ') (mvT hZ' ws) (mvT hZ' w2) hmh (conBack (p := p) (e := e) (below := below) (s := s) (args := args) M hZ' w4 w3 hfr hlo hEL A.1 (ext0 hE Kp hwr) (fun x hx => ⟨(ow x (how x hx)).1, (ow x (how x hx)).2.1, (ow x (how x hx)).2.2.1⟩)) q1a q1c (g := mkF m pc Ls (argsL.reverse ++ .ref a :: st)) rfl (hsz.trans hml.symm) (Steps.refl _) (argsL := argsL) (rest := st) (lenOf hpd hln) rfl (by show 2 * 0 + _ ≤ _; exact Nat.le_of_eq (Nat.zero_add _)) (hb hc' h1) (fun _ _ => ⟨rfl, e0, hce, hsl⟩)
  obtain ⟨L, os', q1, q2, q3, q4, q5, q6, q7, q8, q9⟩ := hpost
  exact afterCall (Q' := Q') (rm := rm) N S w' A Kp hE ow how (K v B.U.heap os' q1 q3 fun x hx => (q2 x hx).2) X' hS (e0 ▸ hgr) q2 q3 q4 q5 q6 q7 q8 q9 stp
theorem Go.callF {k : KT} (C : Ctx k l y bytes maxL ret R Z a0 EL wd wr h0 Q) {pc pc' : Nat} {i n : Nat} {a : Addr} {Cn : String} {zr : MethodName} {z : MethodName} {bz : ByteArray} {mz : Nat} {rz : Option FieldType} {rm : Room} {wr' : List Addr} {Q' : QT} {argsL : List Value} {ps : List FieldType} {rr : Option FieldType}
    (M : Con l Z EL wd z bz mz rz rm [] (.ref a :: argsL).toArray h wr' Q') (Ex : Exa Z h a Cn) (w1 : (Cond.methodLink y.cls i zr).before a0 Z = true) (wd1 : (Cond.declares zr).before a0 Z = true) (wf : ∀ (s : State) (as : Array Value), Z.Warmed39 s.vm → (Cond.interfaceMethod zr.cls zr.cls zr.name zr.desc).before as s = true) (ws : (Cond.selects Cn zr z).before a0 Z = true) (w2 : (Cond.instanceMethod z).before a0 Z = true) (wp : (Cond.publicMethod z).before a0 Z = true) (wu : (Cond.unhidden Cn zr.name zr.desc).before a0 Z = true) (wc : (Cond.castable Cn zr.cls).before a0 Z = true) (w3 : (Cond.initialized z.cls).before a0 Z = true) (w4 : (Cond.code z bz mz rz).before a0 Z = true) (hd : De bytes pc (.invokeinterface i n) 5 pc') (hpd : parseMethodDescriptor zr.desc = some ⟨ps, rr⟩) (hln : argsL.length = ps.length) (hmh : zr.cls ≠ "java/lang/invoke/MethodHandle" ∧ zr.cls ≠ "java/lang/invoke/VarHandle") (hsz : Ls.size = maxL) {st0 : List Value} (hst : st0 = argsL.reverse ++ .ref a :: st) (hfr : rm.frames + 1 ≤ R.frames) (hlo : (st.map fun v => v.category).sum + (mz + 11) + rm.locals ≤ R.locals) (hce : cells + rm.cells ≤ R.cells) (hsl : slots + rm.slots ≤ R.slots) (how : ∀ x ∈ wr', x ∈ os)
    (K : ∀ (v : Option Value) (h' : Heap) (os' : List Addr), Q' v h' os' → Keep h h' wr' → (∀ x ∈ os', h.size ≤ x ∧ x < h'.size) → Go k h' (os' ++ os) (cells + rm.cells) (slots + rm.slots) pc' Ls (v.toList ++ st)) : Go k h os cells slots pc Ls st0 := by
  obtain ⟨p, l', e, R', s, m, args, below, meth, c, Z', EL', wd', wr', Q'⟩ := k
  obtain ⟨⟨rfl, rfl, rfl, rfl, rfl, rfl, rfl, rfl⟩, hx, hc', hml, hret, hlk, hnm, hZ, hown, hEL, hE, hwr⟩ := C
  obtain ⟨h1, rfl⟩ := hd
  intro T locs vm X e0 N S w' A Kp ow
  have hZ' : Z'.Warmed39 (s.setVm vm).vm := State.Warmed39.trans (t := s) hZ S.1
  have hown' : (s.setVm vm).vm.findClass y.cls = some m.cls := (S.1.alike.findClass _ _).trans hown
  subst hst
  obtain ⟨cq, kq, q1a, q1b, q1c⟩ := isOf hZ' e0 Ex
  obtain ⟨v, vm₁, B, -, X', hS, hgr, hpost, stp⟩ := X.interfaceBackS hx hown' (mvT hZ' w1) (mvT hZ' wd1) (wf _ _ hZ') (mvT hZ' ws) (mvT hZ' w2) (mvT hZ' wp) (mvT hZ' wu) (mvT hZ' wc) hmh (conBack (p := p) (e := e) (below := below) (s := s) (args := args) M hZ' w4 w3 hfr hlo hEL A.1 (ext0 hE Kp hwr) (fun x hx => ⟨(ow x (how x hx)).1, (ow x (how x hx)).2.1, (ow x (how x hx)).2.2.1⟩)) q1a q1b q1c (g := mkF m pc Ls (argsL.reverse ++ .ref a :: st)) rfl (hsz.trans hml.symm) (Steps.refl _) (argsL := argsL) (rest := st) (lenOf hpd hln) rfl (by show 2 * 0 + _ ≤ _; exact Nat.le_of_eq (Nat.zero_add _)) (hb hc' h1) (fun _ _ => ⟨rfl, e0, hce, hsl⟩)
  obtain ⟨L, os', q1, q2, q3, q4, q5, q6, q7, q8, q9⟩ := hpost
  exact afterCall (Q' := Q') (rm := rm) N S w' A Kp hE ow how (K v B.U.heap os' q1 q3 fun x hx => (q2 x hx).2) X' hS (e0 ▸ hgr) q2 q3 q4 q5 q6 q7 q8 q9 stp
theorem Go.callP {k : KT} (C : Ctx k l y bytes maxL ret R Z a0 EL wd wr h0 Q) {pc pc' : Nat} {i : Nat} {a : Addr} {Cn : String} {z : MethodName} {bz : ByteArray} {mz : Nat} {rz : Option FieldType} {rm : Room} {wr' : List Addr} {Q' : QT} {argsL : List Value} {ps : List FieldType} {rr : Option FieldType}
    (M : Con l Z EL wd z bz mz rz rm [] (.ref a :: argsL).toArray h wr' Q') (Ex : Exa Z h a Cn) (w1 : (Cond.methodLink y.cls i z).before a0 Z = true) (w2 : (Cond.instanceMethod z).before a0 Z = true) (ws : (Cond.selects z.cls z z).before a0 Z = true) (wp : (Cond.privateMethod z).before a0 Z = true) (w3 : (Cond.initialized z.cls).before a0 Z = true) (w4 : (Cond.code z bz mz rz).before a0 Z = true) (hd : De bytes pc (.invokevirtual i) 3 pc') (hpd : parseMethodDescriptor z.desc = some ⟨ps, rr⟩) (hln : argsL.length = ps.length) (hmh : z.cls ≠ "java/lang/invoke/MethodHandle" ∧ z.cls ≠ "java/lang/invoke/VarHandle") (hsz : Ls.size = maxL) {st0 : List Value} (hst : st0 = argsL.reverse ++ .ref a :: st) (hfr : rm.frames + 1 ≤ R.frames) (hlo : (st.map fun v => v.category).sum + (mz + 11) + rm.locals ≤ R.locals) (hce : cells + rm.cells ≤ R.cells) (hsl : slots + rm.slots ≤ R.slots) (how : ∀ x ∈ wr', x ∈ os)
    (K : ∀ (v : Option Value) (h' : Heap) (os' : List Addr), Q' v h' os' → Keep h h' wr' → (∀ x ∈ os', h.size ≤ x ∧ x < h'.size) → Go k h' (os' ++ os) (cells + rm.cells) (slots + rm.slots) pc' Ls (v.toList ++ st)) : Go k h os cells slots pc Ls st0 := by
  obtain ⟨p, l', e, R', s, m, args, below, meth, c, Z', EL', wd', wr', Q'⟩ := k
  obtain ⟨⟨rfl, rfl, rfl, rfl, rfl, rfl, rfl, rfl⟩, hx, hc', hml, hret, hlk, hnm, hZ, hown, hEL, hE, hwr⟩ := C
  obtain ⟨h1, rfl⟩ := hd
  intro T locs vm X e0 N S w' A Kp ow
  have hZ' : Z'.Warmed39 (s.setVm vm).vm := State.Warmed39.trans (t := s) hZ S.1
  have hown' : (s.setVm vm).vm.findClass y.cls = some m.cls := (S.1.alike.findClass _ _).trans hown
  subst hst
  obtain ⟨cq, q1a, q1b⟩ := Ex.cell
  obtain ⟨v, vm₁, B, -, X', hS, hgr, hpost, stp⟩ := X.privateBackS hx hown' (mvT hZ' w1) (mvT hZ' w2) (mvT hZ' ws) (Cond.privateMethod_at (mvP hZ' wp (args := #[]))) (mvT hZ' w4) hmh (conBack (p := p) (e := e) (below := below) (s := s) (args := args) M hZ' w4 w3 hfr hlo hEL A.1 (ext0 hE Kp hwr) (fun x hx => ⟨(ow x (how x hx)).1, (ow x (how x hx)).2.1, (ow x (how x hx)).2.2.1⟩)) (g := mkF m pc Ls (argsL.reverse ++ .ref a :: st)) rfl (hsz.trans hml.symm) (Steps.refl _) (a := a) (by rw [e0]; exact q1a) q1b (argsL := argsL) (rest := st) (lenOf hpd hln) rfl (by show 2 * 0 + _ ≤ _; exact Nat.le_of_eq (Nat.zero_add _)) (hb hc' h1) (fun _ _ => ⟨rfl, e0, hce, hsl⟩)
  obtain ⟨L, os', q1, q2, q3, q4, q5, q6, q7, q8, q9⟩ := hpost
  exact afterCall (Q' := Q') (rm := rm) N S w' A Kp hE ow how (K v B.U.heap os' q1 q3 fun x hx => (q2 x hx).2) X' hS (e0 ▸ hgr) q2 q3 q4 q5 q6 q7 q8 q9 stp
theorem Go.ireturn {k : KT} {x x' : Int32} {t : FieldType} (C : Ctx k l y bytes maxL (some t) R Z a0 EL wd wr h0 Q) {pc pc' : Nat} (hd : De bytes pc .ireturn 1 pc') (hce : cells ≤ R.cells) (hsl : slots ≤ R.slots) (ht : t = .int ∨ t = .boolean ∨ t = .byte ∨ t = .char ∨ t = .short) (hn : nar t x = x') (os' : List Addr) (ho : ∀ x ∈ os', x ∈ os ∧ h0.size ≤ x) (q : Q (some (.int x')) h os') : Go k h os cells slots pc Ls (.int x :: st) := by
  obtain ⟨p, l', e, R', s, m, args, below, meth, c, Z', EL', wd', wr', Q'⟩ := k
  obtain ⟨⟨rfl, rfl, rfl, rfl, rfl, rfl, rfl, rfl⟩, hx, hc', hml, hret, hlk, hnm, hZ, hown, hEL, hE, hwr⟩ := C
  obtain ⟨h1, rfl⟩ := hd
  intro T locs vm X e0 N S w' A Kp ow
  have hZ' : Z'.Warmed39 (s.setVm vm).vm := State.Warmed39.trans (t := s) hZ S.1
  obtain ⟨fs, hr, g1, g2, hW, hs0⟩ := X.leave (v := (some (.int x'))) (fun h => by rw [hret] at h; cases h) hlk
  obtain ⟨r1, r2, r3⟩ := S.ended (U := T.setFrames fs) hW (Nat.le_of_eq (by rw [← e0]; rfl)) hs0
  have Ch := A.trans (CHv.at X hZ' hEL A.1)
  refine ⟨T.setFrames fs, _, ?_, g1, g2, (some (.int x')), locs, os', rfl, ?_, ?_, ?_, N, ?_, ⟨⟨_, rfl⟩, r1, r2, r3.mono hce hsl⟩, fun q => ⟨⟨_, rfl⟩, State.WarmedH.trans (w' q) hW, r3.mono hce hsl⟩⟩
  · subst hn
    rcases ht with rfl | ht
    · exact retOut X hx hret rfl (Or.inl ⟨rfl, Or.inl rfl, _, rfl⟩) (hb hc' h1) hr
    · exact retN X hx hret ht (hb hc' h1) hr
  · show Q' _ T.heap os'
    rw [e0]; exact q
  · intro x hx
    obtain ⟨z1, z2⟩ := ho x hx
    obtain ⟨o1, o2, o3, o4⟩ := ow x z1
    show Safe Z' EL' T.vm T.heap x ∧ s.heap.size ≤ x ∧ x < T.heap.size
    rw [e0]
    exact ⟨(CHv.at X hZ' hEL A.1).safe o3 o1, z2, o3⟩
  · show Keep s.heap T.heap wr'
    rw [e0]; exact Kp
  · show CHr Z' EL' s.vm s.heap T.vm T.heap
    rw [e0]; exact Ch
theorem Go.lreturn {k : KT} {x : Int64} (C : Ctx k l y bytes maxL (some .long) R Z a0 EL wd wr h0 Q) {pc pc' : Nat} (hd : De bytes pc .lreturn 1 pc') (hce : cells ≤ R.cells) (hsl : slots ≤ R.slots) (os' : List Addr) (ho : ∀ x ∈ os', x ∈ os ∧ h0.size ≤ x) (q : Q (some (.long x)) h os') : Go k h os cells slots pc Ls (.long x :: st) := by
  obtain ⟨p, l', e, R', s, m, args, below, meth, c, Z', EL', wd', wr', Q'⟩ := k
  obtain ⟨⟨rfl, rfl, rfl, rfl, rfl, rfl, rfl, rfl⟩, hx, hc', hml, hret, hlk, hnm, hZ, hown, hEL, hE, hwr⟩ := C
  obtain ⟨h1, rfl⟩ := hd
  intro T locs vm X e0 N S w' A Kp ow
  have hZ' : Z'.Warmed39 (s.setVm vm).vm := State.Warmed39.trans (t := s) hZ S.1
  obtain ⟨fs, hr, g1, g2, hW, hs0⟩ := X.leave (v := (some (.long x))) (fun h => by rw [hret] at h; cases h) hlk
  obtain ⟨r1, r2, r3⟩ := S.ended (U := T.setFrames fs) hW (Nat.le_of_eq (by rw [← e0]; rfl)) hs0
  have Ch := A.trans (CHv.at X hZ' hEL A.1)
  refine ⟨T.setFrames fs, _, ?_, g1, g2, (some (.long x)), locs, os', rfl, ?_, ?_, ?_, N, ?_, ⟨⟨_, rfl⟩, r1, r2, r3.mono hce hsl⟩, fun q => ⟨⟨_, rfl⟩, State.WarmedH.trans (w' q) hW, r3.mono hce hsl⟩⟩
  · exact retOut X hx hret rfl (Or.inr (Or.inl ⟨rfl, rfl, _, rfl⟩)) (hb hc' h1) hr
  · show Q' _ T.heap os'
    rw [e0]; exact q
  · intro x hx
    obtain ⟨z1, z2⟩ := ho x hx
    obtain ⟨o1, o2, o3, o4⟩ := ow x z1
    show Safe Z' EL' T.vm T.heap x ∧ s.heap.size ≤ x ∧ x < T.heap.size
    rw [e0]
    exact ⟨(CHv.at X hZ' hEL A.1).safe o3 o1, z2, o3⟩
  · show Keep s.heap T.heap wr'
    rw [e0]; exact Kp
  · show CHr Z' EL' s.vm s.heap T.vm T.heap
    rw [e0]; exact Ch
theorem Go.dreturn {k : KT} {x : UInt64} (C : Ctx k l y bytes maxL (some .double) R Z a0 EL wd wr h0 Q) {pc pc' : Nat} (hd : De bytes pc .dreturn 1 pc') (hce : cells ≤ R.cells) (hsl : slots ≤ R.slots) (os' : List Addr) (ho : ∀ x ∈ os', x ∈ os ∧ h0.size ≤ x) (q : Q (some (.double x)) h os') : Go k h os cells slots pc Ls (.double x :: st) := by
  obtain ⟨p, l', e, R', s, m, args, below, meth, c, Z', EL', wd', wr', Q'⟩ := k
  obtain ⟨⟨rfl, rfl, rfl, rfl, rfl, rfl, rfl, rfl⟩, hx, hc', hml, hret, hlk, hnm, hZ, hown, hEL, hE, hwr⟩ := C
  obtain ⟨h1, rfl⟩ := hd
  intro T locs vm X e0 N S w' A Kp ow
  have hZ' : Z'.Warmed39 (s.setVm vm).vm := State.Warmed39.trans (t := s) hZ S.1
  obtain ⟨fs, hr, g1, g2, hW, hs0⟩ := X.leave (v := (some (.double x))) (fun h => by rw [hret] at h; cases h) hlk
  obtain ⟨r1, r2, r3⟩ := S.ended (U := T.setFrames fs) hW (Nat.le_of_eq (by rw [← e0]; rfl)) hs0
  have Ch := A.trans (CHv.at X hZ' hEL A.1)
  refine ⟨T.setFrames fs, _, ?_, g1, g2, (some (.double x)), locs, os', rfl, ?_, ?_, ?_, N, ?_, ⟨⟨_, rfl⟩, r1, r2, r3.mono hce hsl⟩, fun q => ⟨⟨_, rfl⟩, State.WarmedH.trans (w' q) hW, r3.mono hce hsl⟩⟩
  · exact retOut X hx hret rfl (Or.inr (Or.inr (Or.inl ⟨rfl, rfl, _, rfl⟩))) (hb hc' h1) hr
  · show Q' _ T.heap os'
    rw [e0]; exact q
  · intro x hx
    obtain ⟨z1, z2⟩ := ho x hx
    obtain ⟨o1, o2, o3, o4⟩ := ow x z1
    show Safe Z' EL' T.vm T.heap x ∧ s.heap.size ≤ x ∧ x < T.heap.size
    rw [e0]
    exact ⟨(CHv.at X hZ' hEL A.1).safe o3 o1, z2, o3⟩
  · show Keep s.heap T.heap wr'
    rw [e0]; exact Kp
  · show CHr Z' EL' s.vm s.heap T.vm T.heap
    rw [e0]; exact Ch
theorem Go.areturn {k : KT} {v : Value} {t : FieldType} (C : Ctx k l y bytes maxL (some t) R Z a0 EL wd wr h0 Q) {pc pc' : Nat} (hd : De bytes pc .areturn 1 pc') (hce : cells ≤ R.cells) (hsl : slots ≤ R.slots) (ht : t.isReference = true) (hvr : v.isRef = true) (os' : List Addr) (ho : ∀ x ∈ os', x ∈ os ∧ h0.size ≤ x) (q : Q (some v) h os') : Go k h os cells slots pc Ls (v :: st) := by
  obtain ⟨p, l', e, R', s, m, args, below, meth, c, Z', EL', wd', wr', Q'⟩ := k
  obtain ⟨⟨rfl, rfl, rfl, rfl, rfl, rfl, rfl, rfl⟩, hx, hc', hml, hret, hlk, hnm, hZ, hown, hEL, hE, hwr⟩ := C
  obtain ⟨h1, rfl⟩ := hd
  intro T locs vm X e0 N S w' A Kp ow
  have hZ' : Z'.Warmed39 (s.setVm vm).vm := State.Warmed39.trans (t := s) hZ S.1
  obtain ⟨fs, hr, g1, g2, hW, hs0⟩ := X.leave (v := (some v)) (fun h => by rw [hret] at h; cases h) hlk
  obtain ⟨r1, r2, r3⟩ := S.ended (U := T.setFrames fs) hW (Nat.le_of_eq (by rw [← e0]; rfl)) hs0
  have Ch := A.trans (CHv.at X hZ' hEL A.1)
  refine ⟨T.setFrames fs, _, ?_, g1, g2, (some v), locs, os', rfl, ?_, ?_, ?_, N, ?_, ⟨⟨_, rfl⟩, r1, r2, r3.mono hce hsl⟩, fun q => ⟨⟨_, rfl⟩, State.WarmedH.trans (w' q) hW, r3.mono hce hsl⟩⟩
  · exact retOut X hx hret (by cases t <;> first | rfl | cases ht) (Or.inr (Or.inr (Or.inr (Or.inr ⟨rfl, ht, hvr⟩)))) (hb hc' h1) hr
  · show Q' _ T.heap os'
    rw [e0]; exact q
  · intro x hx
    obtain ⟨z1, z2⟩ := ho x hx
    obtain ⟨o1, o2, o3, o4⟩ := ow x z1
    show Safe Z' EL' T.vm T.heap x ∧ s.heap.size ≤ x ∧ x < T.heap.size
    rw [e0]
    exact ⟨(CHv.at X hZ' hEL A.1).safe o3 o1, z2, o3⟩
  · show Keep s.heap T.heap wr'
    rw [e0]; exact Kp
  · show CHr Z' EL' s.vm s.heap T.vm T.heap
    rw [e0]; exact Ch
theorem Go.retV {k : KT}  (C : Ctx k l y bytes maxL none R Z a0 EL wd wr h0 Q) {pc pc' : Nat} (hd : De bytes pc .return_ 1 pc') (hce : cells ≤ R.cells) (hsl : slots ≤ R.slots) (os' : List Addr) (ho : ∀ x ∈ os', x ∈ os ∧ h0.size ≤ x) (q : Q none h os') : Go k h os cells slots pc Ls (([] : List Value)) := by
  obtain ⟨p, l', e, R', s, m, args, below, meth, c, Z', EL', wd', wr', Q'⟩ := k
  obtain ⟨⟨rfl, rfl, rfl, rfl, rfl, rfl, rfl, rfl⟩, hx, hc', hml, hret, hlk, hnm, hZ, hown, hEL, hE, hwr⟩ := C
  obtain ⟨h1, rfl⟩ := hd
  intro T locs vm X e0 N S w' A Kp ow
  have hZ' : Z'.Warmed39 (s.setVm vm).vm := State.Warmed39.trans (t := s) hZ S.1
  obtain ⟨fs, hr, g1, g2, hW, hs0⟩ := X.leave (v := none) (fun _ => rfl) hlk
  obtain ⟨r1, r2, r3⟩ := S.ended (U := T.setFrames fs) hW (Nat.le_of_eq (by rw [← e0]; rfl)) hs0
  have Ch := A.trans (CHv.at X hZ' hEL A.1)
  refine ⟨T.setFrames fs, _, ?_, g1, g2, none, locs, os', rfl, ?_, ?_, ?_, N, ?_, ⟨⟨_, rfl⟩, r1, r2, r3.mono hce hsl⟩, fun q => ⟨⟨_, rfl⟩, State.WarmedH.trans (w' q) hW, r3.mono hce hsl⟩⟩
  · exact X.returnOut hx hret (hb hc' h1) hr
  · show Q' _ T.heap os'
    rw [e0]; exact q
  · intro x hx
    obtain ⟨z1, z2⟩ := ho x hx
    obtain ⟨o1, o2, o3, o4⟩ := ow x z1
    show Safe Z' EL' T.vm T.heap x ∧ s.heap.size ≤ x ∧ x < T.heap.size
    rw [e0]
    exact ⟨(CHv.at X hZ' hEL A.1).safe o3 o1, z2, o3⟩
  · show Keep s.heap T.heap wr'
    rw [e0]; exact Kp
  · show CHr Z' EL' s.vm s.heap T.vm T.heap
    rw [e0]; exact Ch
theorem Con.intro {ws : List Jvm.Cond} {as' : Array Value} {rm : Room} (hpl : plainFor y = true) (hEL : EW Z a0 EL) (hen : ∀ m, entryFrame m as' maxL = mkF m 0 Ls [])
    (G : ∀ k, Ctx k l y bytes maxL ret rm Z a0 EL wd wr h Q → Go k h wr 0 0 0 Ls []) : Con l Z EL wd y bytes maxL ret rm ws as' h wr Q := by
  refine MetFree.of_bodySF hpl hisR ?_
  intro p e s m args below meth c s₁ Bd hml hP hK
  obtain ⟨rfl, hZ, rfl, H, hE, hsf⟩ := hP
  have X0 : Stand p l e rm s m args below meth c s₁ [] 0 0 := Stand.of_body Bd
  have e0 : s₁.heap = s.heap := by rw [Bd.state]; rfl
  have G' := G ⟨p, l, e, rm, s, m, args, below, meth, c, Z, EL, wd, wr, Q⟩ ⟨⟨rfl, rfl, rfl, rfl, rfl, rfl, rfl, rfl⟩, Bd.exec, Bd.bytes, hml, Bd.returns, Bd.notSynchronized, (name_of_methodNamed Bd.named Bd.method).1, hZ, findClass_of_methodNamed Bd.named, hEL, hE, fun x hx => (hsf x hx).2.1⟩
    s₁ [] s.vm X0 e0 (Fr.nil _) ((State.WarmedH.refl s).since _) (fun _ => State.WarmedH.refl s) (CHr.refl H) (Keep.refl _ _) (fun x hx => ⟨(hsf x hx).1, (hsf x hx).2.1, (hsf x hx).2.2, Or.inl hx⟩)
  obtain ⟨s', o, g1, g2, g3, g4⟩ := G'
  exact ⟨s', o, castTop (hen m) g1, g2, g3, g4⟩
end Heapy
end Jvm.OwnGo
namespace Jvm.Pilot.@@N@@
open Jvm Jvm.ClassFile Sem Op Lib Jvm.Free Jvm.Stand Jvm.LawKit Jvm.RoadKit Jvm.OwnGo Bundle Jvm.Pilot.@@N@@.Jvm.D
def own_bs (p q : Int32) : Int32 := if p < q then -2 else if q < p then -1 else 0
theorem own_bs_lt {p q : Int32} (h : p < q) : own_bs p q = -2 := if_pos h
theorem own_bs_gt {p q : Int32} (h : q < p) : own_bs p q = -1 := by
  have : ¬ p < q := fun z => by rw [Int32.lt_iff_toInt_lt] at *; omega
  simp [own_bs, this, h]
theorem own_bs_eq {p q : Int32} (h : ¬ p < q) (h' : ¬ q < p) : own_bs p q = 0 := by simp [own_bs, h, h']
theorem own_eq_of {p q : Int32} (h : ¬ p < q) (h' : ¬ q < p) : q = p := by
  rw [Int32.lt_iff_toInt_lt] at *; exact Int32.toInt_inj.mp (by omega)
theorem own_ne_lt {p q : Int32} (h : p < q) : ¬ q = p := fun e => by subst e; rw [Int32.lt_iff_toInt_lt] at h; omega
theorem own_bs_cases (p q : Int32) : (p < q ∧ own_bs p q = -2) ∨ (¬ p < q ∧ own_bs p q = -1) ∨ (¬ p < q ∧ own_bs p q = 0) := by
  by_cases h : p < q
  · exact Or.inl ⟨h, own_bs_lt h⟩
  · by_cases h' : q < p
    · exact Or.inr (Or.inl ⟨h, own_bs_gt h'⟩)
    · exact Or.inr (Or.inr ⟨h, own_bs_eq h h'⟩)
theorem own_bs_neg {p q : Int32} (h : own_bs p q < 0) : ¬ q = p := fun e => by
  subst e
  have : ¬ q < q := fun z => by rw [Int32.lt_iff_toInt_lt] at z; omega
  rw [own_bs_eq this this] at h; exact absurd h (by decide)
theorem own_bs_nn {p q : Int32} (h : ¬ own_bs p q < 0) : q = p := by
  by_cases h1 : p < q
  · rw [own_bs_lt h1] at h; exact absurd (by decide) h
  · by_cases h2 : q < p
    · rw [own_bs_gt h2] at h; exact absurd (by decide) h
    · exact own_eq_of h1 h2
abbrev own_EL : List (String × Nat) := []
abbrev y_7 : MethodName := ⟨"com/example/kapok/kapok/reasoning/ReasonsOfPinLaw", "at", "(Lcom/example/kapok/kapok/reasoning/Reasons;II)Z"⟩
abbrev y_6 : MethodName := ⟨"com/example/kapok/kapok/reasoning/ReasonsOfPinLaw", "refNext", "(II)I"⟩
abbrev y_5 : MethodName := ⟨"com/example/kapok/kapok/reasoning/Reasons", "next", "(I)I"⟩
abbrev y_4 : MethodName := ⟨"com/example/kapok/kapok/reasoning/Reasons", "contains", "(I)Z"⟩
abbrev y_3 : MethodName := ⟨"java/util/Arrays", "binarySearch", "([II)I"⟩
abbrev y_2 : MethodName := ⟨"java/util/Arrays", "binarySearch0", "([IIII)I"⟩
abbrev y_1 : MethodName := ⟨"com/example/kapok/kapok/reasoning/Reasons", "of", "(I)Lcom/example/kapok/kapok/reasoning/Reasons;"⟩
abbrev y_0 : MethodName := ⟨"com/example/kapok/kapok/reasoning/Reasons", "<init>", "([I)V"⟩
theorem d0_0 : De code 0 (.iload_n 0) 1 1 := ⟨by decide +kernel, rfl⟩
theorem d0_1 : De code 1 (.invokestatic 23) 3 4 := ⟨by decide +kernel, rfl⟩
theorem d0_4 : De code 4 (.astore_n 2) 1 5 := ⟨by decide +kernel, rfl⟩
theorem d0_5 : De code 5 (.aload_n 2) 1 6 := ⟨by decide +kernel, rfl⟩
theorem d0_6 : De code 6 (.iload_n 0) 1 7 := ⟨by decide +kernel, rfl⟩
theorem d0_7 : De code 7 (.iload_n 0) 1 8 := ⟨by decide +kernel, rfl⟩
theorem d0_8 : De code 8 (.invokestatic 27) 3 11 := ⟨by decide +kernel, rfl⟩
theorem d0_11 : DeJ code 11 (.ifCond .eq) 14 49 := ⟨38, by decide +kernel, rfl, by decide, by decide⟩
theorem d0_14 : De code 14 (.aload_n 2) 1 15 := ⟨by decide +kernel, rfl⟩
theorem d0_15 : De code 15 (.iload_n 0) 1 16 := ⟨by decide +kernel, rfl⟩
theorem d0_16 : De code 16 (.iload_n 0) 1 17 := ⟨by decide +kernel, rfl⟩
theorem d0_17 : De code 17 (.iconst 1) 1 18 := ⟨by decide +kernel, rfl⟩
theorem d0_18 : De code 18 (.isub) 1 19 := ⟨by decide +kernel, rfl⟩
theorem d0_19 : De code 19 (.invokestatic 27) 3 22 := ⟨by decide +kernel, rfl⟩
theorem d0_22 : DeJ code 22 (.ifCond .eq) 25 49 := ⟨27, by decide +kernel, rfl, by decide, by decide⟩
theorem d0_25 : De code 25 (.aload_n 2) 1 26 := ⟨by decide +kernel, rfl⟩
theorem d0_26 : De code 26 (.iload_n 0) 1 27 := ⟨by decide +kernel, rfl⟩
theorem d0_27 : De code 27 (.iload_n 0) 1 28 := ⟨by decide +kernel, rfl⟩
theorem d0_28 : De code 28 (.iconst 1) 1 29 := ⟨by decide +kernel, rfl⟩
theorem d0_29 : De code 29 (.iadd) 1 30 := ⟨by decide +kernel, rfl⟩
theorem d0_30 : De code 30 (.invokestatic 27) 3 33 := ⟨by decide +kernel, rfl⟩
theorem d0_33 : DeJ code 33 (.ifCond .eq) 36 49 := ⟨16, by decide +kernel, rfl, by decide, by decide⟩
theorem d0_36 : De code 36 (.aload_n 2) 1 37 := ⟨by decide +kernel, rfl⟩
theorem d0_37 : De code 37 (.iload_n 0) 1 38 := ⟨by decide +kernel, rfl⟩
theorem d0_38 : De code 38 (.iload_n 1) 1 39 := ⟨by decide +kernel, rfl⟩
theorem d0_39 : De code 39 (.invokestatic 27) 3 42 := ⟨by decide +kernel, rfl⟩
theorem d0_42 : DeJ code 42 (.ifCond .eq) 45 49 := ⟨7, by decide +kernel, rfl, by decide, by decide⟩
theorem d0_45 : De code 45 (.iconst 1) 1 46 := ⟨by decide +kernel, rfl⟩
theorem d0_46 : DeJ code 46 .goto 49 50 := ⟨4, by decide +kernel, rfl, by decide, by decide⟩
theorem d0_50 : De code 50 (.ireturn) 1 51 := ⟨by decide +kernel, rfl⟩
theorem d1_0 : De prog_13_method_2_code 0 (.new 8) 3 3 := ⟨by decide +kernel, rfl⟩
theorem d1_3 : De prog_13_method_2_code 3 (.dup) 1 4 := ⟨by decide +kernel, rfl⟩
theorem d1_4 : De prog_13_method_2_code 4 (.iconst 1) 1 5 := ⟨by decide +kernel, rfl⟩
theorem d1_5 : De prog_13_method_2_code 5 (.newarray .int) 2 7 := ⟨by decide +kernel, rfl⟩
theorem d1_7 : De prog_13_method_2_code 7 (.dup) 1 8 := ⟨by decide +kernel, rfl⟩
theorem d1_8 : De prog_13_method_2_code 8 (.iconst 0) 1 9 := ⟨by decide +kernel, rfl⟩
theorem d1_9 : De prog_13_method_2_code 9 (.iload_n 0) 1 10 := ⟨by decide +kernel, rfl⟩
theorem d1_10 : De prog_13_method_2_code 10 (.iastore) 1 11 := ⟨by decide +kernel, rfl⟩
theorem d1_11 : De prog_13_method_2_code 11 (.invokespecial 13) 3 14 := ⟨by decide +kernel, rfl⟩
theorem d1_14 : De prog_13_method_2_code 14 (.areturn) 1 15 := ⟨by decide +kernel, rfl⟩
theorem d2_0 : De prog_13_method_1_code 0 (.aload_n 0) 1 1 := ⟨by decide +kernel, rfl⟩
theorem d2_1 : De prog_13_method_1_code 1 (.invokespecial 1) 3 4 := ⟨by decide +kernel, rfl⟩
theorem d2_4 : De prog_13_method_1_code 4 (.aload_n 0) 1 5 := ⟨by decide +kernel, rfl⟩
theorem d2_5 : De prog_13_method_1_code 5 (.aload_n 1) 1 6 := ⟨by decide +kernel, rfl⟩
theorem d2_6 : De prog_13_method_1_code 6 (.putfield 7) 3 9 := ⟨by decide +kernel, rfl⟩
theorem d2_9 : De prog_13_method_1_code 9 (.return_) 1 10 := ⟨by decide +kernel, rfl⟩
theorem d4_0 : De method_3_code 0 (.aload_n 0) 1 1 := ⟨by decide +kernel, rfl⟩
theorem d4_1 : De method_3_code 1 (.iload_n 2) 1 2 := ⟨by decide +kernel, rfl⟩
theorem d4_2 : De method_3_code 2 (.invokevirtual 7) 3 5 := ⟨by decide +kernel, rfl⟩
theorem d4_5 : De method_3_code 5 (.iload_n 2) 1 6 := ⟨by decide +kernel, rfl⟩
theorem d4_6 : De method_3_code 6 (.iload_n 1) 1 7 := ⟨by decide +kernel, rfl⟩
theorem d4_7 : DeJ method_3_code 7 (.if_icmp .ne) 10 14 := ⟨7, by decide +kernel, rfl, by decide, by decide⟩
theorem d4_10 : De method_3_code 10 (.iconst 1) 1 11 := ⟨by decide +kernel, rfl⟩
theorem d4_11 : DeJ method_3_code 11 .goto 14 15 := ⟨4, by decide +kernel, rfl, by decide, by decide⟩
theorem d4_14 : De method_3_code 14 (.iconst 0) 1 15 := ⟨by decide +kernel, rfl⟩
theorem d4_15 : DeJ method_3_code 15 (.if_icmp .ne) 18 35 := ⟨20, by decide +kernel, rfl, by decide, by decide⟩
theorem d4_18 : De method_3_code 18 (.aload_n 0) 1 19 := ⟨by decide +kernel, rfl⟩
theorem d4_19 : De method_3_code 19 (.iload_n 2) 1 20 := ⟨by decide +kernel, rfl⟩
theorem d4_20 : De method_3_code 20 (.invokevirtual 13) 3 23 := ⟨by decide +kernel, rfl⟩
theorem d4_23 : De method_3_code 23 (.iload_n 1) 1 24 := ⟨by decide +kernel, rfl⟩
theorem d4_24 : De method_3_code 24 (.iload_n 2) 1 25 := ⟨by decide +kernel, rfl⟩
theorem d4_25 : De method_3_code 25 (.invokestatic 17) 3 28 := ⟨by decide +kernel, rfl⟩
theorem d4_28 : DeJ method_3_code 28 (.if_icmp .ne) 31 35 := ⟨7, by decide +kernel, rfl, by decide, by decide⟩
theorem d4_31 : De method_3_code 31 (.iconst 1) 1 32 := ⟨by decide +kernel, rfl⟩
theorem d4_32 : DeJ method_3_code 32 .goto 35 36 := ⟨4, by decide +kernel, rfl, by decide, by decide⟩
theorem d4_36 : De method_3_code 36 (.ireturn) 1 37 := ⟨by decide +kernel, rfl⟩
theorem d5_0 : De prog_13_method_6_code 0 (.aload_n 0) 1 1 := ⟨by decide +kernel, rfl⟩
theorem d5_1 : De prog_13_method_6_code 1 (.getfield 7) 3 4 := ⟨by decide +kernel, rfl⟩
theorem d5_4 : De prog_13_method_6_code 4 (.iload_n 1) 1 5 := ⟨by decide +kernel, rfl⟩
theorem d5_5 : De prog_13_method_6_code 5 (.invokestatic 16) 3 8 := ⟨by decide +kernel, rfl⟩
theorem d5_8 : DeJ prog_13_method_6_code 8 (.ifCond .lt) 11 15 := ⟨7, by decide +kernel, rfl, by decide, by decide⟩
theorem d5_11 : De prog_13_method_6_code 11 (.iconst 1) 1 12 := ⟨by decide +kernel, rfl⟩
theorem d5_12 : DeJ prog_13_method_6_code 12 .goto 15 16 := ⟨4, by decide +kernel, rfl, by decide, by decide⟩
theorem d5_15 : De prog_13_method_6_code 15 (.iconst 0) 1 16 := ⟨by decide +kernel, rfl⟩
theorem d5_16 : De prog_13_method_6_code 16 (.ireturn) 1 17 := ⟨by decide +kernel, rfl⟩
theorem d6_0 : De jdk_65_method_57_code 0 (.aload_n 0) 1 1 := ⟨by decide +kernel, rfl⟩
theorem d6_1 : De jdk_65_method_57_code 1 (.iconst 0) 1 2 := ⟨by decide +kernel, rfl⟩
theorem d6_2 : De jdk_65_method_57_code 2 (.aload_n 0) 1 3 := ⟨by decide +kernel, rfl⟩
theorem d6_3 : De jdk_65_method_57_code 3 (.arraylength) 1 4 := ⟨by decide +kernel, rfl⟩
theorem d6_4 : De jdk_65_method_57_code 4 (.iload_n 1) 1 5 := ⟨by decide +kernel, rfl⟩
theorem d6_5 : De jdk_65_method_57_code 5 (.invokestatic 209) 3 8 := ⟨by decide +kernel, rfl⟩
theorem d6_8 : De jdk_65_method_57_code 8 (.ireturn) 1 9 := ⟨by decide +kernel, rfl⟩
theorem d7_0 : De jdk_65_method_59_code 0 (.iload_n 1) 1 1 := ⟨by decide +kernel, rfl⟩
theorem d7_1 : De jdk_65_method_59_code 1 (.istore 4) 2 3 := ⟨by decide +kernel, rfl⟩
theorem d7_3 : De jdk_65_method_59_code 3 (.iload_n 2) 1 4 := ⟨by decide +kernel, rfl⟩
theorem d7_4 : De jdk_65_method_59_code 4 (.iconst 1) 1 5 := ⟨by decide +kernel, rfl⟩
theorem d7_5 : De jdk_65_method_59_code 5 (.isub) 1 6 := ⟨by decide +kernel, rfl⟩
theorem d7_6 : De jdk_65_method_59_code 6 (.istore 5) 2 8 := ⟨by decide +kernel, rfl⟩
theorem d7_8 : De jdk_65_method_59_code 8 (.iload 4) 2 10 := ⟨by decide +kernel, rfl⟩
theorem d7_10 : De jdk_65_method_59_code 10 (.iload 5) 2 12 := ⟨by decide +kernel, rfl⟩
theorem d7_12 : DeJ jdk_65_method_59_code 12 (.if_icmp .gt) 15 66 := ⟨54, by decide +kernel, rfl, by decide, by decide⟩
theorem d7_15 : De jdk_65_method_59_code 15 (.iload 4) 2 17 := ⟨by decide +kernel, rfl⟩
theorem d7_17 : De jdk_65_method_59_code 17 (.iload 5) 2 19 := ⟨by decide +kernel, rfl⟩
theorem d7_19 : De jdk_65_method_59_code 19 (.iadd) 1 20 := ⟨by decide +kernel, rfl⟩
theorem d7_20 : De jdk_65_method_59_code 20 (.iconst 1) 1 21 := ⟨by decide +kernel, rfl⟩
theorem d7_21 : De jdk_65_method_59_code 21 (.iushr) 1 22 := ⟨by decide +kernel, rfl⟩
theorem d7_22 : De jdk_65_method_59_code 22 (.istore 6) 2 24 := ⟨by decide +kernel, rfl⟩
theorem d7_24 : De jdk_65_method_59_code 24 (.aload_n 0) 1 25 := ⟨by decide +kernel, rfl⟩
theorem d7_25 : De jdk_65_method_59_code 25 (.iload 6) 2 27 := ⟨by decide +kernel, rfl⟩
theorem d7_27 : De jdk_65_method_59_code 27 (.iaload) 1 28 := ⟨by decide +kernel, rfl⟩
theorem d7_28 : De jdk_65_method_59_code 28 (.istore 7) 2 30 := ⟨by decide +kernel, rfl⟩
theorem d7_30 : De jdk_65_method_59_code 30 (.iload 7) 2 32 := ⟨by decide +kernel, rfl⟩
theorem d7_32 : De jdk_65_method_59_code 32 (.iload_n 3) 1 33 := ⟨by decide +kernel, rfl⟩
theorem d7_33 : DeJ jdk_65_method_59_code 33 (.if_icmp .ge) 36 45 := ⟨12, by decide +kernel, rfl, by decide, by decide⟩
theorem d7_36 : De jdk_65_method_59_code 36 (.iload 6) 2 38 := ⟨by decide +kernel, rfl⟩
theorem d7_38 : De jdk_65_method_59_code 38 (.iconst 1) 1 39 := ⟨by decide +kernel, rfl⟩
theorem d7_39 : De jdk_65_method_59_code 39 (.iadd) 1 40 := ⟨by decide +kernel, rfl⟩
theorem d7_40 : De jdk_65_method_59_code 40 (.istore 4) 2 42 := ⟨by decide +kernel, rfl⟩
theorem d7_42 : DeJ jdk_65_method_59_code 42 .goto 45 63 := ⟨21, by decide +kernel, rfl, by decide, by decide⟩
theorem d7_45 : De jdk_65_method_59_code 45 (.iload 7) 2 47 := ⟨by decide +kernel, rfl⟩
theorem d7_47 : De jdk_65_method_59_code 47 (.iload_n 3) 1 48 := ⟨by decide +kernel, rfl⟩
theorem d7_48 : DeJ jdk_65_method_59_code 48 (.if_icmp .le) 51 60 := ⟨12, by decide +kernel, rfl, by decide, by decide⟩
theorem d7_51 : De jdk_65_method_59_code 51 (.iload 6) 2 53 := ⟨by decide +kernel, rfl⟩
theorem d7_53 : De jdk_65_method_59_code 53 (.iconst 1) 1 54 := ⟨by decide +kernel, rfl⟩
theorem d7_54 : De jdk_65_method_59_code 54 (.isub) 1 55 := ⟨by decide +kernel, rfl⟩
theorem d7_55 : De jdk_65_method_59_code 55 (.istore 5) 2 57 := ⟨by decide +kernel, rfl⟩
theorem d7_57 : DeJ jdk_65_method_59_code 57 .goto 60 63 := ⟨6, by decide +kernel, rfl, by decide, by decide⟩
theorem d7_60 : De jdk_65_method_59_code 60 (.iload 6) 2 62 := ⟨by decide +kernel, rfl⟩
theorem d7_62 : De jdk_65_method_59_code 62 (.ireturn) 1 63 := ⟨by decide +kernel, rfl⟩
theorem d7_63 : DeJ jdk_65_method_59_code 63 .goto 66 8 := ⟨(-55), by decide +kernel, rfl, by decide, by decide⟩
theorem d7_66 : De jdk_65_method_59_code 66 (.iload 4) 2 68 := ⟨by decide +kernel, rfl⟩
theorem d7_68 : De jdk_65_method_59_code 68 (.iconst 1) 1 69 := ⟨by decide +kernel, rfl⟩
theorem d7_69 : De jdk_65_method_59_code 69 (.iadd) 1 70 := ⟨by decide +kernel, rfl⟩
theorem d7_70 : De jdk_65_method_59_code 70 (.ineg) 1 71 := ⟨by decide +kernel, rfl⟩
theorem d7_71 : De jdk_65_method_59_code 71 (.ireturn) 1 72 := ⟨by decide +kernel, rfl⟩
theorem d8_0 : De prog_13_method_7_code 0 (.aload_n 0) 1 1 := ⟨by decide +kernel, rfl⟩
theorem d8_1 : De prog_13_method_7_code 1 (.getfield 7) 3 4 := ⟨by decide +kernel, rfl⟩
theorem d8_4 : De prog_13_method_7_code 4 (.iload_n 1) 1 5 := ⟨by decide +kernel, rfl⟩
theorem d8_5 : De prog_13_method_7_code 5 (.invokestatic 16) 3 8 := ⟨by decide +kernel, rfl⟩
theorem d8_8 : De prog_13_method_7_code 8 (.istore_n 2) 1 9 := ⟨by decide +kernel, rfl⟩
theorem d8_9 : De prog_13_method_7_code 9 (.iload_n 2) 1 10 := ⟨by decide +kernel, rfl⟩
theorem d8_10 : DeJ prog_13_method_7_code 10 (.ifCond .ge) 13 18 := ⟨8, by decide +kernel, rfl, by decide, by decide⟩
theorem d8_13 : De prog_13_method_7_code 13 (.iload_n 2) 1 14 := ⟨by decide +kernel, rfl⟩
theorem d8_14 : De prog_13_method_7_code 14 (.ineg) 1 15 := ⟨by decide +kernel, rfl⟩
theorem d8_15 : De prog_13_method_7_code 15 (.iconst 1) 1 16 := ⟨by decide +kernel, rfl⟩
theorem d8_16 : De prog_13_method_7_code 16 (.isub) 1 17 := ⟨by decide +kernel, rfl⟩
theorem d8_17 : De prog_13_method_7_code 17 (.istore_n 2) 1 18 := ⟨by decide +kernel, rfl⟩
theorem d8_18 : De prog_13_method_7_code 18 (.iload_n 2) 1 19 := ⟨by decide +kernel, rfl⟩
theorem d8_19 : De prog_13_method_7_code 19 (.aload_n 0) 1 20 := ⟨by decide +kernel, rfl⟩
theorem d8_20 : De prog_13_method_7_code 20 (.getfield 7) 3 23 := ⟨by decide +kernel, rfl⟩
theorem d8_23 : De prog_13_method_7_code 23 (.arraylength) 1 24 := ⟨by decide +kernel, rfl⟩
theorem d8_24 : DeJ prog_13_method_7_code 24 (.if_icmp .ge) 27 36 := ⟨12, by decide +kernel, rfl, by decide, by decide⟩
theorem d8_27 : De prog_13_method_7_code 27 (.aload_n 0) 1 28 := ⟨by decide +kernel, rfl⟩
theorem d8_28 : De prog_13_method_7_code 28 (.getfield 7) 3 31 := ⟨by decide +kernel, rfl⟩
theorem d8_31 : De prog_13_method_7_code 31 (.iload_n 2) 1 32 := ⟨by decide +kernel, rfl⟩
theorem d8_32 : De prog_13_method_7_code 32 (.iaload) 1 33 := ⟨by decide +kernel, rfl⟩
theorem d8_33 : DeJ prog_13_method_7_code 33 .goto 36 37 := ⟨4, by decide +kernel, rfl, by decide, by decide⟩
theorem d8_36 : De prog_13_method_7_code 36 (.iconst (-1)) 1 37 := ⟨by decide +kernel, rfl⟩
theorem d8_37 : De prog_13_method_7_code 37 (.ireturn) 1 38 := ⟨by decide +kernel, rfl⟩
theorem d9_0 : De method_2_code 0 (.iload_n 0) 1 1 := ⟨by decide +kernel, rfl⟩
theorem d9_1 : De method_2_code 1 (.iload_n 1) 1 2 := ⟨by decide +kernel, rfl⟩
theorem d9_2 : DeJ method_2_code 2 (.if_icmp .lt) 5 9 := ⟨7, by decide +kernel, rfl, by decide, by decide⟩
theorem d9_5 : De method_2_code 5 (.iload_n 0) 1 6 := ⟨by decide +kernel, rfl⟩
theorem d9_6 : DeJ method_2_code 6 .goto 9 10 := ⟨4, by decide +kernel, rfl, by decide, by decide⟩
theorem d9_9 : De method_2_code 9 (.iconst (-1)) 1 10 := ⟨by decide +kernel, rfl⟩
theorem d9_10 : De method_2_code 10 (.ireturn) 1 11 := ⟨by decide +kernel, rfl⟩
theorem pd_0 : parseMethodDescriptor "([I)V" = some ⟨[(.array .int)], none⟩ := by decide +kernel
theorem pd_1 : parseMethodDescriptor "([IIII)I" = some ⟨[(.array .int), .int, .int, .int], some .int⟩ := by decide +kernel
theorem pd_2 : parseMethodDescriptor "([II)I" = some ⟨[(.array .int), .int], some .int⟩ := by decide +kernel
theorem pd_3 : parseMethodDescriptor "(I)Z" = some ⟨[.int], some .boolean⟩ := by decide +kernel
theorem pd_4 : parseMethodDescriptor "(I)I" = some ⟨[.int], some .int⟩ := by decide +kernel
theorem pd_5 : parseMethodDescriptor "(II)I" = some ⟨[.int, .int], some .int⟩ := by decide +kernel
theorem pd_6 : parseMethodDescriptor "(I)Lcom/example/kapok/kapok/reasoning/Reasons;" = some ⟨[.int], some (.object "com/example/kapok/kapok/reasoning/Reasons")⟩ := by decide +kernel
theorem pd_7 : parseMethodDescriptor "(Lcom/example/kapok/kapok/reasoning/Reasons;II)Z" = some ⟨[(.object "com/example/kapok/kapok/reasoning/Reasons"), .int, .int], some .boolean⟩ := by decide +kernel
def W0 (Z : State) (a0 : Array Value) : Prop := (∀ d ∈ tables_1, d.before a0 Z = true) ∧ True
theorem w_0 {Z : State} {a0 : Array Value} (hW : W0 Z a0) : (Jvm.Cond.methodLink "com/example/kapok/kapok/reasoning/ReasonsOfPinLaw" (23 : Nat) ({ cls := "com/example/kapok/kapok/reasoning/Reasons", name := "of", desc := "(I)Lcom/example/kapok/kapok/reasoning/Reasons;" } : Jvm.MethodName)).before a0 Z = true := hW.1 _ (List.mem_of_getElem? (i := 0) rfl)
theorem w_1 {Z : State} {a0 : Array Value} (hW : W0 Z a0) : (Jvm.Cond.static ({ cls := "com/example/kapok/kapok/reasoning/Reasons", name := "of", desc := "(I)Lcom/example/kapok/kapok/reasoning/Reasons;" } : Jvm.MethodName)).before a0 Z = true := hW.1 _ (List.mem_of_getElem? (i := 1) rfl)
theorem w_2 {Z : State} {a0 : Array Value} (hW : W0 Z a0) : (Jvm.Cond.initialized "com/example/kapok/kapok/reasoning/Reasons").before a0 Z = true := hW.1 _ (List.mem_of_getElem? (i := 2) rfl)
theorem w_3 {Z : State} {a0 : Array Value} (hW : W0 Z a0) : (Jvm.Cond.code ({ cls := "com/example/kapok/kapok/reasoning/Reasons", name := "of", desc := "(I)Lcom/example/kapok/kapok/reasoning/Reasons;" } : Jvm.MethodName) prog_13_method_2_code (1 : Nat) (Option.some (Jvm.ClassFile.FieldType.object "com/example/kapok/kapok/reasoning/Reasons"))).before a0 Z = true := hW.1 _ (List.mem_of_getElem? (i := 3) rfl)
theorem w_4 {Z : State} {a0 : Array Value} (hW : W0 Z a0) : (Jvm.Cond.classLink "com/example/kapok/kapok/reasoning/Reasons" (8 : Nat) "com/example/kapok/kapok/reasoning/Reasons").before a0 Z = true := hW.1 _ (List.mem_of_getElem? (i := 4) rfl)
theorem w_5 {Z : State} {a0 : Array Value} (hW : W0 Z a0) : (Jvm.Cond.instantiable "com/example/kapok/kapok/reasoning/Reasons" (1 : Nat)).before a0 Z = true := hW.1 _ (List.mem_of_getElem? (i := 5) rfl)
theorem w_6 {Z : State} {a0 : Array Value} (hW : W0 Z a0) : (Jvm.Cond.arrayClass Jvm.ClassFile.FieldType.int).before a0 Z = true := hW.1 _ (List.mem_of_getElem? (i := 6) rfl)
theorem w_7 {Z : State} {a0 : Array Value} (hW : W0 Z a0) : (Jvm.Cond.methodLink "com/example/kapok/kapok/reasoning/Reasons" (13 : Nat) ({ cls := "com/example/kapok/kapok/reasoning/Reasons", name := "<init>", desc := "([I)V" } : Jvm.MethodName)).before a0 Z = true := hW.1 _ (List.mem_of_getElem? (i := 7) rfl)
theorem w_8 {Z : State} {a0 : Array Value} (hW : W0 Z a0) : (Jvm.Cond.instanceMethod ({ cls := "com/example/kapok/kapok/reasoning/Reasons", name := "<init>", desc := "([I)V" } : Jvm.MethodName)).before a0 Z = true := hW.1 _ (List.mem_of_getElem? (i := 8) rfl)
theorem w_9 {Z : State} {a0 : Array Value} (hW : W0 Z a0) : (Jvm.Cond.code ({ cls := "com/example/kapok/kapok/reasoning/Reasons", name := "<init>", desc := "([I)V" } : Jvm.MethodName) prog_13_method_1_code (2 : Nat) (Option.none : Option Jvm.ClassFile.FieldType)).before a0 Z = true := hW.1 _ (List.mem_of_getElem? (i := 9) rfl)
theorem w_10 {Z : State} {a0 : Array Value} (hW : W0 Z a0) : (Jvm.Cond.methodLink "com/example/kapok/kapok/reasoning/Reasons" (1 : Nat) ({ cls := "java/lang/Object", name := "<init>", desc := "()V" } : Jvm.MethodName)).before a0 Z = true := hW.1 _ (List.mem_of_getElem? (i := 10) rfl)
theorem w_11 {Z : State} {a0 : Array Value} (hW : W0 Z a0) : (Jvm.Cond.instanceMethod ({ cls := "java/lang/Object", name := "<init>", desc := "()V" } : Jvm.MethodName)).before a0 Z = true := hW.1 _ (List.mem_of_getElem? (i := 11) rfl)
theorem w_12 {Z : State} {a0 : Array Value} (hW : W0 Z a0) : (Jvm.Cond.code ({ cls := "java/lang/Object", name := "<init>", desc := "()V" } : Jvm.MethodName) object_method_1_code (1 : Nat) (Option.none : Option Jvm.ClassFile.FieldType)).before a0 Z = true := hW.1 _ (List.mem_of_getElem? (i := 12) rfl)
theorem w_13 {Z : State} {a0 : Array Value} (hW : W0 Z a0) : (Jvm.Cond.fieldLink "com/example/kapok/kapok/reasoning/Reasons" (7 : Nat) "com/example/kapok/kapok/reasoning/Reasons" "labels" "[I").before a0 Z = true := hW.1 _ (List.mem_of_getElem? (i := 13) rfl)
theorem w_14 {Z : State} {a0 : Array Value} (hW : W0 Z a0) : (Jvm.Cond.laysFinal "com/example/kapok/kapok/reasoning/Reasons" "com/example/kapok/kapok/reasoning/Reasons" "labels" "[I").before a0 Z = true := hW.1 _ (List.mem_of_getElem? (i := 14) rfl)
theorem w_15 {Z : State} {a0 : Array Value} (hW : W0 Z a0) : (Jvm.Cond.methodLink "com/example/kapok/kapok/reasoning/ReasonsOfPinLaw" (27 : Nat) ({ cls := "com/example/kapok/kapok/reasoning/ReasonsOfPinLaw", name := "at", desc := "(Lcom/example/kapok/kapok/reasoning/Reasons;II)Z" } : Jvm.MethodName)).before a0 Z = true := hW.1 _ (List.mem_of_getElem? (i := 15) rfl)
theorem w_16 {Z : State} {a0 : Array Value} (hW : W0 Z a0) : (Jvm.Cond.static ({ cls := "com/example/kapok/kapok/reasoning/ReasonsOfPinLaw", name := "at", desc := "(Lcom/example/kapok/kapok/reasoning/Reasons;II)Z" } : Jvm.MethodName)).before a0 Z = true := hW.1 _ (List.mem_of_getElem? (i := 16) rfl)
theorem w_17 {Z : State} {a0 : Array Value} (hW : W0 Z a0) : (Jvm.Cond.initialized "com/example/kapok/kapok/reasoning/ReasonsOfPinLaw").before a0 Z = true := hW.1 _ (List.mem_of_getElem? (i := 17) rfl)
theorem w_18 {Z : State} {a0 : Array Value} (hW : W0 Z a0) : (Jvm.Cond.code ({ cls := "com/example/kapok/kapok/reasoning/ReasonsOfPinLaw", name := "at", desc := "(Lcom/example/kapok/kapok/reasoning/Reasons;II)Z" } : Jvm.MethodName) method_3_code (3 : Nat) (Option.some Jvm.ClassFile.FieldType.boolean)).before a0 Z = true := hW.1 _ (List.mem_of_getElem? (i := 18) rfl)
theorem w_19 {Z : State} {a0 : Array Value} (hW : W0 Z a0) : (Jvm.Cond.methodLink "com/example/kapok/kapok/reasoning/ReasonsOfPinLaw" (7 : Nat) ({ cls := "com/example/kapok/kapok/reasoning/Reasons", name := "contains", desc := "(I)Z" } : Jvm.MethodName)).before a0 Z = true := hW.1 _ (List.mem_of_getElem? (i := 19) rfl)
theorem w_20 {Z : State} {a0 : Array Value} (hW : W0 Z a0) : (Jvm.Cond.declares ({ cls := "com/example/kapok/kapok/reasoning/Reasons", name := "contains", desc := "(I)Z" } : Jvm.MethodName)).before a0 Z = true := hW.1 _ (List.mem_of_getElem? (i := 20) rfl)
theorem w_21 {Z : State} {a0 : Array Value} (hW : W0 Z a0) : (Jvm.Cond.instanceMethod ({ cls := "com/example/kapok/kapok/reasoning/Reasons", name := "contains", desc := "(I)Z" } : Jvm.MethodName)).before a0 Z = true := hW.1 _ (List.mem_of_getElem? (i := 21) rfl)
theorem w_22 {Z : State} {a0 : Array Value} (hW : W0 Z a0) : (Jvm.Cond.selects "com/example/kapok/kapok/reasoning/Reasons" ({ cls := "com/example/kapok/kapok/reasoning/Reasons", name := "contains", desc := "(I)Z" } : Jvm.MethodName) ({ cls := "com/example/kapok/kapok/reasoning/Reasons", name := "contains", desc := "(I)Z" } : Jvm.MethodName)).before a0 Z = true := hW.1 _ (List.mem_of_getElem? (i := 22) rfl)
theorem w_23 {Z : State} {a0 : Array Value} (hW : W0 Z a0) : (Jvm.Cond.code ({ cls := "com/example/kapok/kapok/reasoning/Reasons", name := "contains", desc := "(I)Z" } : Jvm.MethodName) prog_13_method_6_code (2 : Nat) (Option.some Jvm.ClassFile.FieldType.boolean)).before a0 Z = true := hW.1 _ (List.mem_of_getElem? (i := 23) rfl)
theorem w_24 {Z : State} {a0 : Array Value} (hW : W0 Z a0) : (Jvm.Cond.methodLink "com/example/kapok/kapok/reasoning/Reasons" (16 : Nat) ({ cls := "java/util/Arrays", name := "binarySearch", desc := "([II)I" } : Jvm.MethodName)).before a0 Z = true := hW.1 _ (List.mem_of_getElem? (i := 24) rfl)
theorem w_25 {Z : State} {a0 : Array Value} (hW : W0 Z a0) : (Jvm.Cond.static ({ cls := "java/util/Arrays", name := "binarySearch", desc := "([II)I" } : Jvm.MethodName)).before a0 Z = true := hW.1 _ (List.mem_of_getElem? (i := 25) rfl)
theorem w_26 {Z : State} {a0 : Array Value} (hW : W0 Z a0) : (Jvm.Cond.initialized "java/util/Arrays").before a0 Z = true := hW.1 _ (List.mem_of_getElem? (i := 26) rfl)
theorem w_27 {Z : State} {a0 : Array Value} (hW : W0 Z a0) : (Jvm.Cond.code ({ cls := "java/util/Arrays", name := "binarySearch", desc := "([II)I" } : Jvm.MethodName) jdk_65_method_57_code (2 : Nat) (Option.some Jvm.ClassFile.FieldType.int)).before a0 Z = true := hW.1 _ (List.mem_of_getElem? (i := 27) rfl)
theorem w_28 {Z : State} {a0 : Array Value} (hW : W0 Z a0) : (Jvm.Cond.methodLink "java/util/Arrays" (209 : Nat) ({ cls := "java/util/Arrays", name := "binarySearch0", desc := "([IIII)I" } : Jvm.MethodName)).before a0 Z = true := hW.1 _ (List.mem_of_getElem? (i := 28) rfl)
theorem w_29 {Z : State} {a0 : Array Value} (hW : W0 Z a0) : (Jvm.Cond.static ({ cls := "java/util/Arrays", name := "binarySearch0", desc := "([IIII)I" } : Jvm.MethodName)).before a0 Z = true := hW.1 _ (List.mem_of_getElem? (i := 29) rfl)
theorem w_30 {Z : State} {a0 : Array Value} (hW : W0 Z a0) : (Jvm.Cond.code ({ cls := "java/util/Arrays", name := "binarySearch0", desc := "([IIII)I" } : Jvm.MethodName) jdk_65_method_59_code (8 : Nat) (Option.some Jvm.ClassFile.FieldType.int)).before a0 Z = true := hW.1 _ (List.mem_of_getElem? (i := 30) rfl)
theorem w_31 {Z : State} {a0 : Array Value} (hW : W0 Z a0) : (Jvm.Cond.methodLink "com/example/kapok/kapok/reasoning/ReasonsOfPinLaw" (13 : Nat) ({ cls := "com/example/kapok/kapok/reasoning/Reasons", name := "next", desc := "(I)I" } : Jvm.MethodName)).before a0 Z = true := hW.1 _ (List.mem_of_getElem? (i := 31) rfl)
theorem w_32 {Z : State} {a0 : Array Value} (hW : W0 Z a0) : (Jvm.Cond.declares ({ cls := "com/example/kapok/kapok/reasoning/Reasons", name := "next", desc := "(I)I" } : Jvm.MethodName)).before a0 Z = true := hW.1 _ (List.mem_of_getElem? (i := 32) rfl)
theorem w_33 {Z : State} {a0 : Array Value} (hW : W0 Z a0) : (Jvm.Cond.instanceMethod ({ cls := "com/example/kapok/kapok/reasoning/Reasons", name := "next", desc := "(I)I" } : Jvm.MethodName)).before a0 Z = true := hW.1 _ (List.mem_of_getElem? (i := 33) rfl)
theorem w_34 {Z : State} {a0 : Array Value} (hW : W0 Z a0) : (Jvm.Cond.selects "com/example/kapok/kapok/reasoning/Reasons" ({ cls := "com/example/kapok/kapok/reasoning/Reasons", name := "next", desc := "(I)I" } : Jvm.MethodName) ({ cls := "com/example/kapok/kapok/reasoning/Reasons", name := "next", desc := "(I)I" } : Jvm.MethodName)).before a0 Z = true := hW.1 _ (List.mem_of_getElem? (i := 34) rfl)
theorem w_35 {Z : State} {a0 : Array Value} (hW : W0 Z a0) : (Jvm.Cond.code ({ cls := "com/example/kapok/kapok/reasoning/Reasons", name := "next", desc := "(I)I" } : Jvm.MethodName) prog_13_method_7_code (3 : Nat) (Option.some Jvm.ClassFile.FieldType.int)).before a0 Z = true := hW.1 _ (List.mem_of_getElem? (i := 35) rfl)
theorem w_36 {Z : State} {a0 : Array Value} (hW : W0 Z a0) : (Jvm.Cond.methodLink "com/example/kapok/kapok/reasoning/ReasonsOfPinLaw" (17 : Nat) ({ cls := "com/example/kapok/kapok/reasoning/ReasonsOfPinLaw", name := "refNext", desc := "(II)I" } : Jvm.MethodName)).before a0 Z = true := hW.1 _ (List.mem_of_getElem? (i := 36) rfl)
theorem w_37 {Z : State} {a0 : Array Value} (hW : W0 Z a0) : (Jvm.Cond.static ({ cls := "com/example/kapok/kapok/reasoning/ReasonsOfPinLaw", name := "refNext", desc := "(II)I" } : Jvm.MethodName)).before a0 Z = true := hW.1 _ (List.mem_of_getElem? (i := 37) rfl)
theorem w_38 {Z : State} {a0 : Array Value} (hW : W0 Z a0) : (Jvm.Cond.code ({ cls := "com/example/kapok/kapok/reasoning/ReasonsOfPinLaw", name := "refNext", desc := "(II)I" } : Jvm.MethodName) method_2_code (2 : Nat) (Option.some Jvm.ClassFile.FieldType.int)).before a0 Z = true := hW.1 _ (List.mem_of_getElem? (i := 38) rfl)
def f_0 : FL := [("com/example/kapok/kapok/reasoning/Reasons", "labels", "[I")]
theorem fl_0 {Z : State} {a0 : Array Value} (hW : W0 Z a0) : LaidL Z a0 "com/example/kapok/kapok/reasoning/Reasons" f_0 := ⟨⟨Or.inr (w_14 hW), (.array .int), by decide +kernel⟩, trivial⟩
theorem nd_0 : (f_0.map (fun q => q.2.1)).Nodup := by decide +kernel
theorem dv_0 : f_0.map (fun q => (parseFieldDescriptor q.2.2).map defaultValue) = [.null].map some := by decide +kernel
theorem own_ew {Z : State} {a0 : Array Value} (hW : W0 Z a0) : EW Z a0 own_EL := EW.nil
def Q2 (Z : State) (h : Heap) (t : Addr) (a : Addr) : QT := fun v h' os' => (v = none) ∧ (os' = []) ∧ (Obj Z h' t "com/example/kapok/kapok/reasoning/Reasons" f_0 [(.ref a)])
set_option maxRecDepth 65536 in
set_option maxHeartbeats 40000000 in
theorem rm2 {l : Launch} {Z : State} {a0 : Array Value} (hW : W0 Z a0) (h : Heap) (t : Addr) (a : Addr) (O : Obj Z h t "com/example/kapok/kapok/reasoning/Reasons" f_0 [.null]) :
    Con l Z own_EL false y_0 prog_13_method_1_code 2 none ({ frames := 1, cells := 0, slots := 0, locals := 12 } : Room) [] #[(.ref t), (.ref a)] h [t] (Q2 Z h t a) := by
  refine Con.intro (a0 := a0) (Ls := #[.val (.ref t), .val (.ref a)]) (by decide +kernel) (own_ew hW) (fun m => rfl) ?_
  intro k C
  refine Go.aloadN C d2_0 rfl rfl ?_
  refine Go.initO C (w_10 hW) (w_11 hW) (w_12 hW) d2_1 rfl (by decide) (Nat.le_of_ble_eq_true rfl) ?_
  refine Go.aloadN C d2_4 rfl rfl ?_
  refine Go.aloadN C d2_5 rfl rfl ?_
  refine Go.putF C O (List.mem_of_getElem? (i := 0) rfl) 0 rfl (w_13 hW) Via.refl (Or.inr ⟨w_14 hW, rfl, rfl⟩) (w_5 hW) (fl_0 hW) nd_0 (ty := (.array .int)) (by decide +kernel) (v' := (.ref a)) rfl rfl (vs' := [(.ref a)]) rfl d2_6 (fun h1 K2 O => ?_)
  refine Go.retV C d2_9 (Nat.le_of_ble_eq_true rfl) (Nat.le_of_ble_eq_true rfl) [] (fun _ hx => nomatch hx) ?_
  exact ⟨rfl, rfl, O⟩
def Q1 (Z : State) (h : Heap) (p : Int32) : QT := fun v h' os' => ∃ r : Addr, ∃ t : Addr, (v = some (.ref r)) ∧ (os' = []) ∧ (Obj Z h' r "com/example/kapok/kapok/reasoning/Reasons" f_0 [(.ref t)]) ∧ (Av Z h' t .int [(.int p)])
set_option maxRecDepth 65536 in
set_option maxHeartbeats 40000000 in
theorem rm1 {l : Launch} {Z : State} {a0 : Array Value} (hW : W0 Z a0) (h : Heap) (p : Int32) :
    Con l Z own_EL false y_1 prog_13_method_2_code 1 (some (.object "com/example/kapok/kapok/reasoning/Reasons")) ({ frames := 2, cells := 2, slots := 2, locals := 40 } : Room) [] #[(.int p)] h [] (Q1 Z h p) := by
  refine Con.intro (a0 := a0) (Ls := #[.val (.int p)]) (by decide +kernel) (own_ew hW) (fun m => rfl) ?_
  intro k C
  refine Go.new C (w_4 hW) (w_5 hW) (w_2 hW) (fl_0 hW) dv_0 d1_0 (by decide) (by decide) (fun b1 h2 e3 K4 O5 => ?_)
  refine Go.dup C d1_3 rfl ?_
  refine Go.iconst C (1 : Int32) d1_4 (by decide) ?_
  refine Go.newarray C (aty := .int) (w_6 hW) d1_5 (by decide) 1 rfl (cap := 1) (by decide) (by decide) (by decide) (by decide) (fun b6 h7 e8 K9 A10 => ?_)
  have A10 : Av Z h7 b6 .int [(.int (0 : Int32))] := A10
  have n_b1_b6 : b1 ≠ b6 := ne_lt O5.lt (ge_of e8)
  replace O5 := O5.k0 K9
  refine Go.dup C d1_7 rfl ?_
  refine Go.iconst C (0 : Int32) d1_8 (by decide) ?_
  refine Go.iloadN C d1_9 rfl ?_
  refine Go.iastore C A10 (List.mem_of_getElem? (i := 0) rfl) 0 (by decide) rfl (Nat.le_of_ble_eq_true rfl) (vs' := [(.int p)]) rfl d1_10 (fun h11 K12 A10 => ?_)
  replace O5 := O5.keep K12 (ninS n_b1_b6 nin0)
  refine Go.callI C (z := y_0) (a := b1) (argsL := [(.ref b6)]) (rm2 hW h11 (b1) (b6) O5) rfl (w_7 hW) (w_8 hW) (w_2 hW) (w_9 hW) d1_11 pd_0 rfl (by decide) rfl (st := [(.ref b1)]) rfl (by decide) (Nat.le_of_ble_eq_true rfl) (by decide) (by decide) (List.forall_mem_cons.mpr ⟨(List.mem_of_getElem? (i := 1) rfl), (fun _ hx => nomatch hx)⟩) (fun v13 h14 os15 q16 K17 ho18 => ?_)
  obtain ⟨rfl, rfl, F19⟩ := q16
  replace A10 := A10.keep K17 (ninS (Ne.symm n_b1_b6) nin0)
  show Go k h14 _ _ _ 14 #[.val (.int p)] [(.ref b1)]
  refine Go.areturn C d1_14 (Nat.le_of_ble_eq_true rfl) (Nat.le_of_ble_eq_true rfl) rfl rfl [] (fun _ hx => nomatch hx) ?_
  exact ⟨_, _, rfl, rfl, F19, A10⟩
def Q7 (Z : State) (h : Heap) (a : Addr) (p : Int32) (q : Int32) : QT := fun v h' os' => (v = some (.int (own_bs p q))) ∧ (os' = []) ∧ (h = h')
set_option maxRecDepth 65536 in
set_option maxHeartbeats 40000000 in
theorem rm7 {l : Launch} {Z : State} {a0 : Array Value} (hW : W0 Z a0) (h : Heap) (a : Addr) (p : Int32) (q : Int32) (V : Av Z h a .int [(.int p)]) :
    Con l Z own_EL false y_2 jdk_65_method_59_code 8 (some .int) ({ frames := 0, cells := 0, slots := 0, locals := 0 } : Room) [] #[(.ref a), (.int (0 : Int32)), (.int (1 : Int32)), (.int q)] h [] (Q7 Z h a p q) := by
  refine Con.intro (a0 := a0) (Ls := #[.val (.ref a), .val (.int (0 : Int32)), .val (.int (1 : Int32)), .val (.int q), .unset, .unset, .unset, .unset]) (by decide +kernel) (own_ew hW) (fun m => rfl) ?_
  intro k C
  refine Go.iloadN C d7_0 rfl ?_
  refine Go.istore C d7_1 (Ls' := #[.val (.ref a), .val (.int (0 : Int32)), .val (.int (1 : Int32)), .val (.int q), .val (.int (0 : Int32)), .unset, .unset, .unset]) rfl ?_
  refine Go.iloadN C d7_3 rfl ?_
  refine Go.iconst C (1 : Int32) d7_4 (by decide) ?_
  refine Go.isub C d7_5 ?_
  refine Go.eqI (x' := (0 : Int32)) (by decide) ?_
  refine Go.istore C d7_6 (Ls' := #[.val (.ref a), .val (.int (0 : Int32)), .val (.int (1 : Int32)), .val (.int q), .val (.int (0 : Int32)), .val (.int (0 : Int32)), .unset, .unset]) rfl ?_
  refine Go.iload C d7_8 rfl ?_
  refine Go.iload C d7_10 rfl ?_
  refine Go.icmpgt C d7_12 (fun hc => absurd hc (by decide)) (fun _ => ?_)
  refine Go.iload C d7_15 rfl ?_
  refine Go.iload C d7_17 rfl ?_
  refine Go.iadd C d7_19 ?_
  refine Go.eqI (x' := (0 : Int32)) (by decide) ?_
  refine Go.iconst C (1 : Int32) d7_20 (by decide) ?_
  refine Go.iushr C d7_21 ?_
  refine Go.eqI (x' := (0 : Int32)) (by decide) ?_
  refine Go.istore C d7_22 (Ls' := #[.val (.ref a), .val (.int (0 : Int32)), .val (.int (1 : Int32)), .val (.int q), .val (.int (0 : Int32)), .val (.int (0 : Int32)), .val (.int (0 : Int32)), .unset]) rfl ?_
  refine Go.aloadN C d7_24 rfl rfl ?_
  refine Go.iload C d7_25 rfl ?_
  refine Go.iaload C V 0 (by decide) rfl rfl d7_27 ?_
  refine Go.istore C d7_28 (Ls' := #[.val (.ref a), .val (.int (0 : Int32)), .val (.int (1 : Int32)), .val (.int q), .val (.int (0 : Int32)), .val (.int (0 : Int32)), .val (.int (0 : Int32)), .val (.int p)]) rfl ?_
  refine Go.iload C d7_30 rfl ?_
  refine Go.iloadN C d7_32 rfl ?_
  refine Go.icmpge C d7_33 (fun hc33 => ?_) (fun hc33 => ?_)
  · refine Go.iload C d7_45 rfl ?_
    refine Go.iloadN C d7_47 rfl ?_
    refine Go.icmple C d7_48 (fun hc48 => ?_) (fun hc48 => ?_)
    · refine Go.iload C d7_60 rfl ?_
      refine Go.ireturn C d7_62 (Nat.le_of_ble_eq_true rfl) (Nat.le_of_ble_eq_true rfl) (by simp) rfl [] (fun _ hx => nomatch hx) ?_
      exact ⟨congrArg (fun z => some (Value.int z)) (own_bs_eq hc33 hc48).symm, rfl, rfl⟩
    · refine Go.iload C d7_51 rfl ?_
      refine Go.iconst C (1 : Int32) d7_53 (by decide) ?_
      refine Go.isub C d7_54 ?_
      refine Go.eqI (x' := (-1 : Int32)) (by decide) ?_
      refine Go.istore C d7_55 (Ls' := #[.val (.ref a), .val (.int (0 : Int32)), .val (.int (1 : Int32)), .val (.int q), .val (.int (0 : Int32)), .val (.int (-1 : Int32)), .val (.int (0 : Int32)), .val (.int p)]) rfl ?_
      refine Go.goto C d7_57 ?_
      refine Go.goto C d7_63 ?_
      refine Go.iload C d7_8 rfl ?_
      refine Go.iload C d7_10 rfl ?_
      refine Go.icmpgt C d7_12 (fun _ => ?_) (fun hc => absurd hc (by decide)) 
      refine Go.iload C d7_66 rfl ?_
      refine Go.iconst C (1 : Int32) d7_68 (by decide) ?_
      refine Go.iadd C d7_69 ?_
      refine Go.eqI (x' := (1 : Int32)) (by decide) ?_
      refine Go.ineg C d7_70 ?_
      refine Go.eqI (x' := (-1 : Int32)) (by decide) ?_
      refine Go.ireturn C d7_71 (Nat.le_of_ble_eq_true rfl) (Nat.le_of_ble_eq_true rfl) (by simp) rfl [] (fun _ hx => nomatch hx) ?_
      exact ⟨congrArg (fun z => some (Value.int z)) (own_bs_gt hc48).symm, rfl, rfl⟩
  · refine Go.iload C d7_36 rfl ?_
    refine Go.iconst C (1 : Int32) d7_38 (by decide) ?_
    refine Go.iadd C d7_39 ?_
    refine Go.eqI (x' := (1 : Int32)) (by decide) ?_
    refine Go.istore C d7_40 (Ls' := #[.val (.ref a), .val (.int (0 : Int32)), .val (.int (1 : Int32)), .val (.int q), .val (.int (1 : Int32)), .val (.int (0 : Int32)), .val (.int (0 : Int32)), .val (.int p)]) rfl ?_
    refine Go.goto C d7_42 ?_
    refine Go.goto C d7_63 ?_
    refine Go.iload C d7_8 rfl ?_
    refine Go.iload C d7_10 rfl ?_
    refine Go.icmpgt C d7_12 (fun _ => ?_) (fun hc => absurd hc (by decide)) 
    refine Go.iload C d7_66 rfl ?_
    refine Go.iconst C (1 : Int32) d7_68 (by decide) ?_
    refine Go.iadd C d7_69 ?_
    refine Go.eqI (x' := (2 : Int32)) (by decide) ?_
    refine Go.ineg C d7_70 ?_
    refine Go.eqI (x' := (-2 : Int32)) (by decide) ?_
    refine Go.ireturn C d7_71 (Nat.le_of_ble_eq_true rfl) (Nat.le_of_ble_eq_true rfl) (by simp) rfl [] (fun _ hx => nomatch hx) ?_
    exact ⟨congrArg (fun z => some (Value.int z)) (own_bs_lt hc33).symm, rfl, rfl⟩
def Q6 (Z : State) (h : Heap) (a : Addr) (p : Int32) (q : Int32) : QT := fun v h' os' => (v = some (.int (own_bs p q))) ∧ (os' = []) ∧ (h = h')
set_option maxRecDepth 65536 in
set_option maxHeartbeats 40000000 in
theorem rm6 {l : Launch} {Z : State} {a0 : Array Value} (hW : W0 Z a0) (h : Heap) (a : Addr) (p : Int32) (q : Int32) (V : Av Z h a .int [(.int p)]) :
    Con l Z own_EL false y_3 jdk_65_method_57_code 2 (some .int) ({ frames := 1, cells := 0, slots := 0, locals := 19 } : Room) [] #[(.ref a), (.int q)] h [] (Q6 Z h a p q) := by
  refine Con.intro (a0 := a0) (Ls := #[.val (.ref a), .val (.int q)]) (by decide +kernel) (own_ew hW) (fun m => rfl) ?_
  intro k C
  refine Go.aloadN C d6_0 rfl rfl ?_
  refine Go.iconst C (0 : Int32) d6_1 (by decide) ?_
  refine Go.aloadN C d6_2 rfl rfl ?_
  refine Go.arraylength C V (1 : Int32) rfl d6_3 ?_
  refine Go.iloadN C d6_4 rfl ?_
  refine Go.callS C (z := y_2) (argsL := [(.ref a), (.int (0 : Int32)), (.int (1 : Int32)), (.int q)]) (rm7 hW h (a) (p) (q) V) (w_28 hW) (w_29 hW) (w_26 hW) (w_30 hW) d6_5 pd_1 rfl (by decide) rfl (st := []) rfl (by decide) (Nat.le_of_ble_eq_true rfl) (by decide) (by decide) ((fun _ hx => nomatch hx)) (fun v1 h2 os3 q4 K5 ho6 => ?_)
  obtain ⟨rfl, rfl, rfl⟩ := q4
  clear K5 ho6
  show Go k h _ _ _ 8 #[.val (.ref a), .val (.int q)] [(.int (own_bs p q))]
  refine Go.ireturn C d6_8 (Nat.le_of_ble_eq_true rfl) (Nat.le_of_ble_eq_true rfl) (by simp) rfl [] (fun _ hx => nomatch hx) ?_
  exact ⟨rfl, rfl, rfl⟩
def Q5 (Z : State) (h : Heap) (r : Addr) (t : Addr) (p : Int32) (q : Int32) : QT := fun v h' os' => (v = some (.int (if q = p then (1 : Int32) else 0))) ∧ (os' = []) ∧ (h = h')
set_option maxRecDepth 65536 in
set_option maxHeartbeats 40000000 in
theorem rm5 {l : Launch} {Z : State} {a0 : Array Value} (hW : W0 Z a0) (h : Heap) (r : Addr) (t : Addr) (p : Int32) (q : Int32) (O : Obj Z h r "com/example/kapok/kapok/reasoning/Reasons" f_0 [(.ref t)]) (V : Av Z h t .int [(.int p)]) :
    Con l Z own_EL false y_4 prog_13_method_6_code 2 (some .boolean) ({ frames := 2, cells := 0, slots := 0, locals := 32 } : Room) [] #[(.ref r), (.int q)] h [] (Q5 Z h r t p q) := by
  refine Con.intro (a0 := a0) (Ls := #[.val (.ref r), .val (.int q)]) (by decide +kernel) (own_ew hW) (fun m => rfl) ?_
  intro k C
  refine Go.aloadN C d5_0 rfl rfl ?_
  refine Go.getF C O 0 rfl rfl (host := "") (Or.inl (w_13 hW)) Via.refl d5_1 ?_
  refine Go.iloadN C d5_4 rfl ?_
  refine Go.callS C (z := y_3) (argsL := [(.ref t), (.int q)]) (rm6 hW h (t) (p) (q) V) (w_24 hW) (w_25 hW) (w_26 hW) (w_27 hW) d5_5 pd_2 rfl (by decide) rfl (st := []) rfl (by decide) (Nat.le_of_ble_eq_true rfl) (by decide) (by decide) ((fun _ hx => nomatch hx)) (fun v1 h2 os3 q4 K5 ho6 => ?_)
  obtain ⟨rfl, rfl, rfl⟩ := q4
  clear K5 ho6
  show Go k h _ _ _ 8 #[.val (.ref r), .val (.int q)] [(.int (own_bs p q))]
  refine Go.iflt C d5_8 (fun hc8 => ?_) (fun hc8 => ?_)
  · refine Go.iconst C (0 : Int32) d5_15 (by decide) ?_
    refine Go.ireturn C d5_16 (Nat.le_of_ble_eq_true rfl) (Nat.le_of_ble_eq_true rfl) (by simp) rfl [] (fun _ hx => nomatch hx) ?_
    exact ⟨congrArg (fun z => some (Value.int z)) (if_neg (own_bs_neg hc8)).symm, rfl, rfl⟩
  · refine Go.iconst C (1 : Int32) d5_11 (by decide) ?_
    refine Go.goto C d5_12 ?_
    refine Go.ireturn C d5_16 (Nat.le_of_ble_eq_true rfl) (Nat.le_of_ble_eq_true rfl) (by simp) rfl [] (fun _ hx => nomatch hx) ?_
    exact ⟨congrArg (fun z => some (Value.int z)) (if_pos (own_bs_nn hc8)).symm, rfl, rfl⟩
def Q8 (Z : State) (h : Heap) (r : Addr) (t : Addr) (p : Int32) (q : Int32) : QT := fun v h' os' => (v = some (.int (if p < q then (-1 : Int32) else p))) ∧ (os' = []) ∧ (h = h')
set_option maxRecDepth 65536 in
set_option maxHeartbeats 40000000 in
theorem rm8 {l : Launch} {Z : State} {a0 : Array Value} (hW : W0 Z a0) (h : Heap) (r : Addr) (t : Addr) (p : Int32) (q : Int32) (O : Obj Z h r "com/example/kapok/kapok/reasoning/Reasons" f_0 [(.ref t)]) (V : Av Z h t .int [(.int p)]) :
    Con l Z own_EL false y_5 prog_13_method_7_code 3 (some .int) ({ frames := 2, cells := 0, slots := 0, locals := 32 } : Room) [] #[(.ref r), (.int q)] h [] (Q8 Z h r t p q) := by
  refine Con.intro (a0 := a0) (Ls := #[.val (.ref r), .val (.int q), .unset]) (by decide +kernel) (own_ew hW) (fun m => rfl) ?_
  intro k C
  refine Go.aloadN C d8_0 rfl rfl ?_
  refine Go.getF C O 0 rfl rfl (host := "") (Or.inl (w_13 hW)) Via.refl d8_1 ?_
  refine Go.iloadN C d8_4 rfl ?_
  refine Go.callS C (z := y_3) (argsL := [(.ref t), (.int q)]) (rm6 hW h (t) (p) (q) V) (w_24 hW) (w_25 hW) (w_26 hW) (w_27 hW) d8_5 pd_2 rfl (by decide) rfl (st := []) rfl (by decide) (Nat.le_of_ble_eq_true rfl) (by decide) (by decide) ((fun _ hx => nomatch hx)) (fun v1 h2 os3 q4 K5 ho6 => ?_)
  obtain ⟨rfl, rfl, rfl⟩ := q4
  clear K5 ho6
  show Go k h _ _ _ 8 #[.val (.ref r), .val (.int q), .unset] [(.int (own_bs p q))]
  rcases own_bs_cases p q with ⟨hp, hb⟩ | ⟨hp, hb⟩ | ⟨hp, hb⟩
  · refine Go.eqI (x' := (-2 : Int32)) hb ?_
    refine Go.istoreN C d8_8 (Ls' := #[.val (.ref r), .val (.int q), .val (.int (-2 : Int32))]) rfl ?_
    refine Go.iloadN C d8_9 rfl ?_
    refine Go.ifge C d8_10 (fun hc => absurd hc (by decide)) (fun _ => ?_)
    refine Go.iloadN C d8_13 rfl ?_
    refine Go.ineg C d8_14 ?_
    refine Go.eqI (x' := (2 : Int32)) (by decide) ?_
    refine Go.iconst C (1 : Int32) d8_15 (by decide) ?_
    refine Go.isub C d8_16 ?_
    refine Go.eqI (x' := (1 : Int32)) (by decide) ?_
    refine Go.istoreN C d8_17 (Ls' := #[.val (.ref r), .val (.int q), .val (.int (1 : Int32))]) rfl ?_
    refine Go.iloadN C d8_18 rfl ?_
    refine Go.aloadN C d8_19 rfl rfl ?_
    refine Go.getF C O 0 rfl rfl (host := "") (Or.inl (w_13 hW)) Via.refl d8_20 ?_
    refine Go.arraylength C V (1 : Int32) rfl d8_23 ?_
    refine Go.icmpge C d8_24 (fun _ => ?_) (fun hc => absurd hc (by decide)) 
    refine Go.iconst C ((-1) : Int32) d8_36 (by decide) ?_
    refine Go.ireturn C d8_37 (Nat.le_of_ble_eq_true rfl) (Nat.le_of_ble_eq_true rfl) (by simp) rfl [] (fun _ hx => nomatch hx) ?_
    exact ⟨congrArg (fun z => some (Value.int z)) (if_pos hp).symm, rfl, rfl⟩
  · refine Go.eqI (x' := (-1 : Int32)) hb ?_
    refine Go.istoreN C d8_8 (Ls' := #[.val (.ref r), .val (.int q), .val (.int (-1 : Int32))]) rfl ?_
    refine Go.iloadN C d8_9 rfl ?_
    refine Go.ifge C d8_10 (fun hc => absurd hc (by decide)) (fun _ => ?_)
    refine Go.iloadN C d8_13 rfl ?_
    refine Go.ineg C d8_14 ?_
    refine Go.eqI (x' := (1 : Int32)) (by decide) ?_
    refine Go.iconst C (1 : Int32) d8_15 (by decide) ?_
    refine Go.isub C d8_16 ?_
    refine Go.eqI (x' := (0 : Int32)) (by decide) ?_
    refine Go.istoreN C d8_17 (Ls' := #[.val (.ref r), .val (.int q), .val (.int (0 : Int32))]) rfl ?_
    refine Go.iloadN C d8_18 rfl ?_
    refine Go.aloadN C d8_19 rfl rfl ?_
    refine Go.getF C O 0 rfl rfl (host := "") (Or.inl (w_13 hW)) Via.refl d8_20 ?_
    refine Go.arraylength C V (1 : Int32) rfl d8_23 ?_
    refine Go.icmpge C d8_24 (fun hc => absurd hc (by decide)) (fun _ => ?_)
    refine Go.aloadN C d8_27 rfl rfl ?_
    refine Go.getF C O 0 rfl rfl (host := "") (Or.inl (w_13 hW)) Via.refl d8_28 ?_
    refine Go.iloadN C d8_31 rfl ?_
    refine Go.iaload C V 0 (by decide) rfl rfl d8_32 ?_
    refine Go.goto C d8_33 ?_
    refine Go.ireturn C d8_37 (Nat.le_of_ble_eq_true rfl) (Nat.le_of_ble_eq_true rfl) (by simp) rfl [] (fun _ hx => nomatch hx) ?_
    exact ⟨congrArg (fun z => some (Value.int z)) (if_neg hp).symm, rfl, rfl⟩
  · refine Go.eqI (x' := (0 : Int32)) hb ?_
    refine Go.istoreN C d8_8 (Ls' := #[.val (.ref r), .val (.int q), .val (.int (0 : Int32))]) rfl ?_
    refine Go.iloadN C d8_9 rfl ?_
    refine Go.ifge C d8_10 (fun _ => ?_) (fun hc => absurd hc (by decide)) 
    refine Go.iloadN C d8_18 rfl ?_
    refine Go.aloadN C d8_19 rfl rfl ?_
    refine Go.getF C O 0 rfl rfl (host := "") (Or.inl (w_13 hW)) Via.refl d8_20 ?_
    refine Go.arraylength C V (1 : Int32) rfl d8_23 ?_
    refine Go.icmpge C d8_24 (fun hc => absurd hc (by decide)) (fun _ => ?_)
    refine Go.aloadN C d8_27 rfl rfl ?_
    refine Go.getF C O 0 rfl rfl (host := "") (Or.inl (w_13 hW)) Via.refl d8_28 ?_
    refine Go.iloadN C d8_31 rfl ?_
    refine Go.iaload C V 0 (by decide) rfl rfl d8_32 ?_
    refine Go.goto C d8_33 ?_
    refine Go.ireturn C d8_37 (Nat.le_of_ble_eq_true rfl) (Nat.le_of_ble_eq_true rfl) (by simp) rfl [] (fun _ hx => nomatch hx) ?_
    exact ⟨congrArg (fun z => some (Value.int z)) (if_neg hp).symm, rfl, rfl⟩
def Q9 (Z : State) (h : Heap) (p : Int32) (q : Int32) : QT := fun v h' os' => (v = some (.int (if p < q then (-1 : Int32) else p))) ∧ (os' = []) ∧ (h = h')
set_option maxRecDepth 65536 in
set_option maxHeartbeats 40000000 in
theorem rm9 {l : Launch} {Z : State} {a0 : Array Value} (hW : W0 Z a0) (h : Heap) (p : Int32) (q : Int32) :
    Con l Z own_EL false y_6 method_2_code 2 (some .int) ({ frames := 0, cells := 0, slots := 0, locals := 0 } : Room) [] #[(.int p), (.int q)] h [] (Q9 Z h p q) := by
  refine Con.intro (a0 := a0) (Ls := #[.val (.int p), .val (.int q)]) (by decide +kernel) (own_ew hW) (fun m => rfl) ?_
  intro k C
  refine Go.iloadN C d9_0 rfl ?_
  refine Go.iloadN C d9_1 rfl ?_
  refine Go.icmplt C d9_2 (fun hc2 => ?_) (fun hc2 => ?_)
  · refine Go.iconst C ((-1) : Int32) d9_9 (by decide) ?_
    refine Go.ireturn C d9_10 (Nat.le_of_ble_eq_true rfl) (Nat.le_of_ble_eq_true rfl) (by simp) rfl [] (fun _ hx => nomatch hx) ?_
    exact ⟨congrArg (fun z => some (Value.int z)) (if_pos hc2).symm, rfl, rfl⟩
  · refine Go.iloadN C d9_5 rfl ?_
    refine Go.goto C d9_6 ?_
    refine Go.ireturn C d9_10 (Nat.le_of_ble_eq_true rfl) (Nat.le_of_ble_eq_true rfl) (by simp) rfl [] (fun _ hx => nomatch hx) ?_
    exact ⟨congrArg (fun z => some (Value.int z)) (if_neg hc2).symm, rfl, rfl⟩
def Q4 (Z : State) (h : Heap) (r : Addr) (t : Addr) (p : Int32) (q : Int32) : QT := fun v h' os' => (v = some (.int (1 : Int32))) ∧ (os' = []) ∧ (h = h')
set_option maxRecDepth 65536 in
set_option maxHeartbeats 40000000 in
theorem rm4 {l : Launch} {Z : State} {a0 : Array Value} (hW : W0 Z a0) (h : Heap) (r : Addr) (t : Addr) (p : Int32) (q : Int32) (O : Obj Z h r "com/example/kapok/kapok/reasoning/Reasons" f_0 [(.ref t)]) (V : Av Z h t .int [(.int p)]) :
    Con l Z own_EL false y_7 method_3_code 3 (some .boolean) ({ frames := 3, cells := 0, slots := 0, locals := 46 } : Room) [] #[(.ref r), (.int p), (.int q)] h [] (Q4 Z h r t p q) := by
  refine Con.intro (a0 := a0) (Ls := #[.val (.ref r), .val (.int p), .val (.int q)]) (by decide +kernel) (own_ew hW) (fun m => rfl) ?_
  intro k C
  refine Go.aloadN C d4_0 rfl rfl ?_
  refine Go.iloadN C d4_1 rfl ?_
  refine Go.callV C (z := y_4) (zr := y_4) (a := r) (argsL := [(.int q)]) (rm5 hW h (r) (t) (p) (q) O V) O.1 (w_19 hW) (w_20 hW) (fun hz => notFace_of_selects (args := #[]) (mvT hz (w_22 hW))) (w_22 hW) (w_21 hW) (w_2 hW) (w_23 hW) d4_2 pd_3 rfl (by decide) rfl (st := []) rfl (by decide) (Nat.le_of_ble_eq_true rfl) (by decide) (by decide) ((fun _ hx => nomatch hx)) (fun v1 h2 os3 q4 K5 ho6 => ?_)
  obtain ⟨rfl, rfl, rfl⟩ := q4
  clear K5 ho6
  show Go k h _ _ _ 5 #[.val (.ref r), .val (.int p), .val (.int q)] [(.int (if q = p then (1 : Int32) else 0))]
  refine Go.iloadN C d4_5 rfl ?_
  refine Go.iloadN C d4_6 rfl ?_
  refine Go.icmpne C d4_7 (fun hc7 => ?_) (fun hc7 => ?_)
  · refine Go.iconst C (0 : Int32) d4_14 (by decide) ?_
    refine Go.icmpne C d4_15 (fun hc15 => absurd (if_neg hc7) hc15) (fun hc15 => ?_)
    refine Go.aloadN C d4_18 rfl rfl ?_
    refine Go.iloadN C d4_19 rfl ?_
    refine Go.callV C (z := y_5) (zr := y_5) (a := r) (argsL := [(.int q)]) (rm8 hW h (r) (t) (p) (q) O V) O.1 (w_31 hW) (w_32 hW) (fun hz => notFace_of_selects (args := #[]) (mvT hz (w_34 hW))) (w_34 hW) (w_33 hW) (w_2 hW) (w_35 hW) d4_20 pd_4 rfl (by decide) rfl (st := []) rfl (by decide) (Nat.le_of_ble_eq_true rfl) (by decide) (by decide) ((fun _ hx => nomatch hx)) (fun v7 h8 os9 q10 K11 ho12 => ?_)
    obtain ⟨rfl, rfl, rfl⟩ := q10
    clear K11 ho12
    show Go k h _ _ _ 23 #[.val (.ref r), .val (.int p), .val (.int q)] [(.int (if p < q then (-1 : Int32) else p))]
    refine Go.iloadN C d4_23 rfl ?_
    refine Go.iloadN C d4_24 rfl ?_
    refine Go.callS C (z := y_6) (argsL := [(.int p), (.int q)]) (rm9 hW h (p) (q)) (w_36 hW) (w_37 hW) (w_17 hW) (w_38 hW) d4_25 pd_5 rfl (by decide) rfl (st := [(.int (if p < q then (-1 : Int32) else p))]) rfl (by decide) (Nat.le_of_ble_eq_true rfl) (by decide) (by decide) ((fun _ hx => nomatch hx)) (fun v13 h14 os15 q16 K17 ho18 => ?_)
    obtain ⟨rfl, rfl, rfl⟩ := q16
    clear K17 ho18
    show Go k h _ _ _ 28 #[.val (.ref r), .val (.int p), .val (.int q)] [(.int (if p < q then (-1 : Int32) else p)), (.int (if p < q then (-1 : Int32) else p))]
    refine Go.icmpne C d4_28 (fun hc28 => absurd rfl hc28) (fun hc28 => ?_)
    refine Go.iconst C (1 : Int32) d4_31 (by decide) ?_
    refine Go.goto C d4_32 ?_
    refine Go.ireturn C d4_36 (Nat.le_of_ble_eq_true rfl) (Nat.le_of_ble_eq_true rfl) (by simp) rfl [] (fun _ hx => nomatch hx) ?_
    exact ⟨rfl, rfl, rfl⟩
  · refine Go.iconst C (1 : Int32) d4_10 (by decide) ?_
    refine Go.goto C d4_11 ?_
    refine Go.icmpne C d4_15 (fun hc15 => absurd (if_pos hc7) hc15) (fun hc15 => ?_)
    refine Go.aloadN C d4_18 rfl rfl ?_
    refine Go.iloadN C d4_19 rfl ?_
    refine Go.callV C (z := y_5) (zr := y_5) (a := r) (argsL := [(.int q)]) (rm8 hW h (r) (t) (p) (q) O V) O.1 (w_31 hW) (w_32 hW) (fun hz => notFace_of_selects (args := #[]) (mvT hz (w_34 hW))) (w_34 hW) (w_33 hW) (w_2 hW) (w_35 hW) d4_20 pd_4 rfl (by decide) rfl (st := []) rfl (by decide) (Nat.le_of_ble_eq_true rfl) (by decide) (by decide) ((fun _ hx => nomatch hx)) (fun v19 h20 os21 q22 K23 ho24 => ?_)
    obtain ⟨rfl, rfl, rfl⟩ := q22
    clear K23 ho24
    show Go k h _ _ _ 23 #[.val (.ref r), .val (.int p), .val (.int q)] [(.int (if p < q then (-1 : Int32) else p))]
    refine Go.iloadN C d4_23 rfl ?_
    refine Go.iloadN C d4_24 rfl ?_
    refine Go.callS C (z := y_6) (argsL := [(.int p), (.int q)]) (rm9 hW h (p) (q)) (w_36 hW) (w_37 hW) (w_17 hW) (w_38 hW) d4_25 pd_5 rfl (by decide) rfl (st := [(.int (if p < q then (-1 : Int32) else p))]) rfl (by decide) (Nat.le_of_ble_eq_true rfl) (by decide) (by decide) ((fun _ hx => nomatch hx)) (fun v25 h26 os27 q28 K29 ho30 => ?_)
    obtain ⟨rfl, rfl, rfl⟩ := q28
    clear K29 ho30
    show Go k h _ _ _ 28 #[.val (.ref r), .val (.int p), .val (.int q)] [(.int (if p < q then (-1 : Int32) else p)), (.int (if p < q then (-1 : Int32) else p))]
    refine Go.icmpne C d4_28 (fun hc28 => absurd rfl hc28) (fun hc28 => ?_)
    refine Go.iconst C (1 : Int32) d4_31 (by decide) ?_
    refine Go.goto C d4_32 ?_
    refine Go.ireturn C d4_36 (Nat.le_of_ble_eq_true rfl) (Nat.le_of_ble_eq_true rfl) (by simp) rfl [] (fun _ hx => nomatch hx) ?_
    exact ⟨rfl, rfl, rfl⟩
def Q0 (Z : State) (h : Heap) (p : Int32) (q : Int32) : QT := fun v h' os' => (v = some (.int (1 : Int32))) ∧ (os' = [])
set_option maxRecDepth 65536 in
set_option maxHeartbeats 40000000 in
theorem rm0 {l : Launch} {Z : State} {a0 : Array Value} (hW : W0 Z a0) (h : Heap) (p : Int32) (q : Int32) :
    Con l Z own_EL false x code 3 (some .boolean) room_1 tables_1 #[(.int p), (.int q)] h [] (Q0 Z h p q) := by
  refine Con.intro (a0 := a0) (Ls := #[.val (.int p), .val (.int q), .unset]) (by decide +kernel) (own_ew hW) (fun m => rfl) ?_
  intro k C
  refine Go.iloadN C d0_0 rfl ?_
  refine Go.callS C (z := y_1) (argsL := [(.int p)]) (rm1 hW h (p)) (w_0 hW) (w_1 hW) (w_2 hW) (w_3 hW) d0_1 pd_6 rfl (by decide) rfl (st := []) rfl (by decide) (Nat.le_of_ble_eq_true rfl) (by decide) (by decide) ((fun _ hx => nomatch hx)) (fun v1 h2 os3 q4 K5 ho6 => ?_)
  obtain ⟨r7, t8, rfl, rfl, F9, F10⟩ := q4
  show Go k h2 _ _ _ 4 #[.val (.int p), .val (.int q), .unset] [(.ref r7)]
  refine Go.astoreN C d0_4 rfl (Ls' := #[.val (.int p), .val (.int q), .val (.ref r7)]) rfl ?_
  refine Go.aloadN C d0_5 rfl rfl ?_
  refine Go.iloadN C d0_6 rfl ?_
  refine Go.iloadN C d0_7 rfl ?_
  refine Go.callS C (z := y_7) (argsL := [(.ref r7), (.int p), (.int p)]) (rm4 hW h2 (r7) (t8) (p) (p) F9 F10) (w_15 hW) (w_16 hW) (w_17 hW) (w_18 hW) d0_8 pd_7 rfl (by decide) rfl (st := []) rfl (by decide) (Nat.le_of_ble_eq_true rfl) (by decide) (by decide) ((fun _ hx => nomatch hx)) (fun v11 h12 os13 q14 K15 ho16 => ?_)
  obtain ⟨rfl, rfl, rfl⟩ := q14
  clear K15 ho16
  show Go k h2 _ _ _ 11 #[.val (.int p), .val (.int q), .val (.ref r7)] [(.int (1 : Int32))]
  refine Go.ifeq C d0_11 (fun hc => absurd hc (by decide)) (fun _ => ?_)
  refine Go.aloadN C d0_14 rfl rfl ?_
  refine Go.iloadN C d0_15 rfl ?_
  refine Go.iloadN C d0_16 rfl ?_
  refine Go.iconst C (1 : Int32) d0_17 (by decide) ?_
  refine Go.isub C d0_18 ?_
  refine Go.callS C (z := y_7) (argsL := [(.ref r7), (.int p), (.int (p - (1 : Int32)))]) (rm4 hW h2 (r7) (t8) (p) ((p - (1 : Int32))) F9 F10) (w_15 hW) (w_16 hW) (w_17 hW) (w_18 hW) d0_19 pd_7 rfl (by decide) rfl (st := []) rfl (by decide) (Nat.le_of_ble_eq_true rfl) (by decide) (by decide) ((fun _ hx => nomatch hx)) (fun v17 h18 os19 q20 K21 ho22 => ?_)
  obtain ⟨rfl, rfl, rfl⟩ := q20
  clear K21 ho22
  show Go k h2 _ _ _ 22 #[.val (.int p), .val (.int q), .val (.ref r7)] [(.int (1 : Int32))]
  refine Go.ifeq C d0_22 (fun hc => absurd hc (by decide)) (fun _ => ?_)
  refine Go.aloadN C d0_25 rfl rfl ?_
  refine Go.iloadN C d0_26 rfl ?_
  refine Go.iloadN C d0_27 rfl ?_
  refine Go.iconst C (1 : Int32) d0_28 (by decide) ?_
  refine Go.iadd C d0_29 ?_
  refine Go.callS C (z := y_7) (argsL := [(.ref r7), (.int p), (.int (p + (1 : Int32)))]) (rm4 hW h2 (r7) (t8) (p) ((p + (1 : Int32))) F9 F10) (w_15 hW) (w_16 hW) (w_17 hW) (w_18 hW) d0_30 pd_7 rfl (by decide) rfl (st := []) rfl (by decide) (Nat.le_of_ble_eq_true rfl) (by decide) (by decide) ((fun _ hx => nomatch hx)) (fun v23 h24 os25 q26 K27 ho28 => ?_)
  obtain ⟨rfl, rfl, rfl⟩ := q26
  clear K27 ho28
  show Go k h2 _ _ _ 33 #[.val (.int p), .val (.int q), .val (.ref r7)] [(.int (1 : Int32))]
  refine Go.ifeq C d0_33 (fun hc => absurd hc (by decide)) (fun _ => ?_)
  refine Go.aloadN C d0_36 rfl rfl ?_
  refine Go.iloadN C d0_37 rfl ?_
  refine Go.iloadN C d0_38 rfl ?_
  refine Go.callS C (z := y_7) (argsL := [(.ref r7), (.int p), (.int q)]) (rm4 hW h2 (r7) (t8) (p) (q) F9 F10) (w_15 hW) (w_16 hW) (w_17 hW) (w_18 hW) d0_39 pd_7 rfl (by decide) rfl (st := []) rfl (by decide) (Nat.le_of_ble_eq_true rfl) (by decide) (by decide) ((fun _ hx => nomatch hx)) (fun v29 h30 os31 q32 K33 ho34 => ?_)
  obtain ⟨rfl, rfl, rfl⟩ := q32
  clear K33 ho34
  show Go k h2 _ _ _ 42 #[.val (.int p), .val (.int q), .val (.ref r7)] [(.int (1 : Int32))]
  refine Go.ifeq C d0_42 (fun hc => absurd hc (by decide)) (fun _ => ?_)
  refine Go.iconst C (1 : Int32) d0_45 (by decide) ?_
  refine Go.goto C d0_46 ?_
  refine Go.ireturn C d0_50 (Nat.le_of_ble_eq_true rfl) (Nat.le_of_ble_eq_true rfl) (by simp) rfl [] (fun _ hx => nomatch hx) ?_
  exact ⟨rfl, rfl⟩
set_option maxRecDepth 65536 in
set_option maxHeartbeats 40000000 in
theorem comes_1 {Post : Tables → Env → Array Value → State → Outcome → State → Prop} (hpost : ∀ tb e args s v u, (limb_1_1.after args s (.returned v) u = true ∧ limb_1_2.after args s (.returned v) u = true ∧ True) → FrameEnd s (.returned v) u (Jvm.fieldLocs frame_1_writes args s ++ Jvm.arrayLocs frame_1_arrays args s ++ Jvm.staticLocs frame_1_statics s) 16 128 → Post tb e args s (.returned v) u) :
    ArmFor flags0 classFile x code maxLocals ret World_1 tables_1 room_1 Calls_1 rest_1 Pre_1 Post := by
  intro l hfl _ _ p e ha hc hk s m args below hf hA hF happ hP
  obtain ⟨hcalls, hrest, hpre⟩ := hP
  obtain ⟨-, -, -, hnamed, -, -, -, hat⟩ := (Spec.applies_iff hf).mp happ
  obtain ⟨hg, hn⟩ := and_e (Cond.before_iff.mp (show (Jvm.Cond.and given_1 narrow_1).before args s = true from hpre))
  obtain ⟨g1, g2⟩ := and_e hg
  obtain ⟨g3, g4⟩ := and_e g2
  obtain ⟨w0, w1, rfl⟩ : ∃ w0 w1 : Value, args = #[w0, w1] := by
    have hs : args.size = 2 := by simpa [Cond.value, given_1] using g1
    obtain ⟨L⟩ := args
    match L, hs with
    | [w0, w1], _ => exact ⟨w0, w1, rfl⟩
  have hw := fun d (hd : d ∈ tables_1) => atoms_spec (ws := Jvm.Cond.code x code maxLocals ret :: tables_1) hat d (List.mem_cons_of_mem _ hd)
  have hfit : Fit s := fun {y c} hc i hi => by
    obtain ⟨ha, rfl⟩ := Array.getElem?_eq_some_iff.mp hc
    have q := List.all_eq_true.mp ((Array.all_eq_true_iff_forall_mem.mp hF) _ (Array.getElem_mem ha)) i (List.mem_range.mpr hi)
    simpa [Array.getElem?_eq_getElem hi] using q
  have hW : W0 s _ := ⟨hw, trivial⟩
  obtain ⟨i0, ei0⟩ := is_v g3
  obtain rfl : w0 = (.int i0) := Option.some.inj ei0
  obtain ⟨i1, ei1⟩ := is_v g4
  obtain rfl : w1 = (.int i1) := Option.some.inj ei1
  obtain ⟨n, o, h1, h2, h3, v, L, os, rfl, hQ, -, -, N, -, hq, hq2⟩ := (rm0 (l := l) hW s.heap i0 i1 : Con l s own_EL false x code maxLocals ret room_1 tables_1 _ _ _ _) p e ha hc hk s m _ below hf ((Spec.applies_iff_loose hf).mp happ).1 ⟨rfl, State.Warmed39.refl s, rfl, (fun _ q => nomatch q), ⟨Nat.le_refl _, fun _ _ q => q⟩, (fun _ q => nomatch q)⟩ trivial
  obtain ⟨rfl, -⟩ := hQ
  have hq := hq2 rfl
  refine ⟨n, _, h1, h2, h3, hpost _ _ _ _ _ _ ⟨Cond.after_iff.mpr rfl, Cond.after_iff.mpr (eq_i res_at (Term.int_eval (1)) rfl), trivial⟩ ⟨hq.1, hq.2.1, (hq.2.2.sift fun y hy => Or.inr (N y hy)).mono (by decide) (by decide)⟩⟩
theorem main_1_1 : Claimed_1_1 := comes_1 fun _ _ _ _ _ _ h hF => ⟨h.1, hF⟩
theorem main_1_2 : Claimed_1_2 := comes_1 fun _ _ _ _ _ _ h hF => ⟨h.2.1, hF⟩
end Jvm.Pilot.@@N@@
namespace Jvm.Pilot.@@N@@
open Jvm Jvm.ClassFile Sem Op Lib Jvm.Free Jvm.Stand Jvm.Pilot.@@N@@.Jvm.D
/-! MADE BY PROGRAM (witnessworld.py) out of the Statement's table words and the real class files: 10 classes; the members and pool entries that the words name. The judged class is class 1, her method 3. -/
namespace start1
open Jvm.ClassFile
def u (s : String) : CpInfo := .utf8 (stringToUtf16 s)
/-- a pool by its gaps: so many unusable entries, then the entry; so many at the end -/
def gap : Nat → List CpInfo → List CpInfo
  | 0, r => r
  | n + 1, r => .unusable :: gap n r
def poolList (es : List (Nat × CpInfo)) (last : Nat) : List CpInfo := es.foldr (fun e r => gap e.1 (e.2 :: r)) (gap last [])
def pool (es : List (Nat × CpInfo)) (last : Nat) : Array CpInfo := ⟨poolList es last⟩
def fileOf (pool : Array CpInfo) (this : Nat) (attrs : Array Attribute := #[]) (ms : Array MethodInfo := #[]) (fl : Nat := 33) (sup : Nat := 0) (ifs : Array Nat := #[]) (fds : Array FieldInfo := #[]) : ClassFile where
  minorVersion := 0
  majorVersion := 65
  constantPool := pool
  accessFlags := fl
  thisClass := this
  superClass := sup
  interfaces := ifs
  fields := fds
  methods := ms
  attributes := attrs
def plain (name : String) (sup : Option ClassId) : Class where
  name := name
  kind := .ordinary
  loader := none
  accessFlags := 33
  super := sup
  interfaces := #[]
  cf := none
  fields := #[]
  methods := #[]
  instanceTypes := #[]
  staticTypes := #[]
  resolved := #[]
  callSites := []
  init := .initialized
  statics := none
  mirror := none

def pool0 : Array CpInfo := pool [(5, u "<init>"), (0, u "()V"), (1, .class_ 10), (1, u "java/lang/Object")] 113

def k0c0 : Code := { maxStack := 0, maxLocals := 1, code := object_method_1_code, exceptionTable := #[], attributes := #[] }
def k0m0 : Method := { name := "<init>", desc := "()V", sig := { parameters := [], returnType := none }, accessFlags := 1, code := some k0c0 }
/-- java/lang/Object -/
def k0 : Class := { plain "java/lang/Object" none with
  accessFlags := 33
  interfaces := #[]
  cf := some (fileOf pool0 8 #[] #[{ accessFlags := 1, nameIndex := 5, descriptorIndex := 6, attributes := #[] }] 33 0 #[] #[])
  fields := #[]
  methods := #[k0m0]
  instanceTypes := #[]
  staticTypes := #[]
  resolved := Array.replicate 124 none
  statics := none }

def pool1 : Array CpInfo := pool [(2, .class_ 4), (1, u "java/lang/Object"), (0, u "<init>"), (0, u "()V"), (0, .methodref 8 9), (0, .class_ 10), (0, .nameAndType 11 12), (0, u "com/example/kapok/kapok/reasoning/Reasons"), (0, u "contains"), (0, u "(I)Z"), (0, .methodref 8 14), (0, .nameAndType 15 16), (0, u "next"), (0, u "(I)I"), (0, .methodref 18 19), (0, .class_ 20), (0, .nameAndType 21 22), (0, u "com/example/kapok/kapok/reasoning/ReasonsOfPinLaw"), (0, u "refNext"), (0, u "(II)I"), (0, .methodref 8 24), (0, .nameAndType 25 26), (0, u "of"), (0, u "(I)Lcom/example/kapok/kapok/reasoning/Reasons;"), (0, .methodref 18 28), (0, .nameAndType 29 30), (0, u "at"), (0, u "(Lcom/example/kapok/kapok/reasoning/Reasons;II)Z"), (3, u "law"), (0, u "(II)Z")] 2

def k1m0 : Method := { name := "<init>", desc := "()V", sig := { parameters := [], returnType := none }, accessFlags := 1, code := none }
def k1c1 : Code := { maxStack := 2, maxLocals := 2, code := method_2_code, exceptionTable := #[], attributes := #[] }
def k1m1 : Method := { name := "refNext", desc := "(II)I", sig := { parameters := [.int, .int], returnType := some .int }, accessFlags := 10, code := some k1c1 }
def k1c2 : Code := { maxStack := 3, maxLocals := 3, code := method_3_code, exceptionTable := #[], attributes := #[] }
def k1m2 : Method := { name := "at", desc := "(Lcom/example/kapok/kapok/reasoning/Reasons;II)Z", sig := { parameters := [(.object "com/example/kapok/kapok/reasoning/Reasons"), .int, .int], returnType := some .boolean }, accessFlags := 10, code := some k1c2 }
def k1c3 : Code := { maxStack := 4, maxLocals := 3, code := code, exceptionTable := #[], attributes := #[] }
def k1m3 : Method := { name := "law", desc := "(II)Z", sig := { parameters := [.int, .int], returnType := some .boolean }, accessFlags := 9, code := some k1c3 }
/-- com/example/kapok/kapok/reasoning/ReasonsOfPinLaw -/
def k1 : Class := { plain "com/example/kapok/kapok/reasoning/ReasonsOfPinLaw" (some 0) with
  accessFlags := 49
  interfaces := #[]
  cf := some (fileOf pool1 18 #[] #[{ accessFlags := 1, nameIndex := 5, descriptorIndex := 6, attributes := #[] }, { accessFlags := 10, nameIndex := 21, descriptorIndex := 22, attributes := #[] }, { accessFlags := 10, nameIndex := 29, descriptorIndex := 30, attributes := #[] }, { accessFlags := 9, nameIndex := 34, descriptorIndex := 35, attributes := #[] }] 49 2 #[] #[])
  fields := #[]
  methods := #[k1m0, k1m1, k1m2, k1m3]
  instanceTypes := #[]
  staticTypes := #[]
  resolved := Array.replicate 38 none
  statics := none }

def pool2 : Array CpInfo := pool [(1, .methodref 2 3), (0, .class_ 4), (0, .nameAndType 5 6), (0, u "java/lang/Object"), (0, u "<init>"), (0, u "()V"), (0, .fieldref 8 9), (0, .class_ 10), (0, .nameAndType 11 12), (0, u "com/example/kapok/kapok/reasoning/Reasons"), (0, u "labels"), (0, u "[I"), (0, .methodref 8 14), (0, .nameAndType 5 15), (0, u "([I)V"), (0, .methodref 17 18), (0, .class_ 19), (0, .nameAndType 20 21), (0, u "java/util/Arrays"), (0, u "binarySearch"), (0, u "([II)I"), (12, u "NONE"), (0, u "Lcom/example/kapok/kapok/reasoning/Reasons;"), (2, u "of"), (0, u "(I)Lcom/example/kapok/kapok/reasoning/Reasons;"), (6, u "contains"), (0, u "(I)Z"), (0, u "next"), (0, u "(I)I")] 3

def k2c0 : Code := { maxStack := 2, maxLocals := 2, code := prog_13_method_1_code, exceptionTable := #[], attributes := #[] }
def k2m0 : Method := { name := "<init>", desc := "([I)V", sig := { parameters := [(.array .int)], returnType := none }, accessFlags := 2, code := some k2c0 }
def k2c1 : Code := { maxStack := 6, maxLocals := 1, code := prog_13_method_2_code, exceptionTable := #[], attributes := #[] }
def k2m1 : Method := { name := "of", desc := "(I)Lcom/example/kapok/kapok/reasoning/Reasons;", sig := { parameters := [.int], returnType := some (.object "com/example/kapok/kapok/reasoning/Reasons") }, accessFlags := 8, code := some k2c1 }
def k2c2 : Code := { maxStack := 2, maxLocals := 2, code := prog_13_method_6_code, exceptionTable := #[], attributes := #[] }
def k2m2 : Method := { name := "contains", desc := "(I)Z", sig := { parameters := [.int], returnType := some .boolean }, accessFlags := 0, code := some k2c2 }
def k2c3 : Code := { maxStack := 2, maxLocals := 3, code := prog_13_method_7_code, exceptionTable := #[], attributes := #[] }
def k2m3 : Method := { name := "next", desc := "(I)I", sig := { parameters := [.int], returnType := some .int }, accessFlags := 0, code := some k2c3 }
/-- com/example/kapok/kapok/reasoning/Reasons -/
def k2 : Class := { plain "com/example/kapok/kapok/reasoning/Reasons" (some 0) with
  accessFlags := 48
  interfaces := #[]
  cf := some (fileOf pool2 8 #[] #[{ accessFlags := 2, nameIndex := 5, descriptorIndex := 15, attributes := #[] }, { accessFlags := 8, nameIndex := 38, descriptorIndex := 39, attributes := #[] }, { accessFlags := 0, nameIndex := 46, descriptorIndex := 47, attributes := #[] }, { accessFlags := 0, nameIndex := 48, descriptorIndex := 49, attributes := #[] }] 48 2 #[] #[{ accessFlags := 24, nameIndex := 34, descriptorIndex := 35, attributes := #[] }, { accessFlags := 18, nameIndex := 11, descriptorIndex := 12, attributes := #[] }])
  fields := #[{ name := "NONE", type := (.object "com/example/kapok/kapok/reasoning/Reasons"), accessFlags := 24, slot := 0, constantValue := 0 }, { name := "labels", type := (.array .int), accessFlags := 18, slot := 0, constantValue := 0 }]
  methods := #[k2m0, k2m1, k2m2, k2m3]
  instanceTypes := #[(.array .int)]
  staticTypes := #[(.object "com/example/kapok/kapok/reasoning/Reasons")]
  resolved := Array.replicate 53 none
  statics := none }

def pool3 : Array CpInfo := pool [(2, .class_ 4), (1, u "java/lang/Object"), (0, u "<init>"), (0, u "()V"), (7, .class_ 16), (1, u "java/util/Arrays"), (57, .class_ 76), (1, u "java/util/Arrays$NaturalOrder"), (36, .class_ 115), (1, u "java/util/Arrays$LegacyMergeSort"), (1, u "Z"), (89, u "binarySearch0"), (1, .methodref 14 210), (0, .nameAndType 207 211), (0, u "([IIII)I"), (163, .class_ 376), (0, u "java/util/Arrays$ArrayList"), (68, u "$assertionsDisabled"), (269, u "MIN_ARRAY_SORT_GRAN"), (0, u "I"), (2, u "INSERTIONSORT_THRESHOLD"), (74, u "binarySearch"), (4, u "([II)I"), (175, .class_ 976), (0, u "java/util/Arrays$ArrayItr")] 52

def k3m0 : Method := { name := "<init>", desc := "()V", sig := { parameters := [], returnType := none }, accessFlags := 2, code := none }
def k3c1 : Code := { maxStack := 4, maxLocals := 2, code := jdk_65_method_57_code, exceptionTable := #[], attributes := #[] }
def k3m1 : Method := { name := "binarySearch", desc := "([II)I", sig := { parameters := [(.array .int), .int], returnType := some .int }, accessFlags := 9, code := some k3c1 }
def k3c2 : Code := { maxStack := 2, maxLocals := 8, code := jdk_65_method_59_code, exceptionTable := #[], attributes := #[] }
def k3m2 : Method := { name := "binarySearch0", desc := "([IIII)I", sig := { parameters := [(.array .int), .int, .int, .int], returnType := some .int }, accessFlags := 10, code := some k3c2 }
/-- java/util/Arrays -/
def k3 : Class := { plain "java/util/Arrays" (some 0) with
  accessFlags := 49
  interfaces := #[]
  cf := some (fileOf pool3 14 #[.nestMembers #[975, 375, 113, 74]] #[{ accessFlags := 2, nameIndex := 5, descriptorIndex := 6, attributes := #[] }, { accessFlags := 9, nameIndex := 794, descriptorIndex := 799, attributes := #[] }, { accessFlags := 10, nameIndex := 207, descriptorIndex := 211, attributes := #[] }] 49 2 #[] #[{ accessFlags := 26, nameIndex := 715, descriptorIndex := 716, attributes := #[] }, { accessFlags := 26, nameIndex := 719, descriptorIndex := 716, attributes := #[] }, { accessFlags := 4120, nameIndex := 445, descriptorIndex := 117, attributes := #[] }])
  fields := #[{ name := "MIN_ARRAY_SORT_GRAN", type := .int, accessFlags := 26, slot := 0, constantValue := 0 }, { name := "INSERTIONSORT_THRESHOLD", type := .int, accessFlags := 26, slot := 1, constantValue := 0 }, { name := "$assertionsDisabled", type := .boolean, accessFlags := 4120, slot := 2, constantValue := 0 }]
  methods := #[k3m0, k3m1, k3m2]
  instanceTypes := #[]
  staticTypes := #[.int, .int, .boolean]
  resolved := Array.replicate 1029 none
  statics := none }

def pool4 : Array CpInfo := pool [(1, u "java/lang/Cloneable"), (0, .class_ 1), (0, u "java/lang/Object"), (0, .class_ 3)] 3

/-- java/lang/Cloneable -/
def k4 : Class := { plain "java/lang/Cloneable" (some 0) with
  accessFlags := 1537
  interfaces := #[]
  cf := some (fileOf pool4 2 #[] #[] 1537 4 #[] #[])
  fields := #[]
  methods := #[]
  instanceTypes := #[]
  staticTypes := #[]
  resolved := Array.replicate 8 none
  statics := none }

def pool5 : Array CpInfo := pool [(1, u "java/io/Serializable"), (0, .class_ 1), (0, u "java/lang/Object"), (0, .class_ 3)] 3

/-- java/io/Serializable -/
def k5 : Class := { plain "java/io/Serializable" (some 0) with
  accessFlags := 1537
  interfaces := #[]
  cf := some (fileOf pool5 2 #[] #[] 1537 4 #[] #[])
  fields := #[]
  methods := #[]
  instanceTypes := #[]
  staticTypes := #[]
  resolved := Array.replicate 8 none
  statics := none }

/-- the primitive byte -/
def k6 : Class := { plain "byte" none with kind := .primitive 'B', accessFlags := 0x411 }
/-- [B -/
def k7 : Class := { plain "[B" (some 0) with kind := .array 6 .byte, interfaces := #[4, 5], accessFlags := 1041 }

/-- the primitive int -/
def k8 : Class := { plain "int" none with kind := .primitive 'I', accessFlags := 0x411 }
/-- [I -/
def k9 : Class := { plain "[I" (some 0) with kind := .array 8 .int, interfaces := #[4, 5], accessFlags := 1041 }

def heap : Heap := #[]
def classes : Array Class := #[k0, k1, k2, k3, k4, k5, k6, k7, k8, k9]
def interned : List (Array UInt16 × Addr) := []
def slotsUsed : Nat := 0
def theMethod : MethodId := ⟨1, 3⟩
def args0 : Array Value := #[.int 5, .int 7]
def aboutOver (below : List Frame) : State where
  vm := { classes := classes, interned := interned.toArray }
  heap := heap
  slotsUsed := slotsUsed
  threads := #[{ frames := .invoking theMethod args0 :: below }]
def below0 : List Frame := [.native { method := ⟨0, 0⟩, args := #[] }]
def about1 : State := aboutOver below0
def p0 : Program := .bare "" "" ""
def e0 : Env := launch0.env 0 0 0
theorem w_frames : about1.frames = Frame.invoking theMethod args0 :: below0 := rfl
set_option maxRecDepth 65536 in
theorem w_args : argsFit about1.vm theMethod args0 = true := by decide +kernel
set_option maxRecDepth 65536 in
theorem w_heap : heapFits about1 = true := by decide +kernel
set_option maxRecDepth 65536 in
theorem w_runnable : about1.curStatus? = some .runnable := by decide +kernel
set_option maxRecDepth 65536 in
theorem w_alone : about1.alone = true := by decide +kernel
set_option maxRecDepth 65536 in
theorem w_named : about1.methodNamed? x = some theMethod := by decide +kernel
set_option maxRecDepth 65536 in
theorem w_hears : about1.hears theMethod below0 = true := by decide +kernel
set_option maxRecDepth 65536 in
theorem w_ripe : about1.ripe theMethod args0 below0 = true := by decide +kernel
theorem w_running : about1.status = .running := rfl
set_option maxRecDepth 65536 in
theorem w_room : about1.hasRoom e0.platform room_1 = true :=
  launch0.hasRoom_least _ room_1 (by decide +kernel) (by decide +kernel) (by decide +kernel) (by decide +kernel) (by decide +kernel) (by decide +kernel)
theorem allAtoms_all (ts : List Jvm.Cond) (a : Array Jvm.Value) (st : Jvm.State) : (allAtoms ts).before a st = ts.all (fun c => c.before a st) := by
  induction ts with
  | nil => rfl
  | cons c t ih =>
    show (Jvm.Cond.and c (allAtoms t)).before a st = _
    rw [Jvm.Cond.before_and, ih, List.all_cons]
def words1 : List Jvm.Cond := Jvm.Cond.code x code maxLocals ret :: tables_1
/-- a 'code' word, met by the world's own term for the bytes: nothing is compared byte by byte -/
theorem code_word {y : MethodName} {bytes : ByteArray} {mx : Nat} {rt : Option FieldType} {a : Array Value} {s : State} {m : MethodId} {meth : Method} {c : Code} (h1 : s.methodNamed? y = some m) (h2 : s.vm.method? m = some meth) (h3 : meth.code = some c) (h4 : c.code = bytes)
    (h5 : (c.maxLocals == mx && c.exceptionTable.isEmpty && decide (c.maxStack ≤ mostOperands) && decide (meth.sig.returnType = rt) && !meth.locks && decide (parseMethodDescriptor y.desc = some meth.sig)) = true) : (Jvm.Cond.code y bytes mx rt).before a s = true := by
  simp only [Bool.and_eq_true, beq_iff_eq, Bool.not_eq_true', decide_eq_true_eq] at h5
  obtain ⟨⟨⟨⟨⟨g1, g2⟩, g3⟩, g4⟩, g5⟩, g6⟩ := h5
  simp [Cond.before, Cond.holds, Cond.value, h1, h2, h3, h4, g1, g2, g3, g4, g5, g6]
def isCode : Jvm.Cond → Bool
  | .code _ _ _ _ => true
  | _ => false
theorem all_split {L : List Jvm.Cond} {P : Jvm.Cond → Bool} (h1 : L.all (fun c => isCode c || P c) = true) (h2 : ∀ c ∈ L.filter isCode, P c = true) : L.all P = true := by
  refine List.all_eq_true.mpr fun c hc => ?_
  have h := List.all_eq_true.mp h1 c hc
  rcases Bool.eq_false_or_eq_true (isCode c) with hi | hi
  · exact h2 c (List.mem_filter.mpr ⟨hc, hi⟩)
  · simpa [hi] using h
set_option maxRecDepth 65536 in
theorem w_c0 : (Jvm.Cond.code x code maxLocals ret).before args0 about1 = true := code_word (m := ⟨1, 3⟩) (meth := k1m3) (c := k1c3) (by decide +kernel) rfl rfl rfl (by decide +kernel)
set_option maxRecDepth 65536 in
theorem w_c1 : (Jvm.Cond.code ({ cls := "com/example/kapok/kapok/reasoning/Reasons", name := "of", desc := "(I)Lcom/example/kapok/kapok/reasoning/Reasons;" } : Jvm.MethodName) prog_13_method_2_code (1 : Nat) (Option.some (Jvm.ClassFile.FieldType.object "com/example/kapok/kapok/reasoning/Reasons"))).before args0 about1 = true := code_word (m := ⟨2, 1⟩) (meth := k2m1) (c := k2c1) (by decide +kernel) rfl rfl rfl (by decide +kernel)
set_option maxRecDepth 65536 in
theorem w_c2 : (Jvm.Cond.code ({ cls := "com/example/kapok/kapok/reasoning/Reasons", name := "<init>", desc := "([I)V" } : Jvm.MethodName) prog_13_method_1_code (2 : Nat) (Option.none : Option Jvm.ClassFile.FieldType)).before args0 about1 = true := code_word (m := ⟨2, 0⟩) (meth := k2m0) (c := k2c0) (by decide +kernel) rfl rfl rfl (by decide +kernel)
set_option maxRecDepth 65536 in
theorem w_c3 : (Jvm.Cond.code ({ cls := "java/lang/Object", name := "<init>", desc := "()V" } : Jvm.MethodName) object_method_1_code (1 : Nat) (Option.none : Option Jvm.ClassFile.FieldType)).before args0 about1 = true := code_word (m := ⟨0, 0⟩) (meth := k0m0) (c := k0c0) (by decide +kernel) rfl rfl rfl (by decide +kernel)
set_option maxRecDepth 65536 in
theorem w_c4 : (Jvm.Cond.code ({ cls := "com/example/kapok/kapok/reasoning/ReasonsOfPinLaw", name := "at", desc := "(Lcom/example/kapok/kapok/reasoning/Reasons;II)Z" } : Jvm.MethodName) method_3_code (3 : Nat) (Option.some Jvm.ClassFile.FieldType.boolean)).before args0 about1 = true := code_word (m := ⟨1, 2⟩) (meth := k1m2) (c := k1c2) (by decide +kernel) rfl rfl rfl (by decide +kernel)
set_option maxRecDepth 65536 in
theorem w_c5 : (Jvm.Cond.code ({ cls := "com/example/kapok/kapok/reasoning/Reasons", name := "contains", desc := "(I)Z" } : Jvm.MethodName) prog_13_method_6_code (2 : Nat) (Option.some Jvm.ClassFile.FieldType.boolean)).before args0 about1 = true := code_word (m := ⟨2, 2⟩) (meth := k2m2) (c := k2c2) (by decide +kernel) rfl rfl rfl (by decide +kernel)
set_option maxRecDepth 65536 in
theorem w_c6 : (Jvm.Cond.code ({ cls := "java/util/Arrays", name := "binarySearch", desc := "([II)I" } : Jvm.MethodName) jdk_65_method_57_code (2 : Nat) (Option.some Jvm.ClassFile.FieldType.int)).before args0 about1 = true := code_word (m := ⟨3, 1⟩) (meth := k3m1) (c := k3c1) (by decide +kernel) rfl rfl rfl (by decide +kernel)
set_option maxRecDepth 65536 in
theorem w_c7 : (Jvm.Cond.code ({ cls := "java/util/Arrays", name := "binarySearch0", desc := "([IIII)I" } : Jvm.MethodName) jdk_65_method_59_code (8 : Nat) (Option.some Jvm.ClassFile.FieldType.int)).before args0 about1 = true := code_word (m := ⟨3, 2⟩) (meth := k3m2) (c := k3c2) (by decide +kernel) rfl rfl rfl (by decide +kernel)
set_option maxRecDepth 65536 in
theorem w_c8 : (Jvm.Cond.code ({ cls := "com/example/kapok/kapok/reasoning/Reasons", name := "next", desc := "(I)I" } : Jvm.MethodName) prog_13_method_7_code (3 : Nat) (Option.some Jvm.ClassFile.FieldType.int)).before args0 about1 = true := code_word (m := ⟨2, 3⟩) (meth := k2m3) (c := k2c3) (by decide +kernel) rfl rfl rfl (by decide +kernel)
set_option maxRecDepth 65536 in
theorem w_c9 : (Jvm.Cond.code ({ cls := "com/example/kapok/kapok/reasoning/ReasonsOfPinLaw", name := "refNext", desc := "(II)I" } : Jvm.MethodName) method_2_code (2 : Nat) (Option.some Jvm.ClassFile.FieldType.int)).before args0 about1 = true := code_word (m := ⟨1, 1⟩) (meth := k1m1) (c := k1c1) (by decide +kernel) rfl rfl rfl (by decide +kernel)
def codes1 : List Jvm.Cond := [Jvm.Cond.code x code maxLocals ret, Jvm.Cond.code ({ cls := "com/example/kapok/kapok/reasoning/Reasons", name := "of", desc := "(I)Lcom/example/kapok/kapok/reasoning/Reasons;" } : Jvm.MethodName) prog_13_method_2_code (1 : Nat) (Option.some (Jvm.ClassFile.FieldType.object "com/example/kapok/kapok/reasoning/Reasons")), Jvm.Cond.code ({ cls := "com/example/kapok/kapok/reasoning/Reasons", name := "<init>", desc := "([I)V" } : Jvm.MethodName) prog_13_method_1_code (2 : Nat) (Option.none : Option Jvm.ClassFile.FieldType), Jvm.Cond.code ({ cls := "java/lang/Object", name := "<init>", desc := "()V" } : Jvm.MethodName) object_method_1_code (1 : Nat) (Option.none : Option Jvm.ClassFile.FieldType), Jvm.Cond.code ({ cls := "com/example/kapok/kapok/reasoning/ReasonsOfPinLaw", name := "at", desc := "(Lcom/example/kapok/kapok/reasoning/Reasons;II)Z" } : Jvm.MethodName) method_3_code (3 : Nat) (Option.some Jvm.ClassFile.FieldType.boolean), Jvm.Cond.code ({ cls := "com/example/kapok/kapok/reasoning/Reasons", name := "contains", desc := "(I)Z" } : Jvm.MethodName) prog_13_method_6_code (2 : Nat) (Option.some Jvm.ClassFile.FieldType.boolean), Jvm.Cond.code ({ cls := "java/util/Arrays", name := "binarySearch", desc := "([II)I" } : Jvm.MethodName) jdk_65_method_57_code (2 : Nat) (Option.some Jvm.ClassFile.FieldType.int), Jvm.Cond.code ({ cls := "java/util/Arrays", name := "binarySearch0", desc := "([IIII)I" } : Jvm.MethodName) jdk_65_method_59_code (8 : Nat) (Option.some Jvm.ClassFile.FieldType.int), Jvm.Cond.code ({ cls := "com/example/kapok/kapok/reasoning/Reasons", name := "next", desc := "(I)I" } : Jvm.MethodName) prog_13_method_7_code (3 : Nat) (Option.some Jvm.ClassFile.FieldType.int), Jvm.Cond.code ({ cls := "com/example/kapok/kapok/reasoning/ReasonsOfPinLaw", name := "refNext", desc := "(II)I" } : Jvm.MethodName) method_2_code (2 : Nat) (Option.some Jvm.ClassFile.FieldType.int)]
set_option maxRecDepth 65536 in
theorem codes_eq : words1.filter isCode = codes1 := rfl
theorem w_codes : ∀ c ∈ words1.filter isCode, c.before args0 about1 = true := by
  rw [codes_eq]
  intro c hc
  simp only [codes1, List.mem_cons, List.not_mem_nil, or_false] at hc
  rcases hc with rfl | rfl | rfl | rfl | rfl | rfl | rfl | rfl | rfl | rfl
  · exact w_c0
  · exact w_c1
  · exact w_c2
  · exact w_c3
  · exact w_c4
  · exact w_c5
  · exact w_c6
  · exact w_c7
  · exact w_c8
  · exact w_c9
set_option maxRecDepth 65536 in
theorem w_t1 : (words1.take 24).all (fun c => isCode c || c.before args0 about1) = true := by decide +kernel
set_option maxRecDepth 65536 in
theorem w_t2 : (words1.drop 24).all (fun c => isCode c || c.before args0 about1) = true := by decide +kernel
theorem w_tables : (allAtoms (Jvm.Cond.code x code maxLocals ret :: tables_1)).before args0 about1 = true := by
  rw [allAtoms_all]
  show words1.all (fun c => c.before args0 about1) = true
  refine all_split ?_ w_codes
  rw [← List.take_append_drop 24 words1, List.all_append, w_t1, w_t2]
  rfl
set_option maxRecDepth 65536 in
theorem w_case : (Jvm.Cond.and given_1 narrow_1).before args0 about1 = true := by decide +kernel
theorem w_applies : (headSpec (Jvm.Cond.code x code maxLocals ret :: tables_1) room_1).applies x e0.platform about1 = true :=
  (Spec.applies_iff w_frames).mpr ⟨w_running, w_runnable, w_alone, w_named, w_hears, w_ripe, w_room, w_tables⟩
theorem atStart : AtStart classFile x code maxLocals ret World_1 tables_1 room_1 Calls_1 rest_1 Pre_1 launch0 p0 e0 about1 theMethod args0 below0 :=
  ⟨lists_1, trivial, launch0.admits_env _ _ _, launch0.least_env, fairChoices_fair.cas, fairChoices_fair.clock, w_frames, w_args, w_heap, w_applies, trivial, trivial, w_case⟩
end start1
theorem witness_1 : WitnessClaimed_1 := ⟨start1.p0, start1.e0, start1.about1, start1.theMethod, start1.args0, start1.below0, start1.atStart⟩
end Jvm.Pilot.@@N@@
