import JvmDerived
import JvmDerived.Pilot.@@N@@Statement
import JvmDerived.Pilot.@@N@@Code
set_option linter.unusedVariables false
set_option linter.unusedSimpArgs false
namespace Jvm.OwnGo
open Jvm Jvm.ClassFile Sem Op Lib Jvm.Free Jvm.Stand Jvm.LawKit Jvm.RoadKit Bundle
/-! THE GO KIT: a walk of a body told backwards: 'Go k h os cells slots pc Ls st': from pc with these locals and this stack, over the heap h, the body comes to its end as its contract says. -/
abbrev QT : Type := Option Value → Heap → List Addr → Prop
abbrev KT : Type := Program × Launch × Env × Room × State × MethodId × Array Value × List Frame × Method × Code × State × List (String × Nat) × Bool × List Addr × QT
def Own (Z : State) (h0 : Heap) (EL : List (String × Nat)) (wr : List Addr) (vm : Vm) (h : Heap) (x : Addr) : Prop :=
  Safe Z EL vm h x ∧ Z.heap.size ≤ x ∧ x < h.size ∧ (x ∈ wr ∨ h0.size ≤ x)
def Done (Z : State) (EL : List (String × Nat)) (wd : Bool) (R : Room) (wr : List Addr) (Q : QT) (s : State) (o : Outcome) (s' : State) : Prop :=
  ∃ v L os, o = .returned v ∧ Q v s'.heap os ∧ (∀ x ∈ os, Safe Z EL s'.vm s'.heap x ∧ s.heap.size ≤ x ∧ x < s'.heap.size) ∧ Keep s.heap s'.heap wr ∧ Fr Z.heap.size L ∧
    CHr Z EL s.vm s.heap s'.vm s'.heap ∧ ReturnedEndW s o s' L R.cells R.slots ∧ (wd = false → FrameEnd s o s' L R.cells R.slots)
def Fen (p : Program) (e : Env) (below : List Frame) (P : Outcome → State → Prop) (A : State) : Prop :=
  ∃ s' o, Steps p.tables e below A s' ∧ s'.status = .running ∧ Ended s' below o ∧ P o s'
theorem Fen.of {p : Program} {e : Env} {below : List Frame} {P : Outcome → State → Prop} {A B : State} (st : ∀ t, Steps p.tables e below B t → Steps p.tables e below A t) (F : Fen p e below P B) : Fen p e below P A := by
  obtain ⟨s', o, h1, h2⟩ := F
  exact ⟨s', o, st _ h1, h2⟩
def Go : KT → Heap → List Addr → Nat → Nat → Nat → Array Slot → List Value → Prop :=
  fun ⟨p, l, e, R, s, m, args, below, meth, c, Z, EL, wd, wr, Q⟩ h os cells slots pc Ls st =>
    ∀ (T : State) (locs : List Loc) (vm : Vm), Stand p l e R (s.setVm vm) m args below meth c T locs cells slots → T.heap = h → Fr Z.heap.size locs → s.Since vm h.size → (wd = false → s.WarmedH vm) →
      CHr Z EL s.vm s.heap vm h → Keep s.heap h wr → (∀ x ∈ os, Own Z s.heap EL wr vm h x) → Fen p e below (Done Z EL wd R wr Q s) (T.setTop (mkF m pc Ls st))
def Ctx (k : KT) (l : Launch) (y : MethodName) (bytes : ByteArray) (maxL : Nat) (ret : Option FieldType) (R : Room) (Z : State) (a0 : Array Value) (EL : List (String × Nat)) (wd : Bool) (wr : List Addr) (h0 : Heap) (Q : QT) : Prop :=
  match k with
  | ⟨p, l', e, R', s, m, args, below, meth, c, Z', EL', wd', wr', Q'⟩ => (l' = l ∧ R' = R ∧ Z' = Z ∧ EL' = EL ∧ wd' = wd ∧ wr' = wr ∧ Q' = Q ∧ s.heap = h0) ∧ p.tables.exec = Jvm.exec ∧ c.code = bytes ∧ c.maxLocals = maxL ∧ meth.sig.returnType = ret ∧
      meth.locks = false ∧ meth.name = y.name ∧ Z'.Warmed39 s.vm ∧ s.vm.findClass y.cls = some m.cls ∧ EW Z' a0 EL' ∧ Ext Z'.heap s.heap ∧ (∀ x ∈ wr, Z'.heap.size ≤ x)
/-- a body's contract -/
def Con (l : Launch) (Z : State) (EL : List (String × Nat)) (wd : Bool) (y : MethodName) (bytes : ByteArray) (maxL : Nat) (ret : Option FieldType) (rm : Room) (ws : List Jvm.Cond) (as' : Array Value) (h : Heap) (wr : List Addr) (Q : QT) : Prop :=
  MetFree l y (head1 (Cond.code y bytes maxL ret :: ws) rm) (fun a U => a = as' ∧ Z.Warmed39 U.vm ∧ U.heap = h ∧ CHv Z EL U.vm h ∧ Ext Z.heap h ∧ ∀ x ∈ wr, Safe Z EL U.vm h x ∧ Z.heap.size ≤ x ∧ x < h.size) (fun _ _ _ _ _ => True)
    (fun _ U o U' => Done Z EL wd rm wr Q U o U')
section Base
variable {p : Program} {l : Launch} {e : Env} {R : Room} {s : State} {m : MethodId} {args : Array Value} {below : List Frame} {meth : Method} {c : Code} {T T' : State} {locs locs' : List Loc} {cells slots cells' slots' : Nat}
variable {Z : State} {a0 : Array Value} {EL : List (String × Nat)} {wd : Bool} {wr ws os : List Addr} {h h' h0 : Heap} {vm vm' : Vm} {Q : QT}
theorem Since.up {n n' : Nat} (S : s.Since vm n) (q : n ≤ n') : s.Since vm n' := ⟨S.1, fun j p hj hp => ⟨(S.2 j p hj hp).1, Nat.lt_of_lt_of_le (S.2 j p hj hp).2 q⟩⟩
theorem Own.chr {x : Addr} (O : Own Z h0 EL wr vm h x) (A : CHr Z EL vm h vm' h') : Own Z h0 EL wr vm' h' x := ⟨A.safe O.2.2.1 O.1, O.2.1, Nat.lt_of_lt_of_le O.2.2.1 A.2.1, O.2.2.2⟩
theorem keepOs (K : Keep h0 h wr) (K' : Keep h h' ws) (ow : ∀ x ∈ os, Own Z h0 EL wr vm h x) (q : ∀ x ∈ ws, x ∈ os) : Keep h0 h' wr := K.trans K' fun x hx => (ow x (q x hx)).2.2.2
theorem Keep.ofExt (E : Ext h h') : Keep h h' ws := (Keep.refl h ws).ext E
theorem safeOs (ow : ∀ x ∈ os, Own Z h0 EL wr vm h x) (q : ∀ x ∈ ws, x ∈ os) : ∀ x ∈ ws, Safe Z EL vm h x := fun x hx => (ow x (q x hx)).1
end Base
/-! decode facts -/
def De (b : ByteArray) (pc : Nat) (i : Instr) (n pc' : Nat) : Prop := decode b pc = .ok (i, n) ∧ pc' = pc + n
def DeJ (b : ByteArray) (pc : Nat) (i : Int → Instr) (pc' pcT : Nat) : Prop := ∃ o : Int, decode b pc = .ok (i o, 3) ∧ pc' = pc + 3 ∧ 0 ≤ (pc : Int) + o ∧ ((pc : Int) + o).toNat = pcT
/-! facts of the heap: an object by its fields, an array by its values -/
abbrev FL : Type := List (String × String × String)
def Obj (Z : State) (h : Heap) (a : Addr) (C : String) (F : FL) (vs : List Value) : Prop := Exa Z h a C ∧ F.length = vs.length ∧ ∀ (i : Nat) (q : String × String × String) (v : Value), F[i]? = some q → vs[i]? = some v → Fld Z h a q.1 q.2.1 q.2.2 v
def Av (Z : State) (h : Heap) (a : Addr) (ty : FieldType) (vs : List Value) : Prop := ∃ (k : ClassId) (z : Int32), Arv Z h a k ty z vs (defaultValue ty) ∧ z.toNatClampNeg = vs.length
def LaidL (Z : State) (a0 : Array Value) (C : String) : FL → Prop
  | [] => True
  | q :: r => (Laid Z a0 C q.1 q.2.1 q.2.2 ∧ ∃ t, parseFieldDescriptor q.2.2 = some t) ∧ LaidL Z a0 C r
section Facts
variable {Z : State} {a0 : Array Value} {h h' : Heap} {a b : Addr} {C : String} {F : FL} {vs : List Value} {ws : List Addr} {ty : FieldType}
theorem LaidL.at {q : String × String × String} : ∀ {F : FL}, LaidL Z a0 C F → q ∈ F → Laid Z a0 C q.1 q.2.1 q.2.2 ∧ ∃ t, parseFieldDescriptor q.2.2 = some t
  | [], _, hq => nomatch hq
  | x :: r, L, hq => by
    rcases List.mem_cons.mp hq with rfl | hq
    · exact L.1
    · exact LaidL.at L.2 hq
theorem Obj.lt (O : Obj Z h a C F vs) : a < h.size := O.1.lt
theorem Obj.keep (O : Obj Z h a C F vs) (K : Keep h h' ws) (q : a ∉ ws) : Obj Z h' a C F vs := ⟨O.1.keep K, O.2.1, fun i p v h1 h2 => (O.2.2 i p v h1 h2).keep K q⟩
theorem Obj.k0 (O : Obj Z h a C F vs) (K : Keep h h' []) : Obj Z h' a C F vs := O.keep K nin0
theorem Obj.k1 (O : Obj Z h a C F vs) (K : Keep h h' [b]) (q : a ≠ b) : Obj Z h' a C F vs := O.keep K (ninS q nin0)
theorem Av.lt (O : Av Z h a ty vs) : a < h.size := by obtain ⟨k, z, A, -⟩ := O; exact A.lt
theorem Av.keep (O : Av Z h a ty vs) (K : Keep h h' ws) (q : a ∉ ws) : Av Z h' a ty vs := by obtain ⟨k, z, A, e⟩ := O; exact ⟨k, z, A.keep K q, e⟩
theorem Av.k0 (O : Av Z h a ty vs) (K : Keep h h' []) : Av Z h' a ty vs := O.keep K nin0
theorem Av.k1 (O : Av Z h a ty vs) (K : Keep h h' [b]) (q : a ≠ b) : Av Z h' a ty vs := O.keep K (ninS q nin0)
theorem Obj.new {A : Exa Z h a C} (D : ∀ {O nm d : String} {ty : FieldType}, Laid Z a0 C O nm d → parseFieldDescriptor d = some ty → Fld Z h a O nm d (defaultValue ty)) (L : LaidL Z a0 C F) (dv : F.map (fun q => (parseFieldDescriptor q.2.2).map defaultValue) = vs.map some) : Obj Z h a C F vs := by
  refine ⟨A, by simpa using congrArg List.length dv, fun i q v h1 h2 => ?_⟩
  obtain ⟨l1, t, l2⟩ := L.at (List.mem_of_getElem? h1)
  have e := congrArg (fun l => l[i]?) dv
  simp only [List.getElem?_map, h1, h2, Option.map_some, l2, Option.some.injEq] at e
  rw [← e]; exact D l1 l2
theorem nodup_ne {α : Type} : ∀ {l : List α} {i j : Nat} {x y : α}, l.Nodup → l[i]? = some x → l[j]? = some y → i ≠ j → x ≠ y := fun {l i j x y} hn h1 h2 hij e => by
  subst e
  obtain ⟨hi, e1⟩ := List.getElem?_eq_some_iff.mp h1
  obtain ⟨hj, e2⟩ := List.getElem?_eq_some_iff.mp h2
  exact hij ((List.getElem_inj hn).mp (e1.trans e2.symm))
theorem Obj.put {q : String × String × String} {v : Value} {i : Nat} (O : Obj Z h a C F vs) (W : Wr h h' a (RoadKit.slotOf Z q.1 q.2.1 q.2.2) v) (hq : F[i]? = some q) (L : LaidL Z a0 C F) (nd : (F.map (fun q => q.2.1)).Nodup) : Obj Z h' a C F (vs.set i v) := by
  refine ⟨O.1.wr W, by simpa using O.2.1, fun j p w h1 h2 => ?_⟩
  obtain ⟨l1, t, l2⟩ := L.at (List.mem_of_getElem? hq)
  obtain ⟨m1, u, m2⟩ := L.at (List.mem_of_getElem? h1)
  have hj : j < vs.length := by rw [← O.2.1]; exact (List.getElem?_eq_some_iff.mp h1).1
  by_cases e : i = j
  · subst e
    rw [hq] at h1; cases h1
    simp [hj] at h2; subst h2
    exact (O.2.2 i q _ hq (List.getElem?_eq_getElem hj)).same W
  · rw [List.getElem?_set_ne e] at h2
    refine (O.2.2 j p w h1 h2).other W (Or.inr ?_)
    have hn : p.2.1 ≠ q.2.1 := nodup_ne nd (i := j) (j := i) (by simp [h1]) (by simp [hq]) (fun z => e z.symm)
    exact slot_ne m1 l1 hn m2 l2
theorem Av.len (V : Av Z h a ty vs) : vs.length < 2147483648 := by
  obtain ⟨k, z, ⟨c, A, r1, r2, r3, H, G⟩, e⟩ := V
  rw [← e]; exact (back32 r3).2
theorem Av.lenI {bs : List Int32} (V : Av Z h a ty (List.map Value.int bs)) : bs.length < 2147483648 := by have := V.len; rwa [List.length_map] at this
theorem Av.new {k : ClassId} {z : Int32} (A : Arr Z h a (newA k ty z) ty) (q : ¬ z < 0) {n : Nat} (hn : z.toNatClampNeg = n) : Av Z h a ty (List.replicate n (defaultValue ty)) :=
  ⟨k, z, by have := (Arv.new A q).pad (pad_rep [] (defaultValue ty) n); simpa using this, by simpa using hn⟩
theorem Av.fit (V : Av Z h a ty vs) {i : Nat} {v : Value} (hv : vs[i]? = some v) : fits ty v = true := by
  obtain ⟨k, z, ⟨c, A, r1, r2, r3, H, G⟩, e⟩ := V
  have hi := (List.getElem?_eq_some_iff.mp hv).1
  have g := G i (by rw [r2, e]; exact hi)
  rw [List.getD_eq_getElem?_getD, hv] at g; exact g
end Facts
/-- a Latin-1 String: its object a, its bytes at t -/
def fStr : FL := [("java/lang/String", "value", "[B"), ("java/lang/String", "coder", "B")]
def Str (Z : State) (h : Heap) (a t : Addr) (bs : List Int32) : Prop := Obj Z h a "java/lang/String" fStr [.ref t, .int 0] ∧ Av Z h t .byte (bs.map .int)
section StrFacts
variable {Z : State} {h h' : Heap} {a t : Addr} {bs : List Int32} {ws : List Addr}
theorem Str.exa (S : Str Z h a t bs) : Exa Z h a "java/lang/String" := S.1.1
theorem Str.lt (S : Str Z h a t bs) : a < h.size := S.1.lt
theorem Str.lt1 (S : Str Z h a t bs) : t < h.size := S.2.lt
theorem Str.keep (S : Str Z h a t bs) (K : Keep h h' ws) (q1 : a ∉ ws) (q2 : t ∉ ws) : Str Z h' a t bs := ⟨S.1.keep K q1, S.2.keep K q2⟩
theorem Str.k0 (S : Str Z h a t bs) (K : Keep h h' []) : Str Z h' a t bs := S.keep K nin0 nin0
theorem Fld.det {Z : State} {h : Heap} {a : Addr} {C n d : String} {v w : Value} (F : Fld Z h a C n d v) (G : Fld Z h a C n d w) : v = w := Decidable.byContradiction fun q => Fld.ne F G q rfl
theorem Av.det {Z : State} {h : Heap} {a : Addr} {ty : FieldType} {vs vs' : List Value} (V : Av Z h a ty vs) (V' : Av Z h a ty vs') : vs = vs' := by
  obtain ⟨k, z, ⟨c, A, r1, r2, r3, H, G⟩, e⟩ := V
  obtain ⟨k', z', ⟨c', A', r1', r2', r3', H', G'⟩, e'⟩ := V'
  cases A.1.symm.trans A'.1
  have hl : vs.length = vs'.length := by rw [← e, ← e', ← r2, ← r2']
  refine List.ext_getElem hl fun i h1 h2 => ?_
  have a1 := H i (by rw [r2, e]; exact h1)
  have a2 := H' i (by rw [r2', e']; exact h2)
  rw [a1] at a2
  simpa [List.getD_eq_getElem?_getD, h1, h2] using a2
theorem map_int_inj {xs ys : List Int32} (q : xs.map Value.int = ys.map Value.int) : xs = ys := (List.map_inj_right (fun _ _ z => Value.int.inj z)).mp q
theorem Str.det {bs' : List Int32} {t' : Addr} (S : Str Z h a t bs) (S' : Str Z h a t' bs') : t = t' ∧ bs = bs' := by
  have e : (Value.ref t) = .ref t' := Fld.det (S.1.2.2 0 _ _ rfl rfl) (S'.1.2.2 0 _ _ rfl rfl)
  cases e
  exact ⟨rfl, map_int_inj (Av.det S.2 S'.2)⟩
end StrFacts
/-- an array of references, whose class's components are C's -/
def Avr (Z : State) (h : Heap) (a : Addr) (C : String) (vs : List Value) : Prop := ∃ (k : ClassId) (z : Int32), Arv Z h a k (.object C) z vs .null ∧ z.toNatClampNeg = vs.length ∧ Ovr Z k C
theorem Avr.av {Z : State} {h : Heap} {a : Addr} {C : String} {vs : List Value} (V : Avr Z h a C vs) : Av Z h a (.object C) vs := by obtain ⟨k, z, A, e, -⟩ := V; exact ⟨k, z, A, e⟩
theorem Avr.lt {Z : State} {h : Heap} {a : Addr} {C : String} {vs : List Value} (V : Avr Z h a C vs) : a < h.size := V.av.lt
theorem Avr.keep {Z : State} {h h' : Heap} {a : Addr} {C : String} {vs : List Value} {ws : List Addr} (V : Avr Z h a C vs) (K : Keep h h' ws) (q : a ∉ ws) : Avr Z h' a C vs := by obtain ⟨k, z, A, e, O⟩ := V; exact ⟨k, z, A.keep K q, e, O⟩
theorem Avr.k0 {Z : State} {h h' : Heap} {a : Addr} {C : String} {vs : List Value} (V : Avr Z h a C vs) (K : Keep h h' []) : Avr Z h' a C vs := V.keep K nin0
theorem cat_ref {v : Value} (q : v.isRef = true) : v.category = 1 := by rcases ref_cases q with rfl | ⟨a, rfl⟩ <;> rfl
theorem fits_refv {ty : FieldType} {v : Value} (ht : ty.isReference = true) (hv : v.isRef = true) : fits ty v = true := by rcases ref_cases hv with rfl | ⟨a, rfl⟩ <;> cases ty <;> first | rfl | cases ht
theorem nar01 {z : Int32} (q : z = 0 ∨ z = 1) : narrow .boolean (.int z) = .int z ∧ fits .boolean (.int z) = true := by rcases q with rfl | rfl <;> exact ⟨rfl, rfl⟩
/-- a local that holds nothing or one word -/
def Sl (s : Slot) : Prop := s = .unset ∨ ∃ v, s = .val v ∧ v.category = 1
theorem Sl.u : Sl .unset := Or.inl rfl
theorem Sl.val {v : Value} (q : v.category = 1) : Sl (.val v) := Or.inr ⟨v, rfl, q⟩
theorem sto1 {Ls Ls' : Array Slot} {n : Nat} {v : Value} {s : Slot} (hold : Ls[n]? = some s) (hs : Sl s) (hv : v.category = 1) (e : Ls.setIfInBounds n (.val v) = Ls') : storeLocals Ls n v = some Ls' := e ▸ XS.store1 hold hs hv
section Small
theorem nI_int {n : Nat} (q : n < 2147483648) : (Int32.ofNat n).toInt = n := Int32.toInt_ofNat_of_lt q
theorem nI_nat {n : Nat} (q : n < 2147483648) : (Int32.ofNat n).toNatClampNeg = n := by rw [Int32.toNatClampNeg, nI_int q]; rfl
theorem nI_nn {n : Nat} (q : n < 2147483648) : ¬ Int32.ofNat n < 0 := by rw [Int32.lt_iff_toInt_lt, nI_int q]; show ¬ (n : Int) < 0; omega
theorem nI_lt {i n : Nat} (q1 : i < 2147483648) (q2 : n < 2147483648) : Int32.ofNat i < Int32.ofNat n ↔ i < n := by rw [Int32.lt_iff_toInt_lt, nI_int q1, nI_int q2]; omega
theorem nI_eq {i n : Nat} (q1 : i < 2147483648) (q2 : n < 2147483648) : Int32.ofNat i = Int32.ofNat n ↔ i = n := by rw [← Int32.toInt_inj, nI_int q1, nI_int q2]; omega
theorem nI_succ (i : Nat) : Int32.ofNat i + Int32.ofInt 1 = Int32.ofNat (i + 1) := by rw [Int32.ofNat_add]; rfl
theorem nI_nn' {x : Int32} (q : ¬ x < 0) : x = Int32.ofNat x.toNatClampNeg ∧ x.toNatClampNeg < 2147483648 := ⟨(back32 q).1.symm, (back32 q).2⟩
end Small
section Steps
variable {l : Launch} {y : MethodName} {bytes : ByteArray} {maxL : Nat} {ret : Option FieldType} {R : Room} {Z : State} {a0 : Array Value} {EL : List (String × Nat)} {wd : Bool} {wr : List Addr} {h0 : Heap} {Q : QT} {h : Heap} {os : List Addr} {cells slots : Nat} {Ls : Array Slot} {st : List Value}
theorem Go.pure {k : KT} (C : Ctx k l y bytes maxL ret R Z a0 EL wd wr h0 Q) {pc pc' : Nat} {Ls' : Array Slot} {st' : List Value}
    (hs : ∀ {p : Program} {e : Env} {below : List Frame} {T target : State} {m : MethodId} {c : Code}, p.tables.exec = Jvm.exec → c.code = bytes → At T m c below → Steps p.tables e below (T.setTop (mkF m pc' Ls' st')) target → Steps p.tables e below (T.setTop (mkF m pc Ls st)) target)
    (K : Go k h os cells slots pc' Ls' st') : Go k h os cells slots pc Ls st := by
  obtain ⟨p, l', e, R', s, m, args, below, meth, c, Z', EL', wd', wr', Q'⟩ := k
  obtain ⟨-, hx, hc, -⟩ := C
  intro T locs vm X e0 N S w A Kp ow
  exact Fen.of (fun t kt => hs hx hc X.here kt) (K T locs vm X e0 N S w A Kp ow)
theorem Go.iload {k : KT} (C : Ctx k l y bytes maxL ret R Z a0 EL wd wr h0 Q) {pc pc' : Nat} {n : Nat} {x : Int32} (hd : De bytes pc (.iload n) 2 pc') (hl : Ls[n]? = some (.val (.int x))) (K : Go k h os cells slots pc' Ls (.int x :: st)) : Go k h os cells slots pc Ls (st) :=
  Go.pure C (fun hx hc X kt => by obtain ⟨h1, rfl⟩ := hd; exact XS.iload X hx rfl (hb hc h1) hl kt) K
theorem Go.iloadN {k : KT} (C : Ctx k l y bytes maxL ret R Z a0 EL wd wr h0 Q) {pc pc' : Nat} {n : Fin 4} {x : Int32} (hd : De bytes pc (.iload_n n) 1 pc') (hl : Ls[n.val]? = some (.val (.int x))) (K : Go k h os cells slots pc' Ls (.int x :: st)) : Go k h os cells slots pc Ls (st) :=
  Go.pure C (fun hx hc X kt => by obtain ⟨h1, rfl⟩ := hd; exact XS.iloadN X hx rfl (hb hc h1) hl kt) K
theorem Go.lload {k : KT} (C : Ctx k l y bytes maxL ret R Z a0 EL wd wr h0 Q) {pc pc' : Nat} {n : Nat} {x : Int64} (hd : De bytes pc (.lload n) 2 pc') (hl : Ls[n]? = some (.val (.long x))) (K : Go k h os cells slots pc' Ls (.long x :: st)) : Go k h os cells slots pc Ls (st) :=
  Go.pure C (fun hx hc X kt => by obtain ⟨h1, rfl⟩ := hd; exact XS.lload X hx rfl (hb hc h1) hl kt) K
theorem Go.lloadN {k : KT} (C : Ctx k l y bytes maxL ret R Z a0 EL wd wr h0 Q) {pc pc' : Nat} {n : Fin 4} {x : Int64} (hd : De bytes pc (.lload_n n) 1 pc') (hl : Ls[n.val]? = some (.val (.long x))) (K : Go k h os cells slots pc' Ls (.long x :: st)) : Go k h os cells slots pc Ls (st) :=
  Go.pure C (fun hx hc X kt => by obtain ⟨h1, rfl⟩ := hd; exact XS.lloadN X hx rfl (hb hc h1) hl kt) K
theorem Go.aload {k : KT} (C : Ctx k l y bytes maxL ret R Z a0 EL wd wr h0 Q) {pc pc' : Nat} {n : Nat} {v : Value} (hd : De bytes pc (.aload n) 2 pc') (hl : Ls[n]? = some (.val v)) (hv : v.isRef = true) (K : Go k h os cells slots pc' Ls (v :: st)) : Go k h os cells slots pc Ls (st) :=
  Go.pure C (fun hx hc X kt => by obtain ⟨h1, rfl⟩ := hd; exact XS.aload X hx rfl (hb hc h1) hl hv kt) K
theorem Go.aloadN {k : KT} (C : Ctx k l y bytes maxL ret R Z a0 EL wd wr h0 Q) {pc pc' : Nat} {n : Fin 4} {v : Value} (hd : De bytes pc (.aload_n n) 1 pc') (hl : Ls[n.val]? = some (.val v)) (hv : v.isRef = true) (K : Go k h os cells slots pc' Ls (v :: st)) : Go k h os cells slots pc Ls (st) :=
  Go.pure C (fun hx hc X kt => by obtain ⟨h1, rfl⟩ := hd; exact XS.aloadN X hx rfl (hb hc h1) hl hv kt) K
theorem Go.istore {k : KT} (C : Ctx k l y bytes maxL ret R Z a0 EL wd wr h0 Q) {pc pc' : Nat} {n : Nat} {x : Int32} {Ls' : Array Slot} (hd : De bytes pc (.istore n) 2 pc') (hl : storeLocals Ls n (.int x) = some Ls') (K : Go k h os cells slots pc' Ls' (st)) : Go k h os cells slots pc Ls (.int x :: st) :=
  Go.pure C (fun hx hc X kt => by obtain ⟨h1, rfl⟩ := hd; exact XS.istore X hx rfl (hb hc h1) rfl hl kt) K
theorem Go.istoreN {k : KT} (C : Ctx k l y bytes maxL ret R Z a0 EL wd wr h0 Q) {pc pc' : Nat} {n : Fin 4} {x : Int32} {Ls' : Array Slot} (hd : De bytes pc (.istore_n n) 1 pc') (hl : storeLocals Ls n.val (.int x) = some Ls') (K : Go k h os cells slots pc' Ls' (st)) : Go k h os cells slots pc Ls (.int x :: st) :=
  Go.pure C (fun hx hc X kt => by obtain ⟨h1, rfl⟩ := hd; exact XS.istoreN X hx rfl (hb hc h1) rfl hl kt) K
theorem Go.lstore {k : KT} (C : Ctx k l y bytes maxL ret R Z a0 EL wd wr h0 Q) {pc pc' : Nat} {n : Nat} {x : Int64} {Ls' : Array Slot} (hd : De bytes pc (.lstore n) 2 pc') (hl : storeLocals Ls n (.long x) = some Ls') (K : Go k h os cells slots pc' Ls' (st)) : Go k h os cells slots pc Ls (.long x :: st) :=
  Go.pure C (fun hx hc X kt => by obtain ⟨h1, rfl⟩ := hd; exact XS.lstore X hx rfl (hb hc h1) rfl hl kt) K
theorem Go.lstoreN {k : KT} (C : Ctx k l y bytes maxL ret R Z a0 EL wd wr h0 Q) {pc pc' : Nat} {n : Fin 4} {x : Int64} {Ls' : Array Slot} (hd : De bytes pc (.lstore_n n) 1 pc') (hl : storeLocals Ls n.val (.long x) = some Ls') (K : Go k h os cells slots pc' Ls' (st)) : Go k h os cells slots pc Ls (.long x :: st) :=
  Go.pure C (fun hx hc X kt => by obtain ⟨h1, rfl⟩ := hd; exact XS.lstoreN X hx rfl (hb hc h1) rfl hl kt) K
theorem Go.astore {k : KT} (C : Ctx k l y bytes maxL ret R Z a0 EL wd wr h0 Q) {pc pc' : Nat} {n : Nat} {v : Value} {Ls' : Array Slot} (hd : De bytes pc (.astore n) 2 pc') (hv : v.isRef = true) (hl : storeLocals Ls n v = some Ls') (K : Go k h os cells slots pc' Ls' (st)) : Go k h os cells slots pc Ls (v :: st) :=
  Go.pure C (fun hx hc X kt => by obtain ⟨h1, rfl⟩ := hd; exact XS.astore X hx rfl (hb hc h1) rfl hv hl kt) K
theorem Go.astoreN {k : KT} (C : Ctx k l y bytes maxL ret R Z a0 EL wd wr h0 Q) {pc pc' : Nat} {n : Fin 4} {v : Value} {Ls' : Array Slot} (hd : De bytes pc (.astore_n n) 1 pc') (hv : v.isRef = true) (hl : storeLocals Ls n.val v = some Ls') (K : Go k h os cells slots pc' Ls' (st)) : Go k h os cells slots pc Ls (v :: st) :=
  Go.pure C (fun hx hc X kt => by obtain ⟨h1, rfl⟩ := hd; exact XS.astoreN X hx rfl (hb hc h1) rfl hv hl kt) K
theorem Go.iinc {k : KT} (C : Ctx k l y bytes maxL ret R Z a0 EL wd wr h0 Q) {pc pc' : Nat} {n : Nat} {cst : Int} {x : Int32} (x' : Int32) {Ls' : Array Slot} (hd : De bytes pc (.iinc n cst) 3 pc') (hl : Ls[n]? = some (.val (.int x))) (hx' : x + Int32.ofInt cst = x') (hl' : storeLocals Ls n (.int x') = some Ls') (K : Go k h os cells slots pc' Ls' (st)) : Go k h os cells slots pc Ls (st) :=
  Go.pure C (fun hx hc X kt => by obtain ⟨h1, rfl⟩ := hd; exact XS.iinc X hx rfl (hb hc h1) hl (by rw [hx']; exact hl') kt) K
theorem Go.iconst {k : KT} (C : Ctx k l y bytes maxL ret R Z a0 EL wd wr h0 Q) {pc pc' : Nat} {i : Int} (v : Int32) (hd : De bytes pc (.iconst i) 1 pc') (hv : Int32.ofInt i = v) (K : Go k h os cells slots pc' Ls (.int v :: st)) : Go k h os cells slots pc Ls (st) :=
  Go.pure C (fun hx hc X kt => by obtain ⟨h1, rfl⟩ := hd; exact XS.iconst X hx rfl (hb hc h1) (by rw [hv]; exact kt)) K
theorem Go.bipush {k : KT} (C : Ctx k l y bytes maxL ret R Z a0 EL wd wr h0 Q) {pc pc' : Nat} {i : Int} (v : Int32) (hd : De bytes pc (.bipush i) 2 pc') (hv : (Int8.ofInt i).toInt32 = v) (K : Go k h os cells slots pc' Ls (.int v :: st)) : Go k h os cells slots pc Ls (st) :=
  Go.pure C (fun hx hc X kt => by obtain ⟨h1, rfl⟩ := hd; exact XS.bipush X hx rfl (hb hc h1) (by rw [hv]; exact kt)) K
theorem Go.sipush {k : KT} (C : Ctx k l y bytes maxL ret R Z a0 EL wd wr h0 Q) {pc pc' : Nat} {i : Int} (v : Int32) (hd : De bytes pc (.sipush i) 3 pc') (hv : (Int16.ofInt i).toInt32 = v) (K : Go k h os cells slots pc' Ls (.int v :: st)) : Go k h os cells slots pc Ls (st) :=
  Go.pure C (fun hx hc X kt => by obtain ⟨h1, rfl⟩ := hd; exact XS.sipush X hx rfl (hb hc h1) (by rw [hv]; exact kt)) K
theorem Go.lconst {k : KT} (C : Ctx k l y bytes maxL ret R Z a0 EL wd wr h0 Q) {pc pc' : Nat} {i : Fin 2} (v : Int64) (hd : De bytes pc (.lconst i) 1 pc') (hv : Int64.ofNat i = v) (K : Go k h os cells slots pc' Ls (.long v :: st)) : Go k h os cells slots pc Ls (st) :=
  Go.pure C (fun hx hc X kt => by obtain ⟨h1, rfl⟩ := hd; exact XS.lconst X hx rfl (hb hc h1) (by rw [hv]; exact kt)) K
theorem Go.aconstNull {k : KT} (C : Ctx k l y bytes maxL ret R Z a0 EL wd wr h0 Q) {pc pc' : Nat}  (hd : De bytes pc (.aconst_null) 1 pc') (K : Go k h os cells slots pc' Ls (.null :: st)) : Go k h os cells slots pc Ls (st) :=
  Go.pure C (fun hx hc X kt => by obtain ⟨h1, rfl⟩ := hd; exact XS.aconstNull X hx rfl (hb hc h1) kt) K
theorem Go.iadd {k : KT} (C : Ctx k l y bytes maxL ret R Z a0 EL wd wr h0 Q) {pc pc' : Nat} {x y' : Int32} (hd : De bytes pc (.iadd) 1 pc') (K : Go k h os cells slots pc' Ls (.int (x + y') :: st)) : Go k h os cells slots pc Ls (.int y' :: .int x :: st) :=
  Go.pure C (fun hx hc X kt => by obtain ⟨h1, rfl⟩ := hd; exact XS.iadd X hx rfl (hb hc h1) rfl kt) K
theorem Go.isub {k : KT} (C : Ctx k l y bytes maxL ret R Z a0 EL wd wr h0 Q) {pc pc' : Nat} {x y' : Int32} (hd : De bytes pc (.isub) 1 pc') (K : Go k h os cells slots pc' Ls (.int (x - y') :: st)) : Go k h os cells slots pc Ls (.int y' :: .int x :: st) :=
  Go.pure C (fun hx hc X kt => by obtain ⟨h1, rfl⟩ := hd; exact XS.isub X hx rfl (hb hc h1) rfl kt) K
theorem Go.imul {k : KT} (C : Ctx k l y bytes maxL ret R Z a0 EL wd wr h0 Q) {pc pc' : Nat} {x y' : Int32} (hd : De bytes pc (.imul) 1 pc') (K : Go k h os cells slots pc' Ls (.int (x * y') :: st)) : Go k h os cells slots pc Ls (.int y' :: .int x :: st) :=
  Go.pure C (fun hx hc X kt => by obtain ⟨h1, rfl⟩ := hd; exact XS.imul X hx rfl (hb hc h1) rfl kt) K
theorem Go.iand {k : KT} (C : Ctx k l y bytes maxL ret R Z a0 EL wd wr h0 Q) {pc pc' : Nat} {x y' : Int32} (hd : De bytes pc (.iand) 1 pc') (K : Go k h os cells slots pc' Ls (.int (x &&& y') :: st)) : Go k h os cells slots pc Ls (.int y' :: .int x :: st) :=
  Go.pure C (fun hx hc X kt => by obtain ⟨h1, rfl⟩ := hd; exact XS.iand X hx rfl (hb hc h1) rfl kt) K
theorem Go.ior {k : KT} (C : Ctx k l y bytes maxL ret R Z a0 EL wd wr h0 Q) {pc pc' : Nat} {x y' : Int32} (hd : De bytes pc (.ior) 1 pc') (K : Go k h os cells slots pc' Ls (.int (x ||| y') :: st)) : Go k h os cells slots pc Ls (.int y' :: .int x :: st) :=
  Go.pure C (fun hx hc X kt => by obtain ⟨h1, rfl⟩ := hd; exact XS.ior X hx rfl (hb hc h1) rfl kt) K
theorem Go.ixor {k : KT} (C : Ctx k l y bytes maxL ret R Z a0 EL wd wr h0 Q) {pc pc' : Nat} {x y' : Int32} (hd : De bytes pc (.ixor) 1 pc') (K : Go k h os cells slots pc' Ls (.int (x ^^^ y') :: st)) : Go k h os cells slots pc Ls (.int y' :: .int x :: st) :=
  Go.pure C (fun hx hc X kt => by obtain ⟨h1, rfl⟩ := hd; exact XS.ixor X hx rfl (hb hc h1) rfl kt) K
theorem Go.ishl {k : KT} (C : Ctx k l y bytes maxL ret R Z a0 EL wd wr h0 Q) {pc pc' : Nat} {x y' : Int32} (hd : De bytes pc (.ishl) 1 pc') (K : Go k h os cells slots pc' Ls (.int (x <<< (y' &&& 31)) :: st)) : Go k h os cells slots pc Ls (.int y' :: .int x :: st) :=
  Go.pure C (fun hx hc X kt => by obtain ⟨h1, rfl⟩ := hd; exact XS.ishl X hx rfl (hb hc h1) rfl kt) K
theorem Go.ishr {k : KT} (C : Ctx k l y bytes maxL ret R Z a0 EL wd wr h0 Q) {pc pc' : Nat} {x y' : Int32} (hd : De bytes pc (.ishr) 1 pc') (K : Go k h os cells slots pc' Ls (.int (x >>> (y' &&& 31)) :: st)) : Go k h os cells slots pc Ls (.int y' :: .int x :: st) :=
  Go.pure C (fun hx hc X kt => by obtain ⟨h1, rfl⟩ := hd; exact XS.ishr X hx rfl (hb hc h1) rfl kt) K
theorem Go.iushr {k : KT} (C : Ctx k l y bytes maxL ret R Z a0 EL wd wr h0 Q) {pc pc' : Nat} {x y' : Int32} (hd : De bytes pc (.iushr) 1 pc') (K : Go k h os cells slots pc' Ls (.int ((x.toUInt32 >>> (y' &&& 31).toUInt32).toInt32) :: st)) : Go k h os cells slots pc Ls (.int y' :: .int x :: st) :=
  Go.pure C (fun hx hc X kt => by obtain ⟨h1, rfl⟩ := hd; exact XS.iushr X hx rfl (hb hc h1) rfl kt) K
theorem Go.ladd {k : KT} (C : Ctx k l y bytes maxL ret R Z a0 EL wd wr h0 Q) {pc pc' : Nat} {x y' : Int64} (hd : De bytes pc (.ladd) 1 pc') (K : Go k h os cells slots pc' Ls (.long (x + y') :: st)) : Go k h os cells slots pc Ls (.long y' :: .long x :: st) :=
  Go.pure C (fun hx hc X kt => by obtain ⟨h1, rfl⟩ := hd; exact XS.ladd X hx rfl (hb hc h1) rfl kt) K
theorem Go.lsub {k : KT} (C : Ctx k l y bytes maxL ret R Z a0 EL wd wr h0 Q) {pc pc' : Nat} {x y' : Int64} (hd : De bytes pc (.lsub) 1 pc') (K : Go k h os cells slots pc' Ls (.long (x - y') :: st)) : Go k h os cells slots pc Ls (.long y' :: .long x :: st) :=
  Go.pure C (fun hx hc X kt => by obtain ⟨h1, rfl⟩ := hd; exact XS.lsub X hx rfl (hb hc h1) rfl kt) K
theorem Go.lmul {k : KT} (C : Ctx k l y bytes maxL ret R Z a0 EL wd wr h0 Q) {pc pc' : Nat} {x y' : Int64} (hd : De bytes pc (.lmul) 1 pc') (K : Go k h os cells slots pc' Ls (.long (x * y') :: st)) : Go k h os cells slots pc Ls (.long y' :: .long x :: st) :=
  Go.pure C (fun hx hc X kt => by obtain ⟨h1, rfl⟩ := hd; exact XS.lmul X hx rfl (hb hc h1) rfl kt) K
theorem Go.land {k : KT} (C : Ctx k l y bytes maxL ret R Z a0 EL wd wr h0 Q) {pc pc' : Nat} {x y' : Int64} (hd : De bytes pc (.land) 1 pc') (K : Go k h os cells slots pc' Ls (.long (x &&& y') :: st)) : Go k h os cells slots pc Ls (.long y' :: .long x :: st) :=
  Go.pure C (fun hx hc X kt => by obtain ⟨h1, rfl⟩ := hd; exact XS.land X hx rfl (hb hc h1) rfl kt) K
theorem Go.lor {k : KT} (C : Ctx k l y bytes maxL ret R Z a0 EL wd wr h0 Q) {pc pc' : Nat} {x y' : Int64} (hd : De bytes pc (.lor) 1 pc') (K : Go k h os cells slots pc' Ls (.long (x ||| y') :: st)) : Go k h os cells slots pc Ls (.long y' :: .long x :: st) :=
  Go.pure C (fun hx hc X kt => by obtain ⟨h1, rfl⟩ := hd; exact XS.lor X hx rfl (hb hc h1) rfl kt) K
theorem Go.lxor {k : KT} (C : Ctx k l y bytes maxL ret R Z a0 EL wd wr h0 Q) {pc pc' : Nat} {x y' : Int64} (hd : De bytes pc (.lxor) 1 pc') (K : Go k h os cells slots pc' Ls (.long (x ^^^ y') :: st)) : Go k h os cells slots pc Ls (.long y' :: .long x :: st) :=
  Go.pure C (fun hx hc X kt => by obtain ⟨h1, rfl⟩ := hd; exact XS.lxor X hx rfl (hb hc h1) rfl kt) K
theorem Go.lshl {k : KT} (C : Ctx k l y bytes maxL ret R Z a0 EL wd wr h0 Q) {pc pc' : Nat} {x : Int64} {y' : Int32} (hd : De bytes pc (.lshl) 1 pc') (K : Go k h os cells slots pc' Ls (.long (x <<< (y' &&& 0x3f).toInt64) :: st)) : Go k h os cells slots pc Ls (.int y' :: .long x :: st) :=
  Go.pure C (fun hx hc X kt => by obtain ⟨h1, rfl⟩ := hd; exact XS.lshl X hx rfl (hb hc h1) rfl kt) K
theorem Go.lshr {k : KT} (C : Ctx k l y bytes maxL ret R Z a0 EL wd wr h0 Q) {pc pc' : Nat} {x : Int64} {y' : Int32} (hd : De bytes pc (.lshr) 1 pc') (K : Go k h os cells slots pc' Ls (.long (x >>> (y' &&& 0x3f).toInt64) :: st)) : Go k h os cells slots pc Ls (.int y' :: .long x :: st) :=
  Go.pure C (fun hx hc X kt => by obtain ⟨h1, rfl⟩ := hd; exact XS.lshr X hx rfl (hb hc h1) rfl kt) K
theorem Go.lushr {k : KT} (C : Ctx k l y bytes maxL ret R Z a0 EL wd wr h0 Q) {pc pc' : Nat} {x : Int64} {y' : Int32} (hd : De bytes pc (.lushr) 1 pc') (K : Go k h os cells slots pc' Ls (.long ((x.toUInt64 >>> (y' &&& 0x3f).toInt64.toUInt64).toInt64) :: st)) : Go k h os cells slots pc Ls (.int y' :: .long x :: st) :=
  Go.pure C (fun hx hc X kt => by obtain ⟨h1, rfl⟩ := hd; exact XS.lushr X hx rfl (hb hc h1) rfl kt) K
theorem Go.idiv {k : KT} (C : Ctx k l y bytes maxL ret R Z a0 EL wd wr h0 Q) {pc pc' : Nat} {x y' : Int32} (hd : De bytes pc (.idiv) 1 pc') (hy : y' ≠ 0) (K : Go k h os cells slots pc' Ls (.int (x / y') :: st)) : Go k h os cells slots pc Ls (.int y' :: .int x :: st) :=
  Go.pure C (fun hx hc X kt => by obtain ⟨h1, rfl⟩ := hd; exact XS.idiv X hx rfl (hb hc h1) rfl hy kt) K
theorem Go.irem {k : KT} (C : Ctx k l y bytes maxL ret R Z a0 EL wd wr h0 Q) {pc pc' : Nat} {x y' : Int32} (hd : De bytes pc (.irem) 1 pc') (hy : y' ≠ 0) (K : Go k h os cells slots pc' Ls (.int (x % y') :: st)) : Go k h os cells slots pc Ls (.int y' :: .int x :: st) :=
  Go.pure C (fun hx hc X kt => by obtain ⟨h1, rfl⟩ := hd; exact XS.irem X hx rfl (hb hc h1) rfl hy (by rw [irem_eq_mod x y']; exact kt)) K
theorem Go.ldiv {k : KT} (C : Ctx k l y bytes maxL ret R Z a0 EL wd wr h0 Q) {pc pc' : Nat} {x y' : Int64} (hd : De bytes pc (.ldiv) 1 pc') (hy : y' ≠ 0) (K : Go k h os cells slots pc' Ls (.long (x / y') :: st)) : Go k h os cells slots pc Ls (.long y' :: .long x :: st) :=
  Go.pure C (fun hx hc X kt => by obtain ⟨h1, rfl⟩ := hd; exact XS.ldiv X hx rfl (hb hc h1) rfl hy kt) K
theorem Go.lcmp {k : KT} (C : Ctx k l y bytes maxL ret R Z a0 EL wd wr h0 Q) {pc pc' : Nat} {x y' : Int64} (hd : De bytes pc (.lcmp) 1 pc') (K : Go k h os cells slots pc' Ls (.int (lcmpW x y') :: st)) : Go k h os cells slots pc Ls (.long y' :: .long x :: st) :=
  Go.pure C (fun hx hc X kt => by obtain ⟨h1, rfl⟩ := hd; exact XS.lcmp X hx rfl (hb hc h1) rfl kt) K
theorem Go.ineg {k : KT} (C : Ctx k l y bytes maxL ret R Z a0 EL wd wr h0 Q) {pc pc' : Nat} {x : Int32} (hd : De bytes pc (.ineg) 1 pc') (K : Go k h os cells slots pc' Ls (.int (-x) :: st)) : Go k h os cells slots pc Ls (.int x :: st) :=
  Go.pure C (fun hx hc X kt => by obtain ⟨h1, rfl⟩ := hd; exact XS.ineg X hx rfl (hb hc h1) rfl kt) K
theorem Go.lneg {k : KT} (C : Ctx k l y bytes maxL ret R Z a0 EL wd wr h0 Q) {pc pc' : Nat} {x : Int64} (hd : De bytes pc (.lneg) 1 pc') (K : Go k h os cells slots pc' Ls (.long (-x) :: st)) : Go k h os cells slots pc Ls (.long x :: st) :=
  Go.pure C (fun hx hc X kt => by obtain ⟨h1, rfl⟩ := hd; exact XS.lneg X hx rfl (hb hc h1) rfl kt) K
theorem Go.i2l {k : KT} (C : Ctx k l y bytes maxL ret R Z a0 EL wd wr h0 Q) {pc pc' : Nat} {x : Int32} (hd : De bytes pc (.i2l) 1 pc') (K : Go k h os cells slots pc' Ls (.long (x.toInt64) :: st)) : Go k h os cells slots pc Ls (.int x :: st) :=
  Go.pure C (fun hx hc X kt => by obtain ⟨h1, rfl⟩ := hd; exact XS.i2l X hx rfl (hb hc h1) rfl kt) K
theorem Go.l2i {k : KT} (C : Ctx k l y bytes maxL ret R Z a0 EL wd wr h0 Q) {pc pc' : Nat} {x : Int64} (hd : De bytes pc (.l2i) 1 pc') (K : Go k h os cells slots pc' Ls (.int (x.toInt32) :: st)) : Go k h os cells slots pc Ls (.long x :: st) :=
  Go.pure C (fun hx hc X kt => by obtain ⟨h1, rfl⟩ := hd; exact XS.l2i X hx rfl (hb hc h1) rfl kt) K
theorem Go.i2b {k : KT} (C : Ctx k l y bytes maxL ret R Z a0 EL wd wr h0 Q) {pc pc' : Nat} {x : Int32} (hd : De bytes pc (.i2b) 1 pc') (K : Go k h os cells slots pc' Ls (.int (x.toInt8.toInt32) :: st)) : Go k h os cells slots pc Ls (.int x :: st) :=
  Go.pure C (fun hx hc X kt => by obtain ⟨h1, rfl⟩ := hd; exact XS.i2b X hx rfl (hb hc h1) rfl kt) K
theorem Go.i2s {k : KT} (C : Ctx k l y bytes maxL ret R Z a0 EL wd wr h0 Q) {pc pc' : Nat} {x : Int32} (hd : De bytes pc (.i2s) 1 pc') (K : Go k h os cells slots pc' Ls (.int (x.toInt16.toInt32) :: st)) : Go k h os cells slots pc Ls (.int x :: st) :=
  Go.pure C (fun hx hc X kt => by obtain ⟨h1, rfl⟩ := hd; exact XS.i2s X hx rfl (hb hc h1) rfl kt) K
theorem Go.i2c {k : KT} (C : Ctx k l y bytes maxL ret R Z a0 EL wd wr h0 Q) {pc pc' : Nat} {x : Int32} (hd : De bytes pc (.i2c) 1 pc') (K : Go k h os cells slots pc' Ls (.int (x.toUInt32.toUInt16.toUInt32.toInt32) :: st)) : Go k h os cells slots pc Ls (.int x :: st) :=
  Go.pure C (fun hx hc X kt => by obtain ⟨h1, rfl⟩ := hd; exact XS.i2c X hx rfl (hb hc h1) rfl kt) K
theorem Go.dup {k : KT} (C : Ctx k l y bytes maxL ret R Z a0 EL wd wr h0 Q) {pc pc' : Nat} {v : Value} (hd : De bytes pc (.dup) 1 pc') (hv : v.category = 1) (K : Go k h os cells slots pc' Ls (v :: v :: st)) : Go k h os cells slots pc Ls (v :: st) :=
  Go.pure C (fun hx hc X kt => by obtain ⟨h1, rfl⟩ := hd; exact XS.dup X hx rfl (hb hc h1) rfl hv kt) K
theorem Go.pop {k : KT} (C : Ctx k l y bytes maxL ret R Z a0 EL wd wr h0 Q) {pc pc' : Nat} {v : Value} (hd : De bytes pc (.pop) 1 pc') (hv : v.category = 1) (K : Go k h os cells slots pc' Ls (st)) : Go k h os cells slots pc Ls (v :: st) :=
  Go.pure C (fun hx hc X kt => by obtain ⟨h1, rfl⟩ := hd; exact XS.pop X hx rfl (hb hc h1) rfl hv kt) K
theorem Go.dupX1 {k : KT} (C : Ctx k l y bytes maxL ret R Z a0 EL wd wr h0 Q) {pc pc' : Nat} {v w : Value} (hd : De bytes pc (.dup_x1) 1 pc') (hv : v.category = 1) (hw : w.category = 1) (K : Go k h os cells slots pc' Ls (v :: w :: v :: st)) : Go k h os cells slots pc Ls (v :: w :: st) :=
  Go.pure C (fun hx hc X kt => by obtain ⟨h1, rfl⟩ := hd; exact XS.dupX1 X hx rfl (hb hc h1) rfl hv hw kt) K
theorem Go.swap {k : KT} (C : Ctx k l y bytes maxL ret R Z a0 EL wd wr h0 Q) {pc pc' : Nat} {v w : Value} (hd : De bytes pc (.swap) 1 pc') (hv : v.category = 1) (hw : w.category = 1) (K : Go k h os cells slots pc' Ls (w :: v :: st)) : Go k h os cells slots pc Ls (v :: w :: st) :=
  Go.pure C (fun hx hc X kt => by obtain ⟨h1, rfl⟩ := hd; exact XS.swap X hx rfl (hb hc h1) rfl hv hw kt) K
theorem Go.dup2 {k : KT} (C : Ctx k l y bytes maxL ret R Z a0 EL wd wr h0 Q) {pc pc' : Nat} {v w : Value} (hd : De bytes pc (.dup2) 1 pc') (hv : v.category = 1) (hw : w.category = 1) (K : Go k h os cells slots pc' Ls (v :: w :: v :: w :: st)) : Go k h os cells slots pc Ls (v :: w :: st) :=
  Go.pure C (fun hx hc X kt => by obtain ⟨h1, rfl⟩ := hd; exact XT.dup2 X hx rfl (hb hc h1) rfl hv hw kt) K
theorem Go.goto {k : KT} (C : Ctx k l y bytes maxL ret R Z a0 EL wd wr h0 Q) {pc pc' pcT : Nat} (hd : DeJ bytes pc .goto pc' pcT) (K : Go k h os cells slots pcT Ls st) : Go k h os cells slots pc Ls st :=
  Go.pure C (fun hx hc X kt => by obtain ⟨o, h1, -, h2, h3⟩ := hd; exact XS.goto X hx rfl rfl (hb hc h1) h2 h3 kt) K
theorem Go.ifeq {k : KT} (C : Ctx k l y bytes maxL ret R Z a0 EL wd wr h0 Q) {pc pc' pcT : Nat} {x : Int32} (hd : DeJ bytes pc (.ifCond .eq) pc' pcT) (KT : (x = 0) → Go k h os cells slots pcT Ls st) (KF : ¬ (x = 0) → Go k h os cells slots pc' Ls st) : Go k h os cells slots pc Ls (.int x :: st) := by
  obtain ⟨o, h1, rfl, h2, h3⟩ := hd
  by_cases q : (x = 0)
  · exact Go.pure C (fun hx hc X kt => XS.ifYes X hx rfl rfl (hb hc h1) rfl ((if0 _ _).trans (teq q).1) h2 h3 kt) (KT q)
  · exact Go.pure C (fun hx hc X kt => XS.ifNo X hx rfl (hb hc h1) rfl ((if0 _ _).trans (feq q).1) kt) (KF q)
theorem Go.icmpeq {k : KT} (C : Ctx k l y bytes maxL ret R Z a0 EL wd wr h0 Q) {pc pc' pcT : Nat} {x z : Int32} (hd : DeJ bytes pc (.if_icmp .eq) pc' pcT) (KT : (x = z) → Go k h os cells slots pcT Ls st) (KF : ¬ (x = z) → Go k h os cells slots pc' Ls st) : Go k h os cells slots pc Ls (.int z :: .int x :: st) := by
  obtain ⟨o, h1, rfl, h2, h3⟩ := hd
  by_cases q : (x = z)
  · exact Go.pure C (fun hx hc X kt => XS.icmpYes X hx rfl rfl (hb hc h1) rfl (teq q).1 h2 h3 kt) (KT q)
  · exact Go.pure C (fun hx hc X kt => XS.icmpNo X hx rfl (hb hc h1) rfl (feq q).1 kt) (KF q)
theorem Go.ifne {k : KT} (C : Ctx k l y bytes maxL ret R Z a0 EL wd wr h0 Q) {pc pc' pcT : Nat} {x : Int32} (hd : DeJ bytes pc (.ifCond .ne) pc' pcT) (KT : ¬ (x = 0) → Go k h os cells slots pcT Ls st) (KF : (x = 0) → Go k h os cells slots pc' Ls st) : Go k h os cells slots pc Ls (.int x :: st) := by
  obtain ⟨o, h1, rfl, h2, h3⟩ := hd
  by_cases q : ¬ (x = 0)
  · exact Go.pure C (fun hx hc X kt => XS.ifYes X hx rfl rfl (hb hc h1) rfl ((if0 _ _).trans (feq q).2) h2 h3 kt) (KT q)
  · have q := Decidable.not_not.mp q
    exact Go.pure C (fun hx hc X kt => XS.ifNo X hx rfl (hb hc h1) rfl ((if0 _ _).trans (teq q).2) kt) (KF q)
theorem Go.icmpne {k : KT} (C : Ctx k l y bytes maxL ret R Z a0 EL wd wr h0 Q) {pc pc' pcT : Nat} {x z : Int32} (hd : DeJ bytes pc (.if_icmp .ne) pc' pcT) (KT : ¬ (x = z) → Go k h os cells slots pcT Ls st) (KF : (x = z) → Go k h os cells slots pc' Ls st) : Go k h os cells slots pc Ls (.int z :: .int x :: st) := by
  obtain ⟨o, h1, rfl, h2, h3⟩ := hd
  by_cases q : ¬ (x = z)
  · exact Go.pure C (fun hx hc X kt => XS.icmpYes X hx rfl rfl (hb hc h1) rfl (feq q).2 h2 h3 kt) (KT q)
  · have q := Decidable.not_not.mp q
    exact Go.pure C (fun hx hc X kt => XS.icmpNo X hx rfl (hb hc h1) rfl (teq q).2 kt) (KF q)
theorem Go.iflt {k : KT} (C : Ctx k l y bytes maxL ret R Z a0 EL wd wr h0 Q) {pc pc' pcT : Nat} {x : Int32} (hd : DeJ bytes pc (.ifCond .lt) pc' pcT) (KT : (x < 0) → Go k h os cells slots pcT Ls st) (KF : ¬ (x < 0) → Go k h os cells slots pc' Ls st) : Go k h os cells slots pc Ls (.int x :: st) := by
  obtain ⟨o, h1, rfl, h2, h3⟩ := hd
  by_cases q : (x < 0)
  · exact Go.pure C (fun hx hc X kt => XS.ifYes X hx rfl rfl (hb hc h1) rfl ((if0 _ _).trans (tlt q).1) h2 h3 kt) (KT q)
  · exact Go.pure C (fun hx hc X kt => XS.ifNo X hx rfl (hb hc h1) rfl ((if0 _ _).trans (flt q).1) kt) (KF q)
theorem Go.icmplt {k : KT} (C : Ctx k l y bytes maxL ret R Z a0 EL wd wr h0 Q) {pc pc' pcT : Nat} {x z : Int32} (hd : DeJ bytes pc (.if_icmp .lt) pc' pcT) (KT : (x < z) → Go k h os cells slots pcT Ls st) (KF : ¬ (x < z) → Go k h os cells slots pc' Ls st) : Go k h os cells slots pc Ls (.int z :: .int x :: st) := by
  obtain ⟨o, h1, rfl, h2, h3⟩ := hd
  by_cases q : (x < z)
  · exact Go.pure C (fun hx hc X kt => XS.icmpYes X hx rfl rfl (hb hc h1) rfl (tlt q).1 h2 h3 kt) (KT q)
  · exact Go.pure C (fun hx hc X kt => XS.icmpNo X hx rfl (hb hc h1) rfl (flt q).1 kt) (KF q)
theorem Go.ifge {k : KT} (C : Ctx k l y bytes maxL ret R Z a0 EL wd wr h0 Q) {pc pc' pcT : Nat} {x : Int32} (hd : DeJ bytes pc (.ifCond .ge) pc' pcT) (KT : ¬ (x < 0) → Go k h os cells slots pcT Ls st) (KF : (x < 0) → Go k h os cells slots pc' Ls st) : Go k h os cells slots pc Ls (.int x :: st) := by
  obtain ⟨o, h1, rfl, h2, h3⟩ := hd
  by_cases q : ¬ (x < 0)
  · exact Go.pure C (fun hx hc X kt => XS.ifYes X hx rfl rfl (hb hc h1) rfl ((if0 _ _).trans (flt q).2.1) h2 h3 kt) (KT q)
  · have q := Decidable.not_not.mp q
    exact Go.pure C (fun hx hc X kt => XS.ifNo X hx rfl (hb hc h1) rfl ((if0 _ _).trans (tlt q).2.1) kt) (KF q)
theorem Go.icmpge {k : KT} (C : Ctx k l y bytes maxL ret R Z a0 EL wd wr h0 Q) {pc pc' pcT : Nat} {x z : Int32} (hd : DeJ bytes pc (.if_icmp .ge) pc' pcT) (KT : ¬ (x < z) → Go k h os cells slots pcT Ls st) (KF : (x < z) → Go k h os cells slots pc' Ls st) : Go k h os cells slots pc Ls (.int z :: .int x :: st) := by
  obtain ⟨o, h1, rfl, h2, h3⟩ := hd
  by_cases q : ¬ (x < z)
  · exact Go.pure C (fun hx hc X kt => XS.icmpYes X hx rfl rfl (hb hc h1) rfl (flt q).2.1 h2 h3 kt) (KT q)
  · have q := Decidable.not_not.mp q
    exact Go.pure C (fun hx hc X kt => XS.icmpNo X hx rfl (hb hc h1) rfl (tlt q).2.1 kt) (KF q)
theorem Go.ifgt {k : KT} (C : Ctx k l y bytes maxL ret R Z a0 EL wd wr h0 Q) {pc pc' pcT : Nat} {x : Int32} (hd : DeJ bytes pc (.ifCond .gt) pc' pcT) (KT : (0 < x) → Go k h os cells slots pcT Ls st) (KF : ¬ (0 < x) → Go k h os cells slots pc' Ls st) : Go k h os cells slots pc Ls (.int x :: st) := by
  obtain ⟨o, h1, rfl, h2, h3⟩ := hd
  by_cases q : (0 < x)
  · exact Go.pure C (fun hx hc X kt => XS.ifYes X hx rfl rfl (hb hc h1) rfl ((if0 _ _).trans (tlt q).2.2.1) h2 h3 kt) (KT q)
  · exact Go.pure C (fun hx hc X kt => XS.ifNo X hx rfl (hb hc h1) rfl ((if0 _ _).trans (flt q).2.2.1) kt) (KF q)
theorem Go.icmpgt {k : KT} (C : Ctx k l y bytes maxL ret R Z a0 EL wd wr h0 Q) {pc pc' pcT : Nat} {x z : Int32} (hd : DeJ bytes pc (.if_icmp .gt) pc' pcT) (KT : (z < x) → Go k h os cells slots pcT Ls st) (KF : ¬ (z < x) → Go k h os cells slots pc' Ls st) : Go k h os cells slots pc Ls (.int z :: .int x :: st) := by
  obtain ⟨o, h1, rfl, h2, h3⟩ := hd
  by_cases q : (z < x)
  · exact Go.pure C (fun hx hc X kt => XS.icmpYes X hx rfl rfl (hb hc h1) rfl (tlt q).2.2.1 h2 h3 kt) (KT q)
  · exact Go.pure C (fun hx hc X kt => XS.icmpNo X hx rfl (hb hc h1) rfl (flt q).2.2.1 kt) (KF q)
theorem Go.ifle {k : KT} (C : Ctx k l y bytes maxL ret R Z a0 EL wd wr h0 Q) {pc pc' pcT : Nat} {x : Int32} (hd : DeJ bytes pc (.ifCond .le) pc' pcT) (KT : ¬ (0 < x) → Go k h os cells slots pcT Ls st) (KF : (0 < x) → Go k h os cells slots pc' Ls st) : Go k h os cells slots pc Ls (.int x :: st) := by
  obtain ⟨o, h1, rfl, h2, h3⟩ := hd
  by_cases q : ¬ (0 < x)
  · exact Go.pure C (fun hx hc X kt => XS.ifYes X hx rfl rfl (hb hc h1) rfl ((if0 _ _).trans (flt q).2.2.2) h2 h3 kt) (KT q)
  · have q := Decidable.not_not.mp q
    exact Go.pure C (fun hx hc X kt => XS.ifNo X hx rfl (hb hc h1) rfl ((if0 _ _).trans (tlt q).2.2.2) kt) (KF q)
theorem Go.icmple {k : KT} (C : Ctx k l y bytes maxL ret R Z a0 EL wd wr h0 Q) {pc pc' pcT : Nat} {x z : Int32} (hd : DeJ bytes pc (.if_icmp .le) pc' pcT) (KT : ¬ (z < x) → Go k h os cells slots pcT Ls st) (KF : (z < x) → Go k h os cells slots pc' Ls st) : Go k h os cells slots pc Ls (.int z :: .int x :: st) := by
  obtain ⟨o, h1, rfl, h2, h3⟩ := hd
  by_cases q : ¬ (z < x)
  · exact Go.pure C (fun hx hc X kt => XS.icmpYes X hx rfl rfl (hb hc h1) rfl (flt q).2.2.2 h2 h3 kt) (KT q)
  · have q := Decidable.not_not.mp q
    exact Go.pure C (fun hx hc X kt => XS.icmpNo X hx rfl (hb hc h1) rfl (tlt q).2.2.2 kt) (KF q)
theorem Go.ifnullY {k : KT} (C : Ctx k l y bytes maxL ret R Z a0 EL wd wr h0 Q) {pc pc' pcT : Nat} (hd : DeJ bytes pc .ifnull pc' pcT) (K : Go k h os cells slots pcT Ls st) : Go k h os cells slots pc Ls (.null :: st) :=
  Go.pure C (fun hx hc X kt => by obtain ⟨o, h1, -, h2, h3⟩ := hd; exact XS.ifnullYes X hx rfl rfl (hb hc h1) rfl h2 h3 kt) K
theorem Go.ifnullN {k : KT} (C : Ctx k l y bytes maxL ret R Z a0 EL wd wr h0 Q) {pc pc' pcT : Nat} {b : Addr} (hd : DeJ bytes pc .ifnull pc' pcT) (K : Go k h os cells slots pc' Ls st) : Go k h os cells slots pc Ls (.ref b :: st) :=
  Go.pure C (fun hx hc X kt => by obtain ⟨o, h1, rfl, h2, h3⟩ := hd; exact XS.ifnullNo X hx rfl (hb hc h1) rfl kt) K
theorem Go.ifnonnullY {k : KT} (C : Ctx k l y bytes maxL ret R Z a0 EL wd wr h0 Q) {pc pc' pcT : Nat} {b : Addr} (hd : DeJ bytes pc .ifnonnull pc' pcT) (K : Go k h os cells slots pcT Ls st) : Go k h os cells slots pc Ls (.ref b :: st) :=
  Go.pure C (fun hx hc X kt => by obtain ⟨o, h1, -, h2, h3⟩ := hd; exact XS.ifnonnullYes X hx rfl rfl (hb hc h1) rfl h2 h3 kt) K
theorem Go.ifnonnullN {k : KT} (C : Ctx k l y bytes maxL ret R Z a0 EL wd wr h0 Q) {pc pc' pcT : Nat} (hd : DeJ bytes pc .ifnonnull pc' pcT) (K : Go k h os cells slots pc' Ls st) : Go k h os cells slots pc Ls (.null :: st) :=
  Go.pure C (fun hx hc X kt => by obtain ⟨o, h1, rfl, h2, h3⟩ := hd; exact XS.ifnonnullNo X hx rfl (hb hc h1) rfl kt) K
end Steps
section Heapy
variable {l : Launch} {y : MethodName} {bytes : ByteArray} {maxL : Nat} {ret : Option FieldType} {R : Room} {Z : State} {a0 : Array Value} {EL : List (String × Nat)} {wd : Bool} {wr : List Addr} {h0 : Heap} {Q : QT} {h : Heap} {os : List Addr} {cells slots : Nat} {Ls : Array Slot} {st : List Value}
/-- the run moves on: heap, tables and frame at hand -/
theorem mov {p : Program} {e : Env} {s : State} {m : MethodId} {args : Array Value} {below : List Frame} {meth : Method} {c : Code} {T T' : State} {locs' : List Loc} {vm' : Vm} {h' : Heap} {os' : List Addr} {cells' slots' pc pc' : Nat} {Ls' : Array Slot} {st' : List Value}
    (G : Go ⟨p, l, e, R, s, m, args, below, meth, c, Z, EL, wd, wr, Q⟩ h' os' cells' slots' pc' Ls' st') (X' : Stand p l e R (s.setVm vm') m args below meth c T' locs' cells' slots') (e' : T'.heap = h') (N' : Fr Z.heap.size locs') (S' : s.Since vm' h'.size) (w' : wd = false → s.WarmedH vm')
    (A' : CHr Z EL s.vm s.heap vm' h') (K' : Keep s.heap h' wr) (ow' : ∀ x ∈ os', Own Z s.heap EL wr vm' h' x)
    (stp : ∀ target, Steps p.tables e below (T'.setTop (mkF m pc' Ls' st')) target → Steps p.tables e below (T.setTop (mkF m pc Ls st)) target) : Fen p e below (Done Z EL wd R wr Q s) (T.setTop (mkF m pc Ls st)) :=
  Fen.of stp (G T' locs' vm' X' e' N' S' w' A' K' ow')
theorem ext0 {s : State} {h' : Heap} (E : Ext Z.heap s.heap) (K : Keep s.heap h' wr) (q : ∀ x ∈ wr, Z.heap.size ≤ x) : Ext Z.heap h' :=
  ⟨Nat.le_trans E.1 K.1, fun a c r => K.2.1 a c (E.2 a c r) fun hm => absurd (Array.getElem?_eq_some_iff.mp r).1 (Nat.not_lt.mpr (q a hm))⟩
theorem Go.old {k : KT} (C : Ctx k l y bytes maxL ret R Z a0 EL wd wr h0 Q) {pc : Nat} (K : Ext Z.heap h → Go k h os cells slots pc Ls st) : Go k h os cells slots pc Ls st := by
  obtain ⟨p, l', e, R', s, m, args, below, meth, c, Z', EL', wd', wr', Q'⟩ := k
  have C' := C
  obtain ⟨⟨rfl, rfl, rfl, rfl, rfl, rfl, rfl, rfl⟩, hx, hc, hml, hret, hlk, hnm, hZ, hown, hEL, hE, hwr⟩ := C
  intro T locs vm X e0 N S w A Kp ow
  exact K (ext0 hE Kp hwr) T locs vm X e0 N S w A Kp ow
theorem Go.kept {k : KT} (C : Ctx k l y bytes maxL ret R Z a0 EL wd wr h0 Q) {pc : Nat} (K : Keep h0 h wr → Go k h os cells slots pc Ls st) : Go k h os cells slots pc Ls st := by
  obtain ⟨p, l', e, R', s, m, args, below, meth, c, Z', EL', wd', wr', Q'⟩ := k
  obtain ⟨⟨rfl, rfl, rfl, rfl, rfl, rfl, rfl, rfl⟩, -⟩ := C
  intro T locs vm X e0 N S w A Kp ow
  exact K Kp T locs vm X e0 N S w A Kp ow
/-- fewer owned, more cells -/
theorem Go.less {k : KT} {pc : Nat} {os' : List Addr} (q : ∀ x ∈ os', x ∈ os) (G : Go k h os' cells slots pc Ls st) : Go k h os cells slots pc Ls st := by
  obtain ⟨p, l', e, R', s, m, args, below, meth, c, Z', EL', wd', wr', Q'⟩ := k
  intro T locs vm X e0 N S w A Kp ow
  exact G T locs vm X e0 N S w A Kp fun x hx => ow x (q x hx)
theorem Go.more {k : KT} {pc cells' slots' : Nat} (q1 : cells ≤ cells') (q2 : slots ≤ slots') (G : Go k h os cells' slots' pc Ls st) : Go k h os cells slots pc Ls st := by
  obtain ⟨p, l', e, R', s, m, args, below, meth, c, Z', EL', wd', wr', Q'⟩ := k
  intro T locs vm X e0 N S w A Kp ow
  exact G T locs vm (X.more q1 q2) e0 N S w A Kp ow
theorem ownPush {s : State} {vm : Vm} {h' : Heap} (E0 : Ext Z.heap s.heap) (A : CHr Z EL s.vm s.heap vm h) (Kp : Keep s.heap h wr) (E : Ext h h') (hlt : h.size < h'.size) (ow : ∀ x ∈ os, Own Z s.heap EL wr vm h x) : ∀ x ∈ h.size :: os, Own Z s.heap EL wr vm h' x := fun x hx => by
  rcases List.mem_cons.mp hx with rfl | hx
  · exact ⟨Safe.ext E A.1 (Safe.new (Nat.le_refl _)), Nat.le_trans E0.1 Kp.1, hlt, Or.inr Kp.1⟩
  · exact (ow x hx).chr (CHr.ext E A.1)
theorem Go.new {k : KT} (C : Ctx k l y bytes maxL ret R Z a0 EL wd wr h0 Q) {pc pc' i n : Nat} {Cn : String} {F : FL} {vs : List Value} (w1 : (Cond.classLink y.cls i Cn).before a0 Z = true) (w2 : (Cond.instantiable Cn n).before a0 Z = true) (w3 : (Cond.initialized Cn).before a0 Z = true)
    (LF : LaidL Z a0 Cn F) (dv : F.map (fun q => (parseFieldDescriptor q.2.2).map defaultValue) = vs.map some) (hd : De bytes pc (.new i) 3 pc') (hc : cells + 1 ≤ R.cells) (hl : slots + n ≤ R.slots)
    (K : ∀ (b : Addr) (h' : Heap), b = h.size → Keep h h' [] → Obj Z h' b Cn F vs → Go k h' (b :: os) (cells + 1) (slots + n) pc' Ls (.ref b :: st)) : Go k h os cells slots pc Ls st := by
  obtain ⟨p, l', e, R', s, m, args, below, meth, c, Z', EL', wd', wr', Q'⟩ := k
  obtain ⟨⟨rfl, rfl, rfl, rfl, rfl, rfl, rfl, rfl⟩, hx, hc', hml, hret, hlk, hnm, hZ, hown, hEL, hE, hwr⟩ := C
  obtain ⟨h1, rfl⟩ := hd
  intro T locs vm X e0 N S w A Kp ow
  have hZ' : Z'.Warmed39 (s.setVm vm).vm := State.Warmed39.trans (t := s) hZ S.1
  have hown' : (s.setVm vm).vm.findClass y.cls = some m.cls := (S.1.alike.findClass _ _).trans hown
  obtain ⟨T', h', X', e', E, Ex, D, -, stp⟩ := newO X hx hZ' hown' w1 w2 w3 e0 (g := mkF m pc Ls st) rfl (hb hc' h1) hc hl
  exact mov (K h.size h' rfl (Keep.ofExt E) (Obj.new (A := Ex) D LF dv)) X' e' N (Since.up S E.1) w (A.trans (CHr.ext E A.1)) (Kp.ext E) (ownPush hE A Kp E Ex.lt ow) stp
theorem Go.newarray {k : KT} (C : Ctx k l y bytes maxL ret R Z a0 EL wd wr h0 Q) {pc pc' : Nat} {aty : ArrayType} {z : Int32} (w1 : (Cond.arrayClass (newarray.typeOf aty)).before a0 Z = true) (hd : De bytes pc (.newarray aty) 2 pc') (hz : ¬ z < 0) (n : Nat) (hn : z.toNatClampNeg = n) {cap : Nat} (hcap : n ≤ cap) (hb8 : cap * 8 ≤ 536870912)
    (hc : cells + 1 ≤ R.cells) (hl : slots + cap ≤ R.slots)
    (K : ∀ (b : Addr) (h' : Heap), b = h.size → Keep h h' [] → Av Z h' b (newarray.typeOf aty) (List.replicate n (defaultValue (newarray.typeOf aty))) → Go k h' (b :: os) (cells + 1) (slots + cap) pc' Ls (.ref b :: st)) : Go k h os cells slots pc Ls (.int z :: st) := by
  obtain ⟨p, l', e, R', s, m, args, below, meth, c, Z', EL', wd', wr', Q'⟩ := k
  obtain ⟨⟨rfl, rfl, rfl, rfl, rfl, rfl, rfl, rfl⟩, hx, hc', hml, hret, hlk, hnm, hZ, hown, hEL, hE, hwr⟩ := C
  obtain ⟨h1, rfl⟩ := hd
  intro T locs vm X e0 N S w A Kp ow
  have hZ' : Z'.Warmed39 (s.setVm vm).vm := State.Warmed39.trans (t := s) hZ S.1
  obtain ⟨T', h', cA, X', e', E, Ar, stp⟩ := newP X hx hZ' w1 e0 (g := mkF m pc Ls (.int z :: st)) rfl (hb hc' h1) rfl hz (cap := cap) (by rw [hn]; exact hcap) hb8 hc hl
  exact mov (K h.size h' rfl (Keep.ofExt E) (Av.new Ar hz hn)) X' e' N (Since.up S E.1) w (A.trans (CHr.ext E A.1)) (Kp.ext E) (ownPush hE A Kp E Ar.lt ow) stp
theorem Go.getF {k : KT} (C : Ctx k l y bytes maxL ret R Z a0 EL wd wr h0 Q) {pc pc' i : Nat} {a : Addr} {Cn R0 host : String} {F : FL} {vs : List Value} {v : Value} {q : String × String × String} (O : Obj Z h a Cn F vs) (j : Nat) (hq : F[j]? = some q) (hv : vs[j]? = some v)
    (w : (Cond.fieldLink y.cls i R0 q.2.1 q.2.2).before a0 Z = true ∨ (Cond.fieldLinkNest y.cls i R0 q.2.1 q.2.2 host).before a0 Z = true) (via : Via Z R0 q.1 q.2.1 q.2.2) (hd : De bytes pc (.getfield i) 3 pc') (K : Go k h os cells slots pc' Ls (v :: st)) : Go k h os cells slots pc Ls (.ref a :: st) := by
  obtain ⟨p, l', e, R', s, m, args, below, meth, c, Z', EL', wd', wr', Q'⟩ := k
  obtain ⟨⟨rfl, rfl, rfl, rfl, rfl, rfl, rfl, rfl⟩, hx, hc', hml, hret, hlk, hnm, hZ, hown, hEL, hE, hwr⟩ := C
  obtain ⟨h1, rfl⟩ := hd
  intro T locs vm X e0 N S w' A Kp ow
  have hZ' : Z'.Warmed39 (s.setVm vm).vm := State.Warmed39.trans (t := s) hZ S.1
  have hown' : (s.setVm vm).vm.findClass y.cls = some m.cls := (S.1.alike.findClass _ _).trans hown
  obtain ⟨T', X', e', stp⟩ := RoadKit.getF X hx hZ' hown' w via e0 (O.2.2 j q v hq hv) (g := mkF m pc Ls (.ref a :: st)) rfl rfl (hb hc' h1)
  exact mov K X' e' N S w' A Kp ow stp
theorem Go.getS {k : KT} (C : Ctx k l y bytes maxL ret R Z a0 EL wd wr h0 Q) {pc pc' i : Nat} {R0 O n d host : String} {v : Value} (F : Sta Z Z.heap O n d v)
    (w : (Cond.fieldLink y.cls i R0 n d).before a0 Z = true ∨ (Cond.fieldLinkNest y.cls i R0 n d host).before a0 Z = true) (via : Via Z R0 O n d) (hd : De bytes pc (.getstatic i) 3 pc') (K : Go k h os cells slots pc' Ls (v :: st)) : Go k h os cells slots pc Ls st := by
  obtain ⟨p, l', e, R', s, m, args, below, meth, c, Z', EL', wd', wr', Q'⟩ := k
  obtain ⟨⟨rfl, rfl, rfl, rfl, rfl, rfl, rfl, rfl⟩, hx, hc', hml, hret, hlk, hnm, hZ, hown, hEL, hE, hwr⟩ := C
  obtain ⟨h1, rfl⟩ := hd
  intro T locs vm X e0 N S w' A Kp ow
  have hZ' : Z'.Warmed39 (s.setVm vm).vm := State.Warmed39.trans (t := s) hZ S.1
  have hown' : (s.setVm vm).vm.findClass y.cls = some m.cls := (S.1.alike.findClass _ _).trans hown
  obtain ⟨T', X', e', stp⟩ := getS2 X hx hZ' hown' w via e0 (F.ext (ext0 hE Kp hwr)) (g := mkF m pc Ls st) rfl (hb hc' h1)
  exact mov K X' e' N S w' A Kp ow stp
theorem Go.putF {k : KT} (C : Ctx k l y bytes maxL ret R Z a0 EL wd wr h0 Q) {pc pc' i kk : Nat} {a : Addr} {Cn R0 : String} {F : FL} {vs vs' : List Value} {v v' : Value} {ty : FieldType} {q : String × String × String} (O : Obj Z h a Cn F vs) (ho : a ∈ os) (j : Nat) (hq : F[j]? = some q)
    (w : (Cond.fieldLink y.cls i R0 q.2.1 q.2.2).before a0 Z = true) (via : Via Z R0 q.1 q.2.1 q.2.2) (Lw : (Cond.lays Cn q.1 q.2.1 q.2.2).before a0 Z = true ∨ ((Cond.laysFinal Cn q.1 q.2.1 q.2.2).before a0 Z = true ∧ y.cls = q.1 ∧ y.name = "<init>")) (wi : (Cond.instantiable Cn kk).before a0 Z = true)
    (LF : LaidL Z a0 Cn F) (nd : (F.map (fun q => q.2.1)).Nodup) (hty : parseFieldDescriptor q.2.2 = some ty) (hn : narrow ty v = v') (hf : fits ty v' = true) (hvs : vs.set j v' = vs') (hd : De bytes pc (.putfield i) 3 pc')
    (K : ∀ h' : Heap, Keep h h' [a] → Obj Z h' a Cn F vs' → Go k h' os cells slots pc' Ls st) : Go k h os cells slots pc Ls (v :: .ref a :: st) := by
  obtain ⟨p, l', e, R', s, m, args, below, meth, c, Z', EL', wd', wr', Q'⟩ := k
  obtain ⟨⟨rfl, rfl, rfl, rfl, rfl, rfl, rfl, rfl⟩, hx, hc', hml, hret, hlk, hnm, hZ, hown, hEL, hE, hwr⟩ := C
  obtain ⟨h1, rfl⟩ := hd
  intro T locs vm X e0 N S w' A Kp ow
  have hZ' : Z'.Warmed39 (s.setVm vm).vm := State.Warmed39.trans (t := s) hZ S.1
  have hown' : (s.setVm vm).vm.findClass y.cls = some m.cls := (S.1.alike.findClass _ _).trans hown
  have hj : j < vs.length := by rw [← O.2.1]; exact (List.getElem?_eq_some_iff.mp hq).1
  obtain ⟨T', h', X', e', W, stp⟩ := putFN X hx hZ' hown' w via e0 (O.2.2 j q _ hq (List.getElem?_eq_getElem hj)) O.1 (Lw.imp id fun z => ⟨z.1, z.2.1, hnm.trans z.2.2⟩) wi hty hn hf (g := mkF m pc Ls (v :: .ref a :: st)) rfl rfl (hb hc' h1)
  have KW := Keep.of_wr W
  have os1 : ∀ x ∈ [a], x ∈ os := fun x hx => by cases List.mem_singleton.mp hx; exact ho
  have Ch := CHr.keep KW (safeOs ow os1) A.1
  subst hvs
  exact mov (K h' KW (O.put W hq LF nd)) X' e' (Fr.snoc X' N (ow a ho).2.1) (Since.up S KW.1) w' (A.trans Ch) (keepOs Kp KW ow os1) (fun x hx => (ow x hx).chr Ch) stp
theorem av_in {a : Addr} {ty : FieldType} {vs : List Value} {c : Cell} {z j : Int32} {i : Nat} (r2 : c.slots.size = z.toNatClampNeg) (e : z.toNatClampNeg = vs.length) (hj : ¬ j < 0) (hi : j.toNatClampNeg = i) (hlt : i < vs.length) : ¬ (j < 0 ∨ c.slots.size ≤ j.toNatClampNeg) := by
  rintro (q | q)
  · exact hj q
  · rw [r2, e, hi] at q; omega
theorem has_at {c : Cell} {vs : List Value} {d : Value} (H : Has c vs d) {i : Nat} {v : Value} (hi : i < c.slots.size) (hv : vs[i]? = some v) : c.slots[i]? = some v := by
  rw [H i hi, List.getD_eq_getElem?_getD, hv]; rfl
theorem Go.arraylength {k : KT} (C : Ctx k l y bytes maxL ret R Z a0 EL wd wr h0 Q) {pc pc' : Nat} {a : Addr} {ty : FieldType} {vs : List Value} (V : Av Z h a ty vs) (v : Int32) (hv : vs.length.toInt32 = v) (hd : De bytes pc .arraylength 1 pc') (K : Go k h os cells slots pc' Ls (.int v :: st)) : Go k h os cells slots pc Ls (.ref a :: st) := by
  obtain ⟨p, l', e, R', s, m, args, below, meth, c, Z', EL', wd', wr', Q'⟩ := k
  obtain ⟨⟨rfl, rfl, rfl, rfl, rfl, rfl, rfl, rfl⟩, hx, hc', hml, hret, hlk, hnm, hZ, hown, hEL, hE, hwr⟩ := C
  obtain ⟨h1, rfl⟩ := hd
  intro T locs vm X e0 N S w' A Kp ow
  have hZ' : Z'.Warmed39 (s.setVm vm).vm := State.Warmed39.trans (t := s) hZ S.1
  obtain ⟨kc, z, ⟨cl, Ar, r1, r2, r3, H, G⟩, ez⟩ := V
  refine Fen.of (fun t kt => X.arraylength hx (by rw [e0]; exact Ar.1) (State.isArrayOf_alike hZ'.alike Ar.2.1) (g := mkF m pc Ls (.ref a :: st)) rfl rfl (hb hc' h1) t ?_) (K T locs vm X e0 N S w' A Kp ow)
  rw [r2, ez, hv]; exact kt
theorem Go.iaload {k : KT} (C : Ctx k l y bytes maxL ret R Z a0 EL wd wr h0 Q) {pc pc' : Nat} {a : Addr} {vs : List Value} {j : Int32} {v : Value} (V : Av Z h a .int vs) (i : Nat) (hj : ¬ j < 0) (hi : j.toNatClampNeg = i) (hv : vs[i]? = some v) (hd : De bytes pc .iaload 1 pc') (K : Go k h os cells slots pc' Ls (v :: st)) : Go k h os cells slots pc Ls (.int j :: .ref a :: st) := by
  obtain ⟨p, l', e, R', s, m, args, below, meth, c, Z', EL', wd', wr', Q'⟩ := k
  obtain ⟨⟨rfl, rfl, rfl, rfl, rfl, rfl, rfl, rfl⟩, hx, hc', hml, hret, hlk, hnm, hZ, hown, hEL, hE, hwr⟩ := C
  obtain ⟨h1, rfl⟩ := hd
  intro T locs vm X e0 N S w' A Kp ow
  have hZ' : Z'.Warmed39 (s.setVm vm).vm := State.Warmed39.trans (t := s) hZ S.1
  obtain ⟨kc, z, ⟨cl, Ar, r1, r2, r3, H, G⟩, ez⟩ := V
  have hlt := (List.getElem?_eq_some_iff.mp hv).1
  refine Fen.of (fun t kt => X.iaload hx (j := j) (v := v) (by rw [e0]; exact Ar.1) (State.isArrayOf_alike hZ'.alike Ar.2.1) Ar.2.2 (av_in (a := a) (ty := .int) (vs := vs) r2 ez hj hi hlt) (by rw [hi]; exact has_at H (by rw [r2, ez]; exact hlt) hv) (g := mkF m pc Ls (.int j :: .ref a :: st)) rfl rfl (hb hc' h1) t kt) (K T locs vm X e0 N S w' A Kp ow)
theorem Go.laload {k : KT} (C : Ctx k l y bytes maxL ret R Z a0 EL wd wr h0 Q) {pc pc' : Nat} {a : Addr} {vs : List Value} {j : Int32} {v : Value} (V : Av Z h a .long vs) (i : Nat) (hj : ¬ j < 0) (hi : j.toNatClampNeg = i) (hv : vs[i]? = some v) (hd : De bytes pc .laload 1 pc') (K : Go k h os cells slots pc' Ls (v :: st)) : Go k h os cells slots pc Ls (.int j :: .ref a :: st) := by
  obtain ⟨p, l', e, R', s, m, args, below, meth, c, Z', EL', wd', wr', Q'⟩ := k
  obtain ⟨⟨rfl, rfl, rfl, rfl, rfl, rfl, rfl, rfl⟩, hx, hc', hml, hret, hlk, hnm, hZ, hown, hEL, hE, hwr⟩ := C
  obtain ⟨h1, rfl⟩ := hd
  intro T locs vm X e0 N S w' A Kp ow
  have hZ' : Z'.Warmed39 (s.setVm vm).vm := State.Warmed39.trans (t := s) hZ S.1
  obtain ⟨kc, z, ⟨cl, Ar, r1, r2, r3, H, G⟩, ez⟩ := V
  have hlt := (List.getElem?_eq_some_iff.mp hv).1
  refine Fen.of (fun t kt => X.laload hx (j := j) (v := v) (by rw [e0]; exact Ar.1) (State.isArrayOf_alike hZ'.alike Ar.2.1) Ar.2.2 (av_in (a := a) (ty := .long) (vs := vs) r2 ez hj hi hlt) (by rw [hi]; exact has_at H (by rw [r2, ez]; exact hlt) hv) (g := mkF m pc Ls (.int j :: .ref a :: st)) rfl rfl (hb hc' h1) t kt) (K T locs vm X e0 N S w' A Kp ow)
theorem Go.caload {k : KT} (C : Ctx k l y bytes maxL ret R Z a0 EL wd wr h0 Q) {pc pc' : Nat} {a : Addr} {vs : List Value} {j : Int32} {v : Value} (V : Av Z h a .char vs) (i : Nat) (hj : ¬ j < 0) (hi : j.toNatClampNeg = i) (hv : vs[i]? = some v) (hd : De bytes pc .caload 1 pc') (K : Go k h os cells slots pc' Ls (v :: st)) : Go k h os cells slots pc Ls (.int j :: .ref a :: st) := by
  obtain ⟨p, l', e, R', s, m, args, below, meth, c, Z', EL', wd', wr', Q'⟩ := k
  obtain ⟨⟨rfl, rfl, rfl, rfl, rfl, rfl, rfl, rfl⟩, hx, hc', hml, hret, hlk, hnm, hZ, hown, hEL, hE, hwr⟩ := C
  obtain ⟨h1, rfl⟩ := hd
  intro T locs vm X e0 N S w' A Kp ow
  have hZ' : Z'.Warmed39 (s.setVm vm).vm := State.Warmed39.trans (t := s) hZ S.1
  obtain ⟨kc, z, ⟨cl, Ar, r1, r2, r3, H, G⟩, ez⟩ := V
  have hlt := (List.getElem?_eq_some_iff.mp hv).1
  refine Fen.of (fun t kt => X.caload hx (j := j) (v := v) (by rw [e0]; exact Ar.1) (State.isArrayOf_alike hZ'.alike Ar.2.1) Ar.2.2 (av_in (a := a) (ty := .char) (vs := vs) r2 ez hj hi hlt) (by rw [hi]; exact has_at H (by rw [r2, ez]; exact hlt) hv) (g := mkF m pc Ls (.int j :: .ref a :: st)) rfl rfl (hb hc' h1) t kt) (K T locs vm X e0 N S w' A Kp ow)
theorem Go.saload {k : KT} (C : Ctx k l y bytes maxL ret R Z a0 EL wd wr h0 Q) {pc pc' : Nat} {a : Addr} {vs : List Value} {j : Int32} {v : Value} (V : Av Z h a .short vs) (i : Nat) (hj : ¬ j < 0) (hi : j.toNatClampNeg = i) (hv : vs[i]? = some v) (hd : De bytes pc .saload 1 pc') (K : Go k h os cells slots pc' Ls (v :: st)) : Go k h os cells slots pc Ls (.int j :: .ref a :: st) := by
  obtain ⟨p, l', e, R', s, m, args, below, meth, c, Z', EL', wd', wr', Q'⟩ := k
  obtain ⟨⟨rfl, rfl, rfl, rfl, rfl, rfl, rfl, rfl⟩, hx, hc', hml, hret, hlk, hnm, hZ, hown, hEL, hE, hwr⟩ := C
  obtain ⟨h1, rfl⟩ := hd
  intro T locs vm X e0 N S w' A Kp ow
  have hZ' : Z'.Warmed39 (s.setVm vm).vm := State.Warmed39.trans (t := s) hZ S.1
  obtain ⟨kc, z, ⟨cl, Ar, r1, r2, r3, H, G⟩, ez⟩ := V
  have hlt := (List.getElem?_eq_some_iff.mp hv).1
  refine Fen.of (fun t kt => X.saload hx (j := j) (v := v) (by rw [e0]; exact Ar.1) (State.isArrayOf_alike hZ'.alike Ar.2.1) Ar.2.2 (av_in (a := a) (ty := .short) (vs := vs) r2 ez hj hi hlt) (by rw [hi]; exact has_at H (by rw [r2, ez]; exact hlt) hv) (g := mkF m pc Ls (.int j :: .ref a :: st)) rfl rfl (hb hc' h1) t kt) (K T locs vm X e0 N S w' A Kp ow)
theorem Go.baload {k : KT} (C : Ctx k l y bytes maxL ret R Z a0 EL wd wr h0 Q) {pc pc' : Nat} {a : Addr} {vs : List Value} {j : Int32} {v : Value} (V : Av Z h a .byte vs) (i : Nat) (hj : ¬ j < 0) (hi : j.toNatClampNeg = i) (hv : vs[i]? = some v) (hd : De bytes pc .baload 1 pc') (K : Go k h os cells slots pc' Ls (v :: st)) : Go k h os cells slots pc Ls (.int j :: .ref a :: st) := by
  obtain ⟨p, l', e, R', s, m, args, below, meth, c, Z', EL', wd', wr', Q'⟩ := k
  obtain ⟨⟨rfl, rfl, rfl, rfl, rfl, rfl, rfl, rfl⟩, hx, hc', hml, hret, hlk, hnm, hZ, hown, hEL, hE, hwr⟩ := C
  obtain ⟨h1, rfl⟩ := hd
  intro T locs vm X e0 N S w' A Kp ow
  have hZ' : Z'.Warmed39 (s.setVm vm).vm := State.Warmed39.trans (t := s) hZ S.1
  obtain ⟨kc, z, ⟨cl, Ar, r1, r2, r3, H, G⟩, ez⟩ := V
  have hlt := (List.getElem?_eq_some_iff.mp hv).1
  refine Fen.of (fun t kt => X.baloadBytes hx (j := j) (v := v) (by rw [e0]; exact Ar.1) (State.isArrayOf_alike hZ'.alike Ar.2.1) Ar.2.2 (av_in (a := a) (ty := .byte) (vs := vs) r2 ez hj hi hlt) (by rw [hi]; exact has_at H (by rw [r2, ez]; exact hlt) hv) (g := mkF m pc Ls (.int j :: .ref a :: st)) rfl rfl (hb hc' h1) t kt) (K T locs vm X e0 N S w' A Kp ow)
theorem Go.aaload {k : KT} (C : Ctx k l y bytes maxL ret R Z a0 EL wd wr h0 Q) {pc pc' : Nat} {a : Addr} {vs : List Value} {j : Int32} {v : Value} {ty : FieldType} (hty : ty.isReference = true) (V : Av Z h a ty vs) (i : Nat) (hj : ¬ j < 0) (hi : j.toNatClampNeg = i) (hv : vs[i]? = some v) (hd : De bytes pc .aaload 1 pc') (K : Go k h os cells slots pc' Ls (v :: st)) : Go k h os cells slots pc Ls (.int j :: .ref a :: st) := by
  obtain ⟨p, l', e, R', s, m, args, below, meth, c, Z', EL', wd', wr', Q'⟩ := k
  obtain ⟨⟨rfl, rfl, rfl, rfl, rfl, rfl, rfl, rfl⟩, hx, hc', hml, hret, hlk, hnm, hZ, hown, hEL, hE, hwr⟩ := C
  obtain ⟨h1, rfl⟩ := hd
  intro T locs vm X e0 N S w' A Kp ow
  have hZ' : Z'.Warmed39 (s.setVm vm).vm := State.Warmed39.trans (t := s) hZ S.1
  obtain ⟨kc, z, ⟨cl, Ar, r1, r2, r3, H, G⟩, ez⟩ := V
  have hlt := (List.getElem?_eq_some_iff.mp hv).1
  refine Fen.of (fun t kt => X.aaload hx (j := j) (v := v) (by rw [e0]; exact Ar.1) (State.isArrayOf_alike hZ'.alike Ar.2.1) hty Ar.2.2 (av_in (a := a) (ty := ty) (vs := vs) r2 ez hj hi hlt) (by rw [hi]; exact has_at H (by rw [r2, ez]; exact hlt) hv) (g := mkF m pc Ls (.int j :: .ref a :: st)) rfl rfl (hb hc' h1) t kt) (K T locs vm X e0 N S w' A Kp ow)
theorem Go.iastore {k : KT} (C : Ctx k l y bytes maxL ret R Z a0 EL wd wr h0 Q) {pc pc' : Nat} {a : Addr} {vs vs' : List Value} {j : Int32} {x : Int32} (V : Av Z h a .int vs) (ho : a ∈ os) (i : Nat) (hj : ¬ j < 0) (hi : j.toNatClampNeg = i) (hlt : i < vs.length) (hvs : vs.set i (.int x) = vs') (hd : De bytes pc .iastore 1 pc')
    (K : ∀ h' : Heap, Keep h h' [a] → Av Z h' a .int vs' → Go k h' os cells slots pc' Ls st) : Go k h os cells slots pc Ls (.int x :: .int j :: .ref a :: st) := by
  obtain ⟨p, l', e, R', s, m, args, below, meth, c, Z', EL', wd', wr', Q'⟩ := k
  obtain ⟨⟨rfl, rfl, rfl, rfl, rfl, rfl, rfl, rfl⟩, hx, hc', hml, hret, hlk, hnm, hZ, hown, hEL, hE, hwr⟩ := C
  obtain ⟨h1, rfl⟩ := hd
  intro T locs vm X e0 N S w' A Kp ow
  have hZ' : Z'.Warmed39 (s.setVm vm).vm := State.Warmed39.trans (t := s) hZ S.1
  obtain ⟨kc, z, ⟨cl, Ar, r1, r2, r3, H, G⟩, ez⟩ := V
  obtain ⟨T', h', X', e', W, stp⟩ := stI X hx hZ' e0 Ar (j := j) (av_in (a := a) (ty := .int) (vs := vs) r2 ez hj hi hlt) (g := mkF m pc Ls (.int x :: .int j :: .ref a :: st)) rfl rfl (hb hc' h1)
  have KW := Keep.of_wr W
  have os1 : ∀ x ∈ [a], x ∈ os := fun x hx => by cases List.mem_singleton.mp hx; exact ho
  have Ch := CHr.keep KW (safeOs ow os1) A.1
  subst hvs
  exact mov (K h' KW ⟨kc, z, Arv.set Ar r1 r2 r3 H G rfl W i hi hlt, by simpa using ez⟩) X' e' (Fr.snoc X' N (ow a ho).2.1) (Since.up S KW.1) w' (A.trans Ch) (keepOs Kp KW ow os1) (fun x hx => (ow x hx).chr Ch) stp
theorem Go.lastore {k : KT} (C : Ctx k l y bytes maxL ret R Z a0 EL wd wr h0 Q) {pc pc' : Nat} {a : Addr} {vs vs' : List Value} {j : Int32} {x : Int64} (V : Av Z h a .long vs) (ho : a ∈ os) (i : Nat) (hj : ¬ j < 0) (hi : j.toNatClampNeg = i) (hlt : i < vs.length) (hvs : vs.set i (.long x) = vs') (hd : De bytes pc .lastore 1 pc')
    (K : ∀ h' : Heap, Keep h h' [a] → Av Z h' a .long vs' → Go k h' os cells slots pc' Ls st) : Go k h os cells slots pc Ls (.long x :: .int j :: .ref a :: st) := by
  obtain ⟨p, l', e, R', s, m, args, below, meth, c, Z', EL', wd', wr', Q'⟩ := k
  obtain ⟨⟨rfl, rfl, rfl, rfl, rfl, rfl, rfl, rfl⟩, hx, hc', hml, hret, hlk, hnm, hZ, hown, hEL, hE, hwr⟩ := C
  obtain ⟨h1, rfl⟩ := hd
  intro T locs vm X e0 N S w' A Kp ow
  have hZ' : Z'.Warmed39 (s.setVm vm).vm := State.Warmed39.trans (t := s) hZ S.1
  obtain ⟨kc, z, ⟨cl, Ar, r1, r2, r3, H, G⟩, ez⟩ := V
  obtain ⟨T', h', X', e', W, stp⟩ := stJ X hx hZ' e0 Ar (j := j) (av_in (a := a) (ty := .long) (vs := vs) r2 ez hj hi hlt) (g := mkF m pc Ls (.long x :: .int j :: .ref a :: st)) rfl rfl (hb hc' h1)
  have KW := Keep.of_wr W
  have os1 : ∀ x ∈ [a], x ∈ os := fun x hx => by cases List.mem_singleton.mp hx; exact ho
  have Ch := CHr.keep KW (safeOs ow os1) A.1
  subst hvs
  exact mov (K h' KW ⟨kc, z, Arv.set Ar r1 r2 r3 H G rfl W i hi hlt, by simpa using ez⟩) X' e' (Fr.snoc X' N (ow a ho).2.1) (Since.up S KW.1) w' (A.trans Ch) (keepOs Kp KW ow os1) (fun x hx => (ow x hx).chr Ch) stp
theorem Go.castore {k : KT} (C : Ctx k l y bytes maxL ret R Z a0 EL wd wr h0 Q) {pc pc' : Nat} {a : Addr} {vs vs' : List Value} {j : Int32} {x x' : Int32} (V : Av Z h a .char vs) (ho : a ∈ os) (i : Nat) (hj : ¬ j < 0) (hi : j.toNatClampNeg = i) (hlt : i < vs.length) (hn : nar .char x = x') (hvs : vs.set i (.int x') = vs') (hd : De bytes pc .castore 1 pc')
    (K : ∀ h' : Heap, Keep h h' [a] → Av Z h' a .char vs' → Go k h' os cells slots pc' Ls st) : Go k h os cells slots pc Ls (.int x :: .int j :: .ref a :: st) := by
  obtain ⟨p, l', e, R', s, m, args, below, meth, c, Z', EL', wd', wr', Q'⟩ := k
  obtain ⟨⟨rfl, rfl, rfl, rfl, rfl, rfl, rfl, rfl⟩, hx, hc', hml, hret, hlk, hnm, hZ, hown, hEL, hE, hwr⟩ := C
  obtain ⟨h1, rfl⟩ := hd
  intro T locs vm X e0 N S w' A Kp ow
  have hZ' : Z'.Warmed39 (s.setVm vm).vm := State.Warmed39.trans (t := s) hZ S.1
  obtain ⟨kc, z, ⟨cl, Ar, r1, r2, r3, H, G⟩, ez⟩ := V
  obtain ⟨T', h', X', e', W, stp⟩ := stC X hx hZ' e0 Ar (j := j) (av_in (a := a) (ty := .char) (vs := vs) r2 ez hj hi hlt) (g := mkF m pc Ls (.int x :: .int j :: .ref a :: st)) rfl rfl (hb hc' h1)
  have KW := Keep.of_wr W
  have os1 : ∀ x ∈ [a], x ∈ os := fun x hx => by cases List.mem_singleton.mp hx; exact ho
  have Ch := CHr.keep KW (safeOs ow os1) A.1
  subst hn
  subst hvs
  exact mov (K h' KW ⟨kc, z, Arv.set Ar r1 r2 r3 H G (fits_nar_char x) W i hi hlt, by simpa using ez⟩) X' e' (Fr.snoc X' N (ow a ho).2.1) (Since.up S KW.1) w' (A.trans Ch) (keepOs Kp KW ow os1) (fun x hx => (ow x hx).chr Ch) stp
theorem Go.sastore {k : KT} (C : Ctx k l y bytes maxL ret R Z a0 EL wd wr h0 Q) {pc pc' : Nat} {a : Addr} {vs vs' : List Value} {j : Int32} {x x' : Int32} (V : Av Z h a .short vs) (ho : a ∈ os) (i : Nat) (hj : ¬ j < 0) (hi : j.toNatClampNeg = i) (hlt : i < vs.length) (hn : nar .short x = x') (hvs : vs.set i (.int x') = vs') (hd : De bytes pc .sastore 1 pc')
    (K : ∀ h' : Heap, Keep h h' [a] → Av Z h' a .short vs' → Go k h' os cells slots pc' Ls st) : Go k h os cells slots pc Ls (.int x :: .int j :: .ref a :: st) := by
  obtain ⟨p, l', e, R', s, m, args, below, meth, c, Z', EL', wd', wr', Q'⟩ := k
  obtain ⟨⟨rfl, rfl, rfl, rfl, rfl, rfl, rfl, rfl⟩, hx, hc', hml, hret, hlk, hnm, hZ, hown, hEL, hE, hwr⟩ := C
  obtain ⟨h1, rfl⟩ := hd
  intro T locs vm X e0 N S w' A Kp ow
  have hZ' : Z'.Warmed39 (s.setVm vm).vm := State.Warmed39.trans (t := s) hZ S.1
  obtain ⟨kc, z, ⟨cl, Ar, r1, r2, r3, H, G⟩, ez⟩ := V
  obtain ⟨T', h', X', e', W, stp⟩ := stS X hx hZ' e0 Ar (j := j) (av_in (a := a) (ty := .short) (vs := vs) r2 ez hj hi hlt) (g := mkF m pc Ls (.int x :: .int j :: .ref a :: st)) rfl rfl (hb hc' h1)
  have KW := Keep.of_wr W
  have os1 : ∀ x ∈ [a], x ∈ os := fun x hx => by cases List.mem_singleton.mp hx; exact ho
  have Ch := CHr.keep KW (safeOs ow os1) A.1
  subst hn
  subst hvs
  exact mov (K h' KW ⟨kc, z, Arv.set Ar r1 r2 r3 H G (fits_nar_short x) W i hi hlt, by simpa using ez⟩) X' e' (Fr.snoc X' N (ow a ho).2.1) (Since.up S KW.1) w' (A.trans Ch) (keepOs Kp KW ow os1) (fun x hx => (ow x hx).chr Ch) stp
theorem Go.bastore {k : KT} (C : Ctx k l y bytes maxL ret R Z a0 EL wd wr h0 Q) {pc pc' : Nat} {a : Addr} {vs vs' : List Value} {j : Int32} {x x' : Int32} (V : Av Z h a .byte vs) (ho : a ∈ os) (i : Nat) (hj : ¬ j < 0) (hi : j.toNatClampNeg = i) (hlt : i < vs.length) (hn : nar .byte x = x') (hvs : vs.set i (.int x') = vs') (hd : De bytes pc .bastore 1 pc')
    (K : ∀ h' : Heap, Keep h h' [a] → Av Z h' a .byte vs' → Go k h' os cells slots pc' Ls st) : Go k h os cells slots pc Ls (.int x :: .int j :: .ref a :: st) := by
  obtain ⟨p, l', e, R', s, m, args, below, meth, c, Z', EL', wd', wr', Q'⟩ := k
  obtain ⟨⟨rfl, rfl, rfl, rfl, rfl, rfl, rfl, rfl⟩, hx, hc', hml, hret, hlk, hnm, hZ, hown, hEL, hE, hwr⟩ := C
  obtain ⟨h1, rfl⟩ := hd
  intro T locs vm X e0 N S w' A Kp ow
  have hZ' : Z'.Warmed39 (s.setVm vm).vm := State.Warmed39.trans (t := s) hZ S.1
  obtain ⟨kc, z, ⟨cl, Ar, r1, r2, r3, H, G⟩, ez⟩ := V
  obtain ⟨T', h', X', e', W, stp⟩ := stB X hx hZ' e0 Ar (j := j) (av_in (a := a) (ty := .byte) (vs := vs) r2 ez hj hi hlt) (g := mkF m pc Ls (.int x :: .int j :: .ref a :: st)) rfl rfl (hb hc' h1)
  have KW := Keep.of_wr W
  have os1 : ∀ x ∈ [a], x ∈ os := fun x hx => by cases List.mem_singleton.mp hx; exact ho
  have Ch := CHr.keep KW (safeOs ow os1) A.1
  subst hn
  subst hvs
  exact mov (K h' KW ⟨kc, z, Arv.set Ar r1 r2 r3 H G (fits_nar_byte x) W i hi hlt, by simpa using ez⟩) X' e' (Fr.snoc X' N (ow a ho).2.1) (Since.up S KW.1) w' (A.trans Ch) (keepOs Kp KW ow os1) (fun x hx => (ow x hx).chr Ch) stp
theorem Go.zastore {k : KT} (C : Ctx k l y bytes maxL ret R Z a0 EL wd wr h0 Q) {pc pc' : Nat} {a : Addr} {vs vs' : List Value} {j : Int32} {x x' : Int32} (V : Av Z h a .boolean vs) (ho : a ∈ os) (i : Nat) (hj : ¬ j < 0) (hi : j.toNatClampNeg = i) (hlt : i < vs.length) (hn : nar .boolean x = x') (hvs : vs.set i (.int x') = vs') (hd : De bytes pc .bastore 1 pc')
    (K : ∀ h' : Heap, Keep h h' [a] → Av Z h' a .boolean vs' → Go k h' os cells slots pc' Ls st) : Go k h os cells slots pc Ls (.int x :: .int j :: .ref a :: st) := by
  obtain ⟨p, l', e, R', s, m, args, below, meth, c, Z', EL', wd', wr', Q'⟩ := k
  obtain ⟨⟨rfl, rfl, rfl, rfl, rfl, rfl, rfl, rfl⟩, hx, hc', hml, hret, hlk, hnm, hZ, hown, hEL, hE, hwr⟩ := C
  obtain ⟨h1, rfl⟩ := hd
  intro T locs vm X e0 N S w' A Kp ow
  have hZ' : Z'.Warmed39 (s.setVm vm).vm := State.Warmed39.trans (t := s) hZ S.1
  obtain ⟨kc, z, ⟨cl, Ar, r1, r2, r3, H, G⟩, ez⟩ := V
  obtain ⟨T', h', X', e', W, stp⟩ := stZ X hx hZ' e0 Ar (j := j) (av_in (a := a) (ty := .boolean) (vs := vs) r2 ez hj hi hlt) (g := mkF m pc Ls (.int x :: .int j :: .ref a :: st)) rfl rfl (hb hc' h1)
  have KW := Keep.of_wr W
  have os1 : ∀ x ∈ [a], x ∈ os := fun x hx => by cases List.mem_singleton.mp hx; exact ho
  have Ch := CHr.keep KW (safeOs ow os1) A.1
  subst hn
  subst hvs
  exact mov (K h' KW ⟨kc, z, Arv.set Ar r1 r2 r3 H G (fits_nar_bool x) W i hi hlt, by simpa using ez⟩) X' e' (Fr.snoc X' N (ow a ho).2.1) (Since.up S KW.1) w' (A.trans Ch) (keepOs Kp KW ow os1) (fun x hx => (ow x hx).chr Ch) stp
theorem Go.anewarray {k : KT} (C : Ctx k l y bytes maxL ret R Z a0 EL wd wr h0 Q) {pc pc' i : Nat} {Cn : String} {z : Int32} (w1 : (Cond.classLink y.cls i Cn).before a0 Z = true) (w2 : (Cond.arrayOver (.object Cn)).before a0 Z = true) (hd : De bytes pc (.anewarray i) 3 pc') (hz : ¬ z < 0) (n : Nat) (hn : z.toNatClampNeg = n) {cap : Nat} (hcap : n ≤ cap) (hb8 : cap * 8 ≤ 536870912)
    (hc : cells + 1 ≤ R.cells) (hl : slots + cap ≤ R.slots)
    (K : ∀ (b : Addr) (h' : Heap), b = h.size → Keep h h' [] → Avr Z h' b Cn (List.replicate n .null) → Go k h' (b :: os) (cells + 1) (slots + cap) pc' Ls (.ref b :: st)) : Go k h os cells slots pc Ls (.int z :: st) := by
  obtain ⟨p, l', e, R', s, m, args, below, meth, c, Z', EL', wd', wr', Q'⟩ := k
  obtain ⟨⟨rfl, rfl, rfl, rfl, rfl, rfl, rfl, rfl⟩, hx, hc', hml, hret, hlk, hnm, hZ, hown, hEL, hE, hwr⟩ := C
  obtain ⟨h1, rfl⟩ := hd
  intro T locs vm X e0 N S w A Kp ow
  have hZ' : Z'.Warmed39 (s.setVm vm).vm := State.Warmed39.trans (t := s) hZ S.1
  have hown' : (s.setVm vm).vm.findClass y.cls = some m.cls := (S.1.alike.findClass _ _).trans hown
  obtain ⟨T', h', cA, X', e', E, Ar, O, stp⟩ := newR X hx hZ' hown' w1 w2 e0 (g := mkF m pc Ls (.int z :: st)) rfl (hb hc' h1) rfl hz (cap := cap) (by rw [hn]; exact hcap) hb8 hc hl
  have V : Avr Z' h' h.size Cn (List.replicate n .null) := ⟨cA, z, by have := (Arv.new Ar hz).pad (pad_rep [] (.null) n); simpa [defaultValue] using this, by simpa using hn, O⟩
  exact mov (K h.size h' rfl (Keep.ofExt E) V) X' e' N (Since.up S E.1) w (A.trans (CHr.ext E A.1)) (Kp.ext E) (ownPush hE A Kp E Ar.lt ow) stp
theorem Go.aastore {k : KT} (C : Ctx k l y bytes maxL ret R Z a0 EL wd wr h0 Q) {pc pc' : Nat} {a b : Addr} {Cn : String} {vs vs' : List Value} {j : Int32} (V : Avr Z h a Cn vs) (ho : a ∈ os) (I : Ins Z h b Cn true) (i : Nat) (hj : ¬ j < 0) (hi : j.toNatClampNeg = i) (hlt : i < vs.length) (hvs : vs.set i (.ref b) = vs') (hd : De bytes pc .aastore 1 pc')
    (K : ∀ h' : Heap, Keep h h' [a] → Avr Z h' a Cn vs' → Go k h' os cells slots pc' Ls st) : Go k h os cells slots pc Ls (.ref b :: .int j :: .ref a :: st) := by
  obtain ⟨p, l', e, R', s, m, args, below, meth, c, Z', EL', wd', wr', Q'⟩ := k
  obtain ⟨⟨rfl, rfl, rfl, rfl, rfl, rfl, rfl, rfl⟩, hx, hc', hml, hret, hlk, hnm, hZ, hown, hEL, hE, hwr⟩ := C
  obtain ⟨h1, rfl⟩ := hd
  intro T locs vm X e0 N S w' A Kp ow
  have hZ' : Z'.Warmed39 (s.setVm vm).vm := State.Warmed39.trans (t := s) hZ S.1
  obtain ⟨kc, z, ⟨cl, Ar, r1, r2, r3, H, G⟩, ez, Ov⟩ := V
  obtain ⟨T', h', X', e', W, stp⟩ := stR X hx hZ' e0 Ar (j := j) (av_in (a := a) (ty := .int) (vs := vs) r2 ez hj hi hlt) rfl (Sto.ofV Ar r1 Ov I) (g := mkF m pc Ls (.ref b :: .int j :: .ref a :: st)) rfl rfl (hb hc' h1)
  have KW := Keep.of_wr W
  have os1 : ∀ x ∈ [a], x ∈ os := fun x hx => by cases List.mem_singleton.mp hx; exact ho
  have Ch := CHr.keep KW (safeOs ow os1) A.1
  subst hvs
  exact mov (K h' KW ⟨kc, z, Arv.set Ar r1 r2 r3 H G rfl W i hi hlt, by simpa using ez, Ov⟩) X' e' (Fr.snoc X' N (ow a ho).2.1) (Since.up S KW.1) w' (A.trans Ch) (keepOs Kp KW ow os1) (fun x hx => (ow x hx).chr Ch) stp
theorem copy_us {vs : List Value} {d : Value} {m n : Nat} (q : m + n ≤ vs.length) : ((List.range n).map fun i => vs.getD (m + i) d) = (vs.drop m).take n := by
  refine List.ext_getElem? fun i => ?_
  by_cases hi : i < n
  · simp [List.getElem?_take, hi, List.getD_eq_getElem?_getD, show m + i < vs.length by omega]
  · simp [List.getElem?_take, hi]
theorem Go.arraycopy {k : KT} (C : Ctx k l y bytes maxL ret R Z a0 EL wd wr h0 Q) {pc pc' i : Nat} {a b : Addr} {ty : FieldType} {vs vd vd' : List Value} {sp dp nn : Int32} (V : Av Z h a ty vs) (U : Av Z h b ty vd) (ho : b ∈ os) (hty : refKind ty = false) (w1 : (Cond.methodLink y.cls i Jvm.Stand.acN).before a0 Z = true) (w2 : (Cond.native Jvm.Stand.acN).before a0 Z = true) (w3 : (Cond.static Jvm.Stand.acN).before a0 Z = true) (w4 : (Cond.initialized "java/lang/System").before a0 Z = true)
    (h1 : ¬ sp < 0) (h2 : ¬ dp < 0) (h3 : ¬ nn < 0) (ms md n : Nat) (e1 : sp.toNatClampNeg = ms) (e2 : dp.toNatClampNeg = md) (e3 : nn.toNatClampNeg = n) (h4 : ms + n ≤ vs.length) (h5 : md + n ≤ vd.length) (hvd : vd.take md ++ (vs.drop ms).take n ++ vd.drop (md + n) = vd') (hd : De bytes pc (.invokestatic i) 3 pc') (hsz : Ls.size = maxL) (hf : 1 ≤ R.frames) (hlo : (st.map fun v => v.category).sum + 18 ≤ R.locals)
    (K : ∀ h' : Heap, Keep h h' [b] → Av Z h' b ty vd' → Go k h' os cells slots pc' Ls st) : Go k h os cells slots pc Ls (.int nn :: .int dp :: .ref b :: .int sp :: .ref a :: st) := by
  obtain ⟨p, l', e, R', s, m, args, below, meth, c, Z', EL', wd', wr', Q'⟩ := k
  obtain ⟨⟨rfl, rfl, rfl, rfl, rfl, rfl, rfl, rfl⟩, hx, hc', hml, hret, hlk, hnm, hZ, hown, hEL, hE, hwr⟩ := C
  obtain ⟨g1, rfl⟩ := hd
  intro T locs vm X e0 N S w' A Kp ow
  have hZ' : Z'.Warmed39 (s.setVm vm).vm := State.Warmed39.trans (t := s) hZ S.1
  have hown' : (s.setVm vm).vm.findClass y.cls = some m.cls := (S.1.alike.findClass _ _).trans hown
  obtain ⟨k1, z1, A1, ez1⟩ := V
  obtain ⟨k2, z2, A2, ez2⟩ := U
  obtain ⟨T', h', L, X', e', N', KW, Aw, stp⟩ := cpA X hx hZ' hown' w1 w2 w3 w4 e0 A1 A2 (Or.inl ⟨rfl, hty⟩) h1 h2 h3 (by rw [e1, e3, ez1]; exact h4) (by rw [e2, e3, ez2]; exact h5) (us := (vs.drop ms).take n) (by rw [e1, e3]; exact (copy_us h4).symm) (by rw [e2, e3]; exact h5) N (ow b ho).2.1 (g := mkF m pc Ls (.int nn :: .int dp :: .ref b :: .int sp :: .ref a :: st)) rfl (hsz.trans hml.symm) rfl (hb hc' g1) hf (W := (st.map fun v => v.category).sum) (by show 2 * 0 + _ ≤ _; omega) hlo
  rw [e2, e3, hvd] at Aw
  have os1 : ∀ x ∈ [b], x ∈ os := fun x hx => by cases List.mem_singleton.mp hx; exact ho
  have Ch := CHr.keep KW (safeOs ow os1) A.1
  refine mov (K h' KW ⟨k2, z2, Aw, ?_⟩) X' e' N' (Since.up S KW.1) w' (A.trans Ch) (keepOs Kp KW ow os1) (fun x hx => (ow x hx).chr Ch) stp
  rw [ez2, ← hvd]; simp; omega
theorem Go.ldcO {k : KT} (C : Ctx k l y bytes maxL ret R Z a0 EL true wr h0 Q) {pc pc' i : Nat} {text : String} (w : (Cond.stringLink y.cls i text).before a0 Z = true) (wS : ∀ a ∈ Bundle.stringAtoms, a.before a0 Z = true) (hd : De bytes pc (.ldc i) 2 pc') {n : Nat} (hn : 4 * text.toList.length ≤ n) (hbig : n ≤ 536870912) (hc : cells + 2 ≤ R.cells) (hl : slots + (n + 4) ≤ R.slots)
    (K : ∀ (a : Addr) (h' : Heap), Keep h h' [] → Go k h' os (cells + 2) (slots + (n + 4)) pc' Ls (.ref a :: st)) : Go k h os cells slots pc Ls st := by
  obtain ⟨p, l', e, R', s, m, args, below, meth, c, Z', EL', wd', wr', Q'⟩ := k
  obtain ⟨⟨rfl, rfl, rfl, rfl, rfl, rfl, rfl, rfl⟩, hx, hc', hml, hret, hlk, hnm, hZ, hown, hEL, hE, hwr⟩ := C
  obtain ⟨h1, rfl⟩ := hd
  intro T locs vm X e0 N S w' A Kp ow
  have hZ' : Z'.Warmed39 vm := State.Warmed39.trans (t := s) hZ S.1
  have hown' : vm.findClass y.cls = some m.cls := (S.1.alike.findClass _ _).trans hown
  obtain ⟨a, T', h', k1, X', e', E, S', hk1, -, -, Ch, -, stp⟩ := ldcOH X hx hZ' hown' w wS e0 S (Nat.le_refl _) hEL A.1 (g := mkF m pc Ls st) rfl (hb hc' h1) hn hbig hc hl
  refine mov (K a h' (Keep.ofExt E)) X' e' N (Since.up S' hk1) (fun q => Bool.noConfusion q) (A.trans Ch) (Kp.ext E) (fun x hx => (ow x hx).chr Ch) stp
theorem Go.checkcast {k : KT} (C : Ctx k l y bytes maxL ret R Z a0 EL wd wr h0 Q) {pc pc' i : Nat} {a : Addr} {Kn : String} (I : Ins Z h a Kn true) (w : (Cond.classLink y.cls i Kn).before a0 Z = true) (hd : De bytes pc (.checkcast i) 3 pc') (K : Go k h os cells slots pc' Ls (.ref a :: st)) : Go k h os cells slots pc Ls (.ref a :: st) := by
  obtain ⟨p, l', e, R', s, m, args, below, meth, c, Z', EL', wd', wr', Q'⟩ := k
  obtain ⟨⟨rfl, rfl, rfl, rfl, rfl, rfl, rfl, rfl⟩, hx, hc', hml, hret, hlk, hnm, hZ, hown, hEL, hE, hwr⟩ := C
  obtain ⟨h1, rfl⟩ := hd
  intro T locs vm X e0 N S w' A Kp ow
  have hZ' : Z'.Warmed39 (s.setVm vm).vm := State.Warmed39.trans (t := s) hZ S.1
  have hown' : (s.setVm vm).vm.findClass y.cls = some m.cls := (S.1.alike.findClass _ _).trans hown
  obtain ⟨T', X', e', stp⟩ := castY X hx hZ' hown' w e0 I (g := mkF m pc Ls (.ref a :: st)) rfl rfl (hb hc' h1)
  exact mov K X' e' N S w' A Kp ow stp
theorem Go.checkcastNull {k : KT} (C : Ctx k l y bytes maxL ret R Z a0 EL wd wr h0 Q) {pc pc' i : Nat} (hd : De bytes pc (.checkcast i) 3 pc') (K : Go k h os cells slots pc' Ls (.null :: st)) : Go k h os cells slots pc Ls (.null :: st) := by
  obtain ⟨p, l', e, R', s, m, args, below, meth, c, Z', EL', wd', wr', Q'⟩ := k
  obtain ⟨⟨rfl, rfl, rfl, rfl, rfl, rfl, rfl, rfl⟩, hx, hc', hml, hret, hlk, hnm, hZ, hown, hEL, hE, hwr⟩ := C
  obtain ⟨h1, rfl⟩ := hd
  intro T locs vm X e0 N S w' A Kp ow
  exact mov K X e0 N S w' A Kp ow (X.checkcastNull hx (g := mkF m pc Ls (.null :: st)) rfl rfl (hb hc' h1))
theorem Go.instanceofYes {k : KT} (C : Ctx k l y bytes maxL ret R Z a0 EL wd wr h0 Q) {pc pc' i : Nat} {a : Addr} {Kn : String} (I : Ins Z h a Kn true) (w : (Cond.classLink y.cls i Kn).before a0 Z = true) (hd : De bytes pc (.instanceof i) 3 pc') (K : Go k h os cells slots pc' Ls (.int 1 :: st)) : Go k h os cells slots pc Ls (.ref a :: st) := by
  obtain ⟨p, l', e, R', s, m, args, below, meth, c, Z', EL', wd', wr', Q'⟩ := k
  obtain ⟨⟨rfl, rfl, rfl, rfl, rfl, rfl, rfl, rfl⟩, hx, hc', hml, hret, hlk, hnm, hZ, hown, hEL, hE, hwr⟩ := C
  obtain ⟨h1, rfl⟩ := hd
  intro T locs vm X e0 N S w' A Kp ow
  have hZ' : Z'.Warmed39 (s.setVm vm).vm := State.Warmed39.trans (t := s) hZ S.1
  have hown' : (s.setVm vm).vm.findClass y.cls = some m.cls := (S.1.alike.findClass _ _).trans hown
  obtain ⟨T', X', e', stp⟩ := instY X hx hZ' hown' w e0 I (g := mkF m pc Ls (.ref a :: st)) rfl rfl (hb hc' h1)
  exact mov K X' e' N S w' A Kp ow stp
theorem noSub {C O K : String} {n : Nat} (w1 : (Cond.superclass C O).before a0 Z = true) (w0 : (Cond.noSuperclass O).before a0 Z = true) (wk : (Cond.instantiable K n).before a0 Z = true) (q1 : C ≠ K) (q2 : O ≠ K) : ∃ c t, Z.vm.findClass C = some c ∧ Z.vm.findClass K = some t ∧ Z.vm.assignable c t = false := by
  obtain ⟨c, hc⟩ := found_sup w1
  obtain ⟨o, k, kp, a1, a2, a3, a4, a5, a6, a7⟩ := Cond.superclass_spec hc w1
  obtain ⟨o', ko, b1, b2, b3, -, -⟩ := Cond.noSuperclass_spec w0
  obtain ⟨t, kt, t1, t2, t3, t4, -⟩ := Cond.instantiable_spec wk
  cases a1.symm.trans b1
  have n1 := ids_ne hc t1 q1
  have n2 := ids_ne b1 t1 q2
  have hi : kt.isInterface = false := (Bool.or_eq_false_iff.mp t4).1
  refine ⟨c, t, hc, t1, ?_⟩
  have sub : ∀ fuel, Z.vm.isSubclassAux fuel c t = false := fun fuel => by
    rcases fuel with _ | _ | f
    · rfl
    · simp [Vm.isSubclassAux, n1, a2, a4]
    · simp [Vm.isSubclassAux, n1, n2, a2, a4, b2, b3]
  show Z.vm.assignableAux (255 + 1) c t = false
  simp [Vm.assignableAux, n1, a2, t2, a5, t3, hi, Vm.isSubclass, sub]
theorem Go.instanceofNo {k : KT} (C : Ctx k l y bytes maxL ret R Z a0 EL wd wr h0 Q) {pc pc' i : Nat} {a : Addr} {Cn Kn : String} (E : Exa Z h a Cn) (F : ∃ c t, Z.vm.findClass Cn = some c ∧ Z.vm.findClass Kn = some t ∧ Z.vm.assignable c t = false) (w : (Cond.classLink y.cls i Kn).before a0 Z = true) (hd : De bytes pc (.instanceof i) 3 pc') (K : Go k h os cells slots pc' Ls (.int 0 :: st)) : Go k h os cells slots pc Ls (.ref a :: st) := by
  obtain ⟨p, l', e, R', s, m, args, below, meth, c, Z', EL', wd', wr', Q'⟩ := k
  obtain ⟨⟨rfl, rfl, rfl, rfl, rfl, rfl, rfl, rfl⟩, hx, hc', hml, hret, hlk, hnm, hZ, hown, hEL, hE, hwr⟩ := C
  obtain ⟨h1, rfl⟩ := hd
  intro T locs vm X e0 N S w' A Kp ow
  have hZ' : Z'.Warmed39 (s.setVm vm).vm := State.Warmed39.trans (t := s) hZ S.1
  have hown' : (s.setVm vm).vm.findClass y.cls = some m.cls := (S.1.alike.findClass _ _).trans hown
  obtain ⟨T', X', e', stp⟩ := instNo X hx hZ' hown' w e0 E F (g := mkF m pc Ls (.ref a :: st)) rfl rfl (hb hc' h1)
  exact mov K X' e' N S w' A Kp ow stp
theorem Go.instanceofNull {k : KT} (C : Ctx k l y bytes maxL ret R Z a0 EL wd wr h0 Q) {pc pc' i : Nat} (hd : De bytes pc (.instanceof i) 3 pc') (K : Go k h os cells slots pc' Ls (.int 0 :: st)) : Go k h os cells slots pc Ls (.null :: st) := by
  obtain ⟨p, l', e, R', s, m, args, below, meth, c, Z', EL', wd', wr', Q'⟩ := k
  obtain ⟨⟨rfl, rfl, rfl, rfl, rfl, rfl, rfl, rfl⟩, hx, hc', hml, hret, hlk, hnm, hZ, hown, hEL, hE, hwr⟩ := C
  obtain ⟨h1, rfl⟩ := hd
  intro T locs vm X e0 N S w' A Kp ow
  exact mov K X e0 N S w' A Kp ow (X.instanceofNull hx (g := mkF m pc Ls (.null :: st)) rfl rfl (hb hc' h1))
theorem Go.initO {k : KT} (C : Ctx k l y bytes maxL ret R Z a0 EL wd wr h0 Q) {pc pc' i : Nat} {a : Addr} (w1 : (Cond.methodLink y.cls i Lib.objectInit).before a0 Z = true) (w2 : (Cond.instanceMethod Lib.objectInit).before a0 Z = true) (w3 : (Cond.code Lib.objectInit ⟨#[0xb1]⟩ 1 none).before a0 Z = true)
    (hd : De bytes pc (.invokespecial i) 3 pc') (hs : Ls.size = maxL) (hf : 1 ≤ R.frames) (hl : (st.map fun v => v.category).sum + 12 ≤ R.locals) (K : Go k h os cells slots pc' Ls st) : Go k h os cells slots pc Ls (.ref a :: st) := by
  obtain ⟨p, l', e, R', s, m, args, below, meth, c, Z', EL', wd', wr', Q'⟩ := k
  obtain ⟨⟨rfl, rfl, rfl, rfl, rfl, rfl, rfl, rfl⟩, hx, hc', hml, hret, hlk, hnm, hZ, hown, hEL, hE, hwr⟩ := C
  obtain ⟨h1, rfl⟩ := hd
  intro T locs vm X e0 N S w' A Kp ow
  have hZ' : Z'.Warmed39 (s.setVm vm).vm := State.Warmed39.trans (t := s) hZ S.1
  have hown' : (s.setVm vm).vm.findClass y.cls = some m.cls := (S.1.alike.findClass _ _).trans hown
  obtain ⟨T', X', e', stp⟩ := RoadKit.initO X hx hZ' hown' w1 w2 w3 e0 (g := mkF m pc Ls (.ref a :: st)) rfl (hs.trans hml.symm) rfl (hb hc' h1) hf (W := (st.map fun v => v.category).sum) (by show 2 * 0 + _ ≤ _; omega) hl
  exact mov K X' e' N S w' A Kp ow stp
theorem Go.acmp {k : KT} (C : Ctx k l y bytes maxL ret R Z a0 EL wd wr h0 Q) {pc pc' pcT : Nat} {cd : ACond} {u v : Value} (same : Bool) (hd : DeJ bytes pc (.if_acmp cd) pc' pcT) (h1 : u.isRef = true) (h2 : v.isRef = true) (hq : decide (u = v) = same) {pcN : Nat} (hp : pcN = if acV cd same = true then pcT else pc') (K : Go k h os cells slots pcN Ls st) : Go k h os cells slots pc Ls (v :: u :: st) := by
  obtain ⟨p, l', e, R', s, m, args, below, meth, c, Z', EL', wd', wr', Q'⟩ := k
  obtain ⟨⟨rfl, rfl, rfl, rfl, rfl, rfl, rfl, rfl⟩, hx, hc', hml, hret, hlk, hnm, hZ, hown, hEL, hE, hwr⟩ := C
  obtain ⟨o, g1, rfl, g2, g3⟩ := hd
  intro T locs vm X e0 N S w' A Kp ow
  refine Fen.of (fun t kt => RoadKit.acmp X hx (g := mkF m pc Ls (v :: u :: st)) rfl h1 h2 (pc0 := pc) (pc' := pcN) (same := same) rfl (hb hc' g1) rfl hq g2 (by rw [hp, g3]) kt) (K T locs vm X e0 N S w' A Kp ow)
theorem Go.eqI {k : KT} {pc : Nat} {x x' : Int32} (e : x = x') (K : Go k h os cells slots pc Ls (.int x' :: st)) : Go k h os cells slots pc Ls (.int x :: st) := e ▸ K
theorem Go.eqJ {k : KT} {pc : Nat} {x x' : Int64} (e : x = x') (K : Go k h os cells slots pc Ls (.long x' :: st)) : Go k h os cells slots pc Ls (.long x :: st) := e ▸ K
theorem ne_lt {a b n : Nat} (q : a < n) (e : n ≤ b) : a ≠ b := Nat.ne_of_lt (Nat.lt_of_lt_of_le q e)
theorem ge_of {b n : Nat} (e : b = n) : n ≤ b := Nat.le_of_eq e.symm
theorem Go.ldcI {k : KT} (C : Ctx k l y bytes maxL ret R Z a0 EL wd wr h0 Q) {pc pc' i : Nat} {v : Int32} (w : (Cond.constant y.cls i v).before a0 Z = true) (hd : De bytes pc (.ldc i) 2 pc') (K : Go k h os cells slots pc' Ls (.int v :: st)) : Go k h os cells slots pc Ls st := by
  obtain ⟨p, l', e, R', s, m, args, below, meth, c, Z', EL', wd', wr', Q'⟩ := k
  obtain ⟨⟨rfl, rfl, rfl, rfl, rfl, rfl, rfl, rfl⟩, hx, hc', hml, hret, hlk, hnm, hZ, hown, hEL, hE, hwr⟩ := C
  obtain ⟨h1, rfl⟩ := hd
  intro T locs vm X e0 N S w' A Kp ow
  have hZ' : Z'.Warmed39 (s.setVm vm).vm := State.Warmed39.trans (t := s) hZ S.1
  have hown' : (s.setVm vm).vm.findClass y.cls = some m.cls := (S.1.alike.findClass _ _).trans hown
  exact mov K X e0 N S w' A Kp ow (X.ldcInt hx hown' (mvT hZ' w) (g := mkF m pc Ls st) rfl (hb hc' h1))
theorem Go.ldcWI {k : KT} (C : Ctx k l y bytes maxL ret R Z a0 EL wd wr h0 Q) {pc pc' i : Nat} {v : Int32} (w : (Cond.constant y.cls i v).before a0 Z = true) (hd : De bytes pc (.ldc_w i) 3 pc') (K : Go k h os cells slots pc' Ls (.int v :: st)) : Go k h os cells slots pc Ls st := by
  obtain ⟨p, l', e, R', s, m, args, below, meth, c, Z', EL', wd', wr', Q'⟩ := k
  obtain ⟨⟨rfl, rfl, rfl, rfl, rfl, rfl, rfl, rfl⟩, hx, hc', hml, hret, hlk, hnm, hZ, hown, hEL, hE, hwr⟩ := C
  obtain ⟨h1, rfl⟩ := hd
  intro T locs vm X e0 N S w' A Kp ow
  have hZ' : Z'.Warmed39 (s.setVm vm).vm := State.Warmed39.trans (t := s) hZ S.1
  have hown' : (s.setVm vm).vm.findClass y.cls = some m.cls := (S.1.alike.findClass _ _).trans hown
  exact mov K X e0 N S w' A Kp ow (X.ldcwInt hx hown' (mvT hZ' w) (g := mkF m pc Ls st) rfl (hb hc' h1))
theorem Go.ldcJ {k : KT} (C : Ctx k l y bytes maxL ret R Z a0 EL wd wr h0 Q) {pc pc' i : Nat} {v : Int64} (w : (Cond.constantLong y.cls i v).before a0 Z = true) (hd : De bytes pc (.ldc2_w i) 3 pc') (K : Go k h os cells slots pc' Ls (.long v :: st)) : Go k h os cells slots pc Ls st := by
  obtain ⟨p, l', e, R', s, m, args, below, meth, c, Z', EL', wd', wr', Q'⟩ := k
  obtain ⟨⟨rfl, rfl, rfl, rfl, rfl, rfl, rfl, rfl⟩, hx, hc', hml, hret, hlk, hnm, hZ, hown, hEL, hE, hwr⟩ := C
  obtain ⟨h1, rfl⟩ := hd
  intro T locs vm X e0 N S w' A Kp ow
  have hZ' : Z'.Warmed39 (s.setVm vm).vm := State.Warmed39.trans (t := s) hZ S.1
  have hown' : (s.setVm vm).vm.findClass y.cls = some m.cls := (S.1.alike.findClass _ _).trans hown
  exact mov K X e0 N S w' A Kp ow (X.ldc2Long hx hown' (mvT hZ' w) (g := mkF m pc Ls st) rfl (hb hc' h1))
theorem sizeExt {h' : Heap} {a : Addr} {C : String} (E : Exa Z h' a C) : a < h'.size := E.lt
theorem Go.ldcStr {k : KT} (C : Ctx k l y bytes maxL ret R Z a0 EL true wr h0 Q) {pc pc' i : Nat} {text : String} (w : (Cond.stringLink y.cls i text).before a0 Z = true) (wS : ∀ a ∈ Bundle.stringAtoms, a.before a0 Z = true) (hmem : (y.cls, i) ∈ EL) {bs : List Int32}
    (ht : (∀ c ∈ text.toList, c.toNat < 256) ∧ text.toList.map (fun c => Value.int (Jvm.Lit.byteI c.toNat.toUInt16)) = bs.map .int) (hln : (Int32.ofNat bs.length).toNatClampNeg = bs.length ∧ ¬ (Int32.ofNat bs.length) < 0) (hd : De bytes pc (.ldc i) 2 pc') {n : Nat} (hn : 4 * text.toList.length ≤ n) (hbig : n ≤ 536870912) (hc : cells + 2 ≤ R.cells) (hl : slots + (n + 4) ≤ R.slots)
    (K : ∀ (a t : Addr) (h' : Heap), Keep h h' [] → Str Z h' a t bs → (∀ x ∈ os, a ≠ x ∧ t ≠ x) → Go k h' os (cells + 2) (slots + (n + 4)) pc' Ls (.ref a :: st)) : Go k h os cells slots pc Ls st := by
  obtain ⟨p, l', e, R', s, m, args, below, meth, c, Z', EL', wd', wr', Q'⟩ := k
  obtain ⟨⟨rfl, rfl, rfl, rfl, rfl, rfl, rfl, rfl⟩, hx, hc', hml, hret, hlk, hnm, hZ, hown, hEL, hE, hwr⟩ := C
  obtain ⟨h1, rfl⟩ := hd
  intro T locs vm X e0 N S w' A Kp ow
  have hZ' : Z'.Warmed39 vm := State.Warmed39.trans (t := s) hZ S.1
  have hown' : vm.findClass y.cls = some m.cls := (S.1.alike.findClass _ _).trans hown
  obtain ⟨a, T', h', k1, b, kc, X', e', E, S', hk1, -, -, Ex, Fc, Fv, Av1, -, -, Ch, -, hsf, stp⟩ := ldcCH X hx hZ' hown' w wS e0 S (Nat.le_refl _) hEL hmem A.1 (vs := bs.map .int) (z := Int32.ofNat bs.length) ht hln.2 (by rw [hln.1]; simp) (g := mkF m pc Ls st) rfl (hb hc' h1) hn hbig hc hl
  have Sx : Str Z' h' a b bs := ⟨⟨Ex, rfl, fun i q v g1 g2 => by
    match i, g1, g2 with
    | 0, g1, g2 => cases g1; cases g2; exact Fv
    | 1, g1, g2 => cases g1; cases g2; exact Fc
    | i + 2, g1, g2 => simp [fStr] at g1⟩, ⟨kc, Int32.ofNat bs.length, Av1, by rw [hln.1]; simp⟩⟩
  have Kx : Keep h h' [] := Keep.ofExt E
  refine mov (K a b h' Kx Sx fun x hx => ⟨fun q => (hsf x ((ow x hx).chr Ch).1).1 q.symm, fun q => (hsf x ((ow x hx).chr Ch).1).2 q.symm⟩) X' e' N (Since.up S' hk1) (fun q => Bool.noConfusion q) (A.trans Ch) (Kp.ext E) (fun x hx => (ow x hx).chr Ch) stp
theorem Go.acmpne {k : KT} (C : Ctx k l y bytes maxL ret R Z a0 EL wd wr h0 Q) {pc pc' pcT : Nat} {a b : Addr} (hd : DeJ bytes pc (.if_acmp .ne) pc' pcT) (KD : ¬ (a = b) → Go k h os cells slots pcT Ls st) (KS : a = b → Go k h os cells slots pc' Ls st) : Go k h os cells slots pc Ls (.ref b :: .ref a :: st) := by
  by_cases q : a = b
  · exact Go.acmp C true hd rfl rfl (decide_eq_true (congrArg _ q)) rfl (KS q)
  · exact Go.acmp C false hd rfl rfl (decide_eq_false fun z => q (Value.ref.inj z)) rfl (KD q)
theorem Go.acmpeq {k : KT} (C : Ctx k l y bytes maxL ret R Z a0 EL wd wr h0 Q) {pc pc' pcT : Nat} {a b : Addr} (hd : DeJ bytes pc (.if_acmp .eq) pc' pcT) (KS : a = b → Go k h os cells slots pcT Ls st) (KD : ¬ (a = b) → Go k h os cells slots pc' Ls st) : Go k h os cells slots pc Ls (.ref b :: .ref a :: st) := by
  by_cases q : a = b
  · exact Go.acmp C true hd rfl rfl (decide_eq_true (congrArg _ q)) rfl (KS q)
  · exact Go.acmp C false hd rfl rfl (decide_eq_false fun z => q (Value.ref.inj z)) rfl (KD q)
/-- a callee's contract, as its caller takes it -/
theorem conBack {p : Program} {e : Env} {s : State} {args : Array Value} {below : List Frame} {z : MethodName} {bz : ByteArray} {mz : Nat} {rz : Option FieldType} {rm : Room} {as' : Array Value} {wr' : List Addr} {Q' : QT} {vm : Vm} {len W : Nat}
    (M : Con l Z EL wd z bz mz rz rm [] as' h wr' Q') (hZ : Z.Warmed39 vm) (wc : (Cond.code z bz mz rz).before a0 Z = true) (wz : (Cond.initialized z.cls).before a0 Z = true) (hf : rm.frames + 1 ≤ R.frames) (hl : W + (mz + 11) + rm.locals ≤ R.locals) (hEL : EW Z a0 EL) (H : CHv Z EL vm h) (hE : Ext Z.heap h) (hs : ∀ x ∈ wr', Safe Z EL vm h x ∧ Z.heap.size ≤ x ∧ x < h.size) :
    BackS l R p e below (s.setVm vm) args z len W (fun A a => a = as' ∧ A.U.heap = h ∧ A.cells + rm.cells ≤ R.cells ∧ A.slots + rm.slots ≤ R.slots)
      (fun A _ v B => ∃ L os, Q' v B.U.heap os ∧ (∀ x ∈ os, Safe Z EL B.U.vm B.U.heap x ∧ h.size ≤ x ∧ x < B.U.heap.size) ∧ Keep h B.U.heap wr' ∧ Fr Z.heap.size L ∧ CHr Z EL vm h B.U.vm B.U.heap ∧ (wd = false → (s.setVm vm).WarmedH B.U.vm) ∧ B.locs = A.locs ++ L ∧ B.cells = A.cells + rm.cells ∧ B.slots = A.slots + rm.slots) :=
  BackS.of_freeW (bytes := bz) (maxL := mz) (ret := rz) (E := fun _ first o t L k n => k = rm.cells ∧ n = rm.slots ∧ (∃ v os, o = .returned v ∧ Q' v t.heap os ∧ (∀ x ∈ os, Safe Z EL t.vm t.heap x ∧ first.heap.size ≤ x ∧ x < t.heap.size) ∧ Keep first.heap t.heap wr' ∧ Fr Z.heap.size L) ∧ CHr Z EL first.vm first.heap t.vm t.heap ∧ (wd = false → first.WarmedH t.vm)) M hf hl
    (fun m meth c A a Y hp => have hU : Z.Warmed39 A.U.vm := wtrans (s := s.setVm vm) hZ Y.warmed
      ⟨by show (Cond.and _ .tt).before a A.U = true; rw [Cond.before_and, mv hU wc]; rfl, mv hU wc, mv hU wz, hp.2.2.1, hp.2.2.2⟩)
    (fun m meth c A a g mk Y hp => ⟨hp.1, wtrans (s := s.setVm vm) hZ Y.warmed, hp.2.1, (CHv.at Y hZ hEL H).1, hE, fun x hx => ⟨(CHv.at Y hZ hEL H).safe (hs x hx).2.2 (hs x hx).1, (hs x hx).2⟩⟩) (fun _ _ _ _ _ _ _ _ _ => trivial)
    (fun _ _ _ _ ⟨v, L, os, h1, h2, h3, h4, h5, h6, h7, h8⟩ => ⟨L, _, _, h7, rfl, rfl, ⟨v, os, h1, h2, h3, h4, h5⟩, h6, fun q => (h8 q).2.1⟩)
    (fun m meth c A a g mk v t L k n Y hp _ _ ⟨e1, e2, ⟨v', os, e3, e4, e5, e6, e7⟩, e8, e9⟩ => by
      cases e3; subst e1 e2
      have eh : (A.U.calling g mk a).heap = h := hp.2.1
      rw [eh] at e6 e8
      refine ⟨L, os, e4, fun x hx => ?_, e6, e7, (CHv.at Y hZ hEL H).trans e8, fun q => State.WarmedH.trans Y.warmed (e9 q), rfl, rfl, rfl⟩
      have := e5 x hx
      rw [eh] at this; exact this)
theorem afterCall {p : Program} {e : Env} {s : State} {m : MethodId} {args : Array Value} {below : List Frame} {meth : Method} {c : Code} {T : State} {locs : List Loc} {vm : Vm} {rm : Room} {wr' : List Addr} {Q' : QT} {pc pc' : Nat} {st0 : List Value} {v : Option Value} {B : Pt} {L : List Loc} {os' : List Addr}
    (N : Fr Z.heap.size locs) (S : s.Since vm h.size) (w : wd = false → s.WarmedH vm) (A : CHr Z EL s.vm s.heap vm h) (Kp : Keep s.heap h wr) (hE : Ext Z.heap s.heap) (ow : ∀ x ∈ os, Own Z s.heap EL wr vm h x) (how : ∀ x ∈ wr', x ∈ os)
    (K : Go ⟨p, l, e, R, s, m, args, below, meth, c, Z, EL, wd, wr, Q⟩ B.U.heap (os' ++ os) (cells + rm.cells) (slots + rm.slots) pc' Ls (v.toList ++ st))
    (X' : Stand p l e R ((s.setVm vm).setVm B.U.vm) m args below meth c B.U B.locs B.cells B.slots) (hS : (s.setVm vm).Since B.U.vm B.U.heap.size) (hgr : h.size ≤ B.U.heap.size)
    (q2 : ∀ x ∈ os', Safe Z EL B.U.vm B.U.heap x ∧ h.size ≤ x ∧ x < B.U.heap.size) (q3 : Keep h B.U.heap wr') (q4 : Fr Z.heap.size L) (q5 : CHr Z EL vm h B.U.vm B.U.heap) (q6 : wd = false → (s.setVm vm).WarmedH B.U.vm) (q7 : B.locs = locs ++ L) (q8 : B.cells = cells + rm.cells) (q9 : B.slots = slots + rm.slots)
    (stp : Steps p.tables e below (T.setTop (mkF m pc Ls st0)) (B.U.setTop (mkF m pc' Ls (v.toList ++ st)))) : Fen p e below (Done Z EL wd R wr Q s) (T.setTop (mkF m pc Ls st0)) := by
  rw [q7, q8, q9] at X'
  refine mov (vm' := B.U.vm) K X' rfl (N.app q4) (S.trans hS hgr) (fun q => State.WarmedH.trans (w q) (q6 q)) (A.trans q5) (keepOs Kp q3 ow how) (fun x hx => ?_) (fun t kt => stp.trans kt)
  rcases List.mem_append.mp hx with hx | hx
  · obtain ⟨z1, z2, z3⟩ := q2 x hx
    exact ⟨z1, Nat.le_trans hE.1 (Nat.le_trans Kp.1 z2), z3, Or.inr (Nat.le_trans Kp.1 z2)⟩
  · exact (ow x hx).chr q5
theorem Go.callS {k : KT} (C : Ctx k l y bytes maxL ret R Z a0 EL wd wr h0 Q) {pc pc' : Nat} {i : Nat} {z : MethodName} {bz : ByteArray} {mz : Nat} {rz : Option FieldType} {rm : Room} {wr' : List Addr} {Q' : QT} {argsL : List Value} {ps : List FieldType} {rr : Option FieldType}
    (M : Con l Z EL wd z bz mz rz rm [] argsL.toArray h wr' Q') (w1 : (Cond.methodLink y.cls i z).before a0 Z = true) (w2 : (Cond.static z).before a0 Z = true) (w3 : (Cond.initialized z.cls).before a0 Z = true) (w4 : (Cond.code z bz mz rz).before a0 Z = true) (hd : De bytes pc (.invokestatic i) 3 pc') (hpd : parseMethodDescriptor z.desc = some ⟨ps, rr⟩) (hln : argsL.length = ps.length) (hmh : z.cls ≠ "java/lang/invoke/MethodHandle" ∧ z.cls ≠ "java/lang/invoke/VarHandle") (hsz : Ls.size = maxL) {st0 : List Value} (hst : st0 = argsL.reverse ++ st) (hfr : rm.frames + 1 ≤ R.frames) (hlo : (st.map fun v => v.category).sum + (mz + 11) + rm.locals ≤ R.locals) (hce : cells + rm.cells ≤ R.cells) (hsl : slots + rm.slots ≤ R.slots) (how : ∀ x ∈ wr', x ∈ os)
    (K : ∀ (v : Option Value) (h' : Heap) (os' : List Addr), Q' v h' os' → Keep h h' wr' → (∀ x ∈ os', h.size ≤ x ∧ x < h'.size) → Go k h' (os' ++ os) (cells + rm.cells) (slots + rm.slots) pc' Ls (v.toList ++ st)) : Go k h os cells slots pc Ls st0 := by
  obtain ⟨p, l', e, R', s, m, args, below, meth, c, Z', EL', wd', wr', Q'⟩ := k
  obtain ⟨⟨rfl, rfl, rfl, rfl, rfl, rfl, rfl, rfl⟩, hx, hc', hml, hret, hlk, hnm, hZ, hown, hEL, hE, hwr⟩ := C
  obtain ⟨h1, rfl⟩ := hd
  intro T locs vm X e0 N S w' A Kp ow
  have hZ' : Z'.Warmed39 (s.setVm vm).vm := State.Warmed39.trans (t := s) hZ S.1
  have hown' : (s.setVm vm).vm.findClass y.cls = some m.cls := (S.1.alike.findClass _ _).trans hown
  subst hst
  obtain ⟨v, vm₁, B, -, X', hS, hgr, hpost, stp⟩ := callSS X hx hown' (mvT hZ' w1) (mvT hZ' w2) (mvT hZ' w3) (mvT hZ' w4) hmh (conBack (p := p) (e := e) (below := below) (s := s) (args := args) M hZ' w4 w3 hfr hlo hEL A.1 (ext0 hE Kp hwr) (fun x hx => ⟨(ow x (how x hx)).1, (ow x (how x hx)).2.1, (ow x (how x hx)).2.2.1⟩)) (g := mkF m pc Ls (argsL.reverse ++ st)) rfl (hsz.trans hml.symm) (argsL := argsL) (rest := st) (lenOf hpd hln) rfl (by show 2 * 0 + _ ≤ _; exact Nat.le_of_eq (Nat.zero_add _)) (hb hc' h1) (fun _ _ => ⟨rfl, e0, hce, hsl⟩)
  obtain ⟨L, os', q1, q2, q3, q4, q5, q6, q7, q8, q9⟩ := hpost
  exact afterCall (Q' := Q') (rm := rm) N S w' A Kp hE ow how (K v B.U.heap os' q1 q3 fun x hx => (q2 x hx).2) X' hS (e0 ▸ hgr) q2 q3 q4 q5 q6 q7 q8 q9 stp
theorem Go.callI {k : KT} (C : Ctx k l y bytes maxL ret R Z a0 EL wd wr h0 Q) {pc pc' : Nat} {i : Nat} {a : Addr} {z : MethodName} {bz : ByteArray} {mz : Nat} {rm : Room} {wr' : List Addr} {Q' : QT} {argsL : List Value} {ps : List FieldType} {rr : Option FieldType}
    (M : Con l Z EL wd z bz mz none rm [] (.ref a :: argsL).toArray h wr' Q') (hin : z.name = "<init>") (w1 : (Cond.methodLink y.cls i z).before a0 Z = true) (w2 : (Cond.instanceMethod z).before a0 Z = true) (w3 : (Cond.initialized z.cls).before a0 Z = true) (w4 : (Cond.code z bz mz none).before a0 Z = true) (hd : De bytes pc (.invokespecial i) 3 pc') (hpd : parseMethodDescriptor z.desc = some ⟨ps, rr⟩) (hln : argsL.length = ps.length) (hmh : z.cls ≠ "java/lang/invoke/MethodHandle" ∧ z.cls ≠ "java/lang/invoke/VarHandle") (hsz : Ls.size = maxL) {st0 : List Value} (hst : st0 = argsL.reverse ++ .ref a :: st) (hfr : rm.frames + 1 ≤ R.frames) (hlo : (st.map fun v => v.category).sum + (mz + 11) + rm.locals ≤ R.locals) (hce : cells + rm.cells ≤ R.cells) (hsl : slots + rm.slots ≤ R.slots) (how : ∀ x ∈ wr', x ∈ os)
    (K : ∀ (v : Option Value) (h' : Heap) (os' : List Addr), Q' v h' os' → Keep h h' wr' → (∀ x ∈ os', h.size ≤ x ∧ x < h'.size) → Go k h' (os' ++ os) (cells + rm.cells) (slots + rm.slots) pc' Ls (v.toList ++ st)) : Go k h os cells slots pc Ls st0 := by
  obtain ⟨p, l', e, R', s, m, args, below, meth, c, Z', EL', wd', wr', Q'⟩ := k
  obtain ⟨⟨rfl, rfl, rfl, rfl, rfl, rfl, rfl, rfl⟩, hx, hc', hml, hret, hlk, hnm, hZ, hown, hEL, hE, hwr⟩ := C
  obtain ⟨h1, rfl⟩ := hd
  intro T locs vm X e0 N S w' A Kp ow
  have hZ' : Z'.Warmed39 (s.setVm vm).vm := State.Warmed39.trans (t := s) hZ S.1
  have hown' : (s.setVm vm).vm.findClass y.cls = some m.cls := (S.1.alike.findClass _ _).trans hown
  subst hst
  obtain ⟨v, vm₁, B, -, X', hS, hgr, hpost, stp⟩ := X.specialBackS hx hin hown' (mvT hZ' w1) (mvT hZ' w2) (mvT hZ' w4) hmh (conBack (p := p) (e := e) (below := below) (s := s) (args := args) M hZ' w4 w3 hfr hlo hEL A.1 (ext0 hE Kp hwr) (fun x hx => ⟨(ow x (how x hx)).1, (ow x (how x hx)).2.1, (ow x (how x hx)).2.2.1⟩)) (g := mkF m pc Ls (argsL.reverse ++ .ref a :: st)) rfl (hsz.trans hml.symm) (Steps.refl _) (a := a) (argsL := argsL) (rest := st) (lenOf hpd hln) rfl (by show 2 * 0 + _ ≤ _; exact Nat.le_of_eq (Nat.zero_add _)) (hb hc' h1) (fun _ _ => ⟨rfl, e0, hce, hsl⟩)
  obtain ⟨L, os', q1, q2, q3, q4, q5, q6, q7, q8, q9⟩ := hpost
  exact afterCall (Q' := Q') (rm := rm) N S w' A Kp hE ow how (K v B.U.heap os' q1 q3 fun x hx => (q2 x hx).2) X' hS (e0 ▸ hgr) q2 q3 q4 q5 q6 q7 q8 q9 stp
theorem Go.callV {k : KT} (C : Ctx k l y bytes maxL ret R Z a0 EL wd wr h0 Q) {pc pc' : Nat} {i : Nat} {a : Addr} {Cn : String} {zr : MethodName} {z : MethodName} {bz : ByteArray} {mz : Nat} {rz : Option FieldType} {rm : Room} {wr' : List Addr} {Q' : QT} {argsL : List Value} {ps : List FieldType} {rr : Option FieldType}
    (M : Con l Z EL wd z bz mz rz rm [] (.ref a :: argsL).toArray h wr' Q') (Ex : Exa Z h a Cn) (w1 : (Cond.methodLink y.cls i zr).before a0 Z = true) (wd1 : (Cond.declares zr).before a0 Z = true) (nf : ∀ {s : State}, Z.Warmed39 s.vm → NotFace s zr) (ws : (Cond.selects Cn zr z).before a0 Z = true) (w2 : (Cond.instanceMethod z).before a0 Z = true) (w3 : (Cond.initialized z.cls).before a0 Z = true) (w4 : (Cond.code z bz mz rz).before a0 Z = true) (hd : De bytes pc (.invokevirtual i) 3 pc') (hpd : parseMethodDescriptor zr.desc = some ⟨ps, rr⟩) (hln : argsL.length = ps.length) (hmh : zr.cls ≠ "java/lang/invoke/MethodHandle" ∧ zr.cls ≠ "java/lang/invoke/VarHandle") (hsz : Ls.size = maxL) {st0 : List Value} (hst : st0 = argsL.reverse ++ .ref a :: st) (hfr : rm.frames + 1 ≤ R.frames) (hlo : (st.map fun v => v.category).sum + (mz + 11) + rm.locals ≤ R.locals) (hce : cells + rm.cells ≤ R.cells) (hsl : slots + rm.slots ≤ R.slots) (how : ∀ x ∈ wr', x ∈ os)
    (K : ∀ (v : Option Value) (h' : Heap) (os' : List Addr), Q' v h' os' → Keep h h' wr' → (∀ x ∈ os', h.size ≤ x ∧ x < h'.size) → Go k h' (os' ++ os) (cells + rm.cells) (slots + rm.slots) pc' Ls (v.toList ++ st)) : Go k h os cells slots pc Ls st0 := by
  obtain ⟨p, l', e, R', s, m, args, below, meth, c, Z', EL', wd', wr', Q'⟩ := k
  obtain ⟨⟨rfl, rfl, rfl, rfl, rfl, rfl, rfl, rfl⟩, hx, hc', hml, hret, hlk, hnm, hZ, hown, hEL, hE, hwr⟩ := C
  obtain ⟨h1, rfl⟩ := hd
  intro T locs vm X e0 N S w' A Kp ow
  have hZ' : Z'.Warmed39 (s.setVm vm).vm := State.Warmed39.trans (t := s) hZ S.1
  have hown' : (s.setVm vm).vm.findClass y.cls = some m.cls := (S.1.alike.findClass _ _).trans hown
  subst hst
  obtain ⟨cq, kq, q1a, q1b, q1c⟩ := isOf hZ' e0 Ex
  obtain ⟨v, vm₁, B, -, X', hS, hgr, hpost, stp⟩ := X.virtualBackS hx hown' (mvT hZ' w1) (mvT hZ' wd1) (nf hZ') (mvT hZ' ws) (mvT hZ' w2) hmh (conBack (p := p) (e := e) (below := below) (s := s) (args := args) M hZ' w4 w3 hfr hlo hEL A.1 (ext0 hE Kp hwr) (fun x hx => ⟨(ow x (how x hx)).1, (ow x (how x hx)).2.1, (ow x (how x hx)).2.2.1⟩)) q1a q1c (g := mkF m pc Ls (argsL.reverse ++ .ref a :: st)) rfl (hsz.trans hml.symm) (Steps.refl _) (argsL := argsL) (rest := st) (lenOf hpd hln) rfl (by show 2 * 0 + _ ≤ _; exact Nat.le_of_eq (Nat.zero_add _)) (hb hc' h1) (fun _ _ => ⟨rfl, e0, hce, hsl⟩)
  obtain ⟨L, os', q1, q2, q3, q4, q5, q6, q7, q8, q9⟩ := hpost
  exact afterCall (Q' := Q') (rm := rm) N S w' A Kp hE ow how (K v B.U.heap os' q1 q3 fun x hx => (q2 x hx).2) X' hS (e0 ▸ hgr) q2 q3 q4 q5 q6 q7 q8 q9 stp
theorem Go.callF {k : KT} (C : Ctx k l y bytes maxL ret R Z a0 EL wd wr h0 Q) {pc pc' : Nat} {i n : Nat} {a : Addr} {Cn : String} {zr : MethodName} {z : MethodName} {bz : ByteArray} {mz : Nat} {rz : Option FieldType} {rm : Room} {wr' : List Addr} {Q' : QT} {argsL : List Value} {ps : List FieldType} {rr : Option FieldType}
    (M : Con l Z EL wd z bz mz rz rm [] (.ref a :: argsL).toArray h wr' Q') (Ex : Exa Z h a Cn) (w1 : (Cond.methodLink y.cls i zr).before a0 Z = true) (wd1 : (Cond.declares zr).before a0 Z = true) (wf : ∀ (s : State) (as : Array Value), Z.Warmed39 s.vm → (Cond.interfaceMethod zr.cls zr.cls zr.name zr.desc).before as s = true) (ws : (Cond.selects Cn zr z).before a0 Z = true) (w2 : (Cond.instanceMethod z).before a0 Z = true) (wp : (Cond.publicMethod z).before a0 Z = true) (wu : (Cond.unhidden Cn zr.name zr.desc).before a0 Z = true) (wc : (Cond.castable Cn zr.cls).before a0 Z = true) (w3 : (Cond.initialized z.cls).before a0 Z = true) (w4 : (Cond.code z bz mz rz).before a0 Z = true) (hd : De bytes pc (.invokeinterface i n) 5 pc') (hpd : parseMethodDescriptor zr.desc = some ⟨ps, rr⟩) (hln : argsL.length = ps.length) (hmh : zr.cls ≠ "java/lang/invoke/MethodHandle" ∧ zr.cls ≠ "java/lang/invoke/VarHandle") (hsz : Ls.size = maxL) {st0 : List Value} (hst : st0 = argsL.reverse ++ .ref a :: st) (hfr : rm.frames + 1 ≤ R.frames) (hlo : (st.map fun v => v.category).sum + (mz + 11) + rm.locals ≤ R.locals) (hce : cells + rm.cells ≤ R.cells) (hsl : slots + rm.slots ≤ R.slots) (how : ∀ x ∈ wr', x ∈ os)
    (K : ∀ (v : Option Value) (h' : Heap) (os' : List Addr), Q' v h' os' → Keep h h' wr' → (∀ x ∈ os', h.size ≤ x ∧ x < h'.size) → Go k h' (os' ++ os) (cells + rm.cells) (slots + rm.slots) pc' Ls (v.toList ++ st)) : Go k h os cells slots pc Ls st0 := by
  obtain ⟨p, l', e, R', s, m, args, below, meth, c, Z', EL', wd', wr', Q'⟩ := k
  obtain ⟨⟨rfl, rfl, rfl, rfl, rfl, rfl, rfl, rfl⟩, hx, hc', hml, hret, hlk, hnm, hZ, hown, hEL, hE, hwr⟩ := C
  obtain ⟨h1, rfl⟩ := hd
  intro T locs vm X e0 N S w' A Kp ow
  have hZ' : Z'.Warmed39 (s.setVm vm).vm := State.Warmed39.trans (t := s) hZ S.1
  have hown' : (s.setVm vm).vm.findClass y.cls = some m.cls := (S.1.alike.findClass _ _).trans hown
  subst hst
  obtain ⟨cq, kq, q1a, q1b, q1c⟩ := isOf hZ' e0 Ex
  obtain ⟨v, vm₁, B, -, X', hS, hgr, hpost, stp⟩ := X.interfaceBackS hx hown' (mvT hZ' w1) (mvT hZ' wd1) (wf _ _ hZ') (mvT hZ' ws) (mvT hZ' w2) (mvT hZ' wp) (mvT hZ' wu) (mvT hZ' wc) hmh (conBack (p := p) (e := e) (below := below) (s := s) (args := args) M hZ' w4 w3 hfr hlo hEL A.1 (ext0 hE Kp hwr) (fun x hx => ⟨(ow x (how x hx)).1, (ow x (how x hx)).2.1, (ow x (how x hx)).2.2.1⟩)) q1a q1b q1c (g := mkF m pc Ls (argsL.reverse ++ .ref a :: st)) rfl (hsz.trans hml.symm) (Steps.refl _) (argsL := argsL) (rest := st) (lenOf hpd hln) rfl (by show 2 * 0 + _ ≤ _; exact Nat.le_of_eq (Nat.zero_add _)) (hb hc' h1) (fun _ _ => ⟨rfl, e0, hce, hsl⟩)
  obtain ⟨L, os', q1, q2, q3, q4, q5, q6, q7, q8, q9⟩ := hpost
  exact afterCall (Q' := Q') (rm := rm) N S w' A Kp hE ow how (K v B.U.heap os' q1 q3 fun x hx => (q2 x hx).2) X' hS (e0 ▸ hgr) q2 q3 q4 q5 q6 q7 q8 q9 stp
theorem Go.callP {k : KT} (C : Ctx k l y bytes maxL ret R Z a0 EL wd wr h0 Q) {pc pc' : Nat} {i : Nat} {a : Addr} {Cn : String} {z : MethodName} {bz : ByteArray} {mz : Nat} {rz : Option FieldType} {rm : Room} {wr' : List Addr} {Q' : QT} {argsL : List Value} {ps : List FieldType} {rr : Option FieldType}
    (M : Con l Z EL wd z bz mz rz rm [] (.ref a :: argsL).toArray h wr' Q') (Ex : Exa Z h a Cn) (w1 : (Cond.methodLink y.cls i z).before a0 Z = true) (w2 : (Cond.instanceMethod z).before a0 Z = true) (ws : (Cond.selects z.cls z z).before a0 Z = true) (wp : (Cond.privateMethod z).before a0 Z = true) (w3 : (Cond.initialized z.cls).before a0 Z = true) (w4 : (Cond.code z bz mz rz).before a0 Z = true) (hd : De bytes pc (.invokevirtual i) 3 pc') (hpd : parseMethodDescriptor z.desc = some ⟨ps, rr⟩) (hln : argsL.length = ps.length) (hmh : z.cls ≠ "java/lang/invoke/MethodHandle" ∧ z.cls ≠ "java/lang/invoke/VarHandle") (hsz : Ls.size = maxL) {st0 : List Value} (hst : st0 = argsL.reverse ++ .ref a :: st) (hfr : rm.frames + 1 ≤ R.frames) (hlo : (st.map fun v => v.category).sum + (mz + 11) + rm.locals ≤ R.locals) (hce : cells + rm.cells ≤ R.cells) (hsl : slots + rm.slots ≤ R.slots) (how : ∀ x ∈ wr', x ∈ os)
    (K : ∀ (v : Option Value) (h' : Heap) (os' : List Addr), Q' v h' os' → Keep h h' wr' → (∀ x ∈ os', h.size ≤ x ∧ x < h'.size) → Go k h' (os' ++ os) (cells + rm.cells) (slots + rm.slots) pc' Ls (v.toList ++ st)) : Go k h os cells slots pc Ls st0 := by
  obtain ⟨p, l', e, R', s, m, args, below, meth, c, Z', EL', wd', wr', Q'⟩ := k
  obtain ⟨⟨rfl, rfl, rfl, rfl, rfl, rfl, rfl, rfl⟩, hx, hc', hml, hret, hlk, hnm, hZ, hown, hEL, hE, hwr⟩ := C
  obtain ⟨h1, rfl⟩ := hd
  intro T locs vm X e0 N S w' A Kp ow
  have hZ' : Z'.Warmed39 (s.setVm vm).vm := State.Warmed39.trans (t := s) hZ S.1
  have hown' : (s.setVm vm).vm.findClass y.cls = some m.cls := (S.1.alike.findClass _ _).trans hown
  subst hst
  obtain ⟨cq, q1a, q1b⟩ := Ex.cell
  obtain ⟨v, vm₁, B, -, X', hS, hgr, hpost, stp⟩ := X.privateBackS hx hown' (mvT hZ' w1) (mvT hZ' w2) (mvT hZ' ws) (Cond.privateMethod_at (mvP hZ' wp (args := #[]))) (mvT hZ' w4) hmh (conBack (p := p) (e := e) (below := below) (s := s) (args := args) M hZ' w4 w3 hfr hlo hEL A.1 (ext0 hE Kp hwr) (fun x hx => ⟨(ow x (how x hx)).1, (ow x (how x hx)).2.1, (ow x (how x hx)).2.2.1⟩)) (g := mkF m pc Ls (argsL.reverse ++ .ref a :: st)) rfl (hsz.trans hml.symm) (Steps.refl _) (a := a) (by rw [e0]; exact q1a) q1b (argsL := argsL) (rest := st) (lenOf hpd hln) rfl (by show 2 * 0 + _ ≤ _; exact Nat.le_of_eq (Nat.zero_add _)) (hb hc' h1) (fun _ _ => ⟨rfl, e0, hce, hsl⟩)
  obtain ⟨L, os', q1, q2, q3, q4, q5, q6, q7, q8, q9⟩ := hpost
  exact afterCall (Q' := Q') (rm := rm) N S w' A Kp hE ow how (K v B.U.heap os' q1 q3 fun x hx => (q2 x hx).2) X' hS (e0 ▸ hgr) q2 q3 q4 q5 q6 q7 q8 q9 stp
theorem Go.ireturn {k : KT} {x x' : Int32} {t : FieldType} (C : Ctx k l y bytes maxL (some t) R Z a0 EL wd wr h0 Q) {pc pc' : Nat} (hd : De bytes pc .ireturn 1 pc') (hce : cells ≤ R.cells) (hsl : slots ≤ R.slots) (ht : t = .int ∨ t = .boolean ∨ t = .byte ∨ t = .char ∨ t = .short) (hn : nar t x = x') (os' : List Addr) (ho : ∀ x ∈ os', x ∈ os ∧ h0.size ≤ x) (q : Q (some (.int x')) h os') : Go k h os cells slots pc Ls (.int x :: st) := by
  obtain ⟨p, l', e, R', s, m, args, below, meth, c, Z', EL', wd', wr', Q'⟩ := k
  obtain ⟨⟨rfl, rfl, rfl, rfl, rfl, rfl, rfl, rfl⟩, hx, hc', hml, hret, hlk, hnm, hZ, hown, hEL, hE, hwr⟩ := C
  obtain ⟨h1, rfl⟩ := hd
  intro T locs vm X e0 N S w' A Kp ow
  have hZ' : Z'.Warmed39 (s.setVm vm).vm := State.Warmed39.trans (t := s) hZ S.1
  obtain ⟨fs, hr, g1, g2, hW, hs0⟩ := X.leave (v := (some (.int x'))) (fun h => by rw [hret] at h; cases h) hlk
  obtain ⟨r1, r2, r3⟩ := S.ended (U := T.setFrames fs) hW (Nat.le_of_eq (by rw [← e0]; rfl)) hs0
  have Ch := A.trans (CHv.at X hZ' hEL A.1)
  refine ⟨T.setFrames fs, _, ?_, g1, g2, (some (.int x')), locs, os', rfl, ?_, ?_, ?_, N, ?_, ⟨⟨_, rfl⟩, r1, r2, r3.mono hce hsl⟩, fun q => ⟨⟨_, rfl⟩, State.WarmedH.trans (w' q) hW, r3.mono hce hsl⟩⟩
  · subst hn
    rcases ht with rfl | ht
    · exact retOut X hx hret rfl (Or.inl ⟨rfl, Or.inl rfl, _, rfl⟩) (hb hc' h1) hr
    · exact retN X hx hret ht (hb hc' h1) hr
  · show Q' _ T.heap os'
    rw [e0]; exact q
  · intro x hx
    obtain ⟨z1, z2⟩ := ho x hx
    obtain ⟨o1, o2, o3, o4⟩ := ow x z1
    show Safe Z' EL' T.vm T.heap x ∧ s.heap.size ≤ x ∧ x < T.heap.size
    rw [e0]
    exact ⟨(CHv.at X hZ' hEL A.1).safe o3 o1, z2, o3⟩
  · show Keep s.heap T.heap wr'
    rw [e0]; exact Kp
  · show CHr Z' EL' s.vm s.heap T.vm T.heap
    rw [e0]; exact Ch
theorem Go.lreturn {k : KT} {x : Int64} (C : Ctx k l y bytes maxL (some .long) R Z a0 EL wd wr h0 Q) {pc pc' : Nat} (hd : De bytes pc .lreturn 1 pc') (hce : cells ≤ R.cells) (hsl : slots ≤ R.slots) (os' : List Addr) (ho : ∀ x ∈ os', x ∈ os ∧ h0.size ≤ x) (q : Q (some (.long x)) h os') : Go k h os cells slots pc Ls (.long x :: st) := by
  obtain ⟨p, l', e, R', s, m, args, below, meth, c, Z', EL', wd', wr', Q'⟩ := k
  obtain ⟨⟨rfl, rfl, rfl, rfl, rfl, rfl, rfl, rfl⟩, hx, hc', hml, hret, hlk, hnm, hZ, hown, hEL, hE, hwr⟩ := C
  obtain ⟨h1, rfl⟩ := hd
  intro T locs vm X e0 N S w' A Kp ow
  have hZ' : Z'.Warmed39 (s.setVm vm).vm := State.Warmed39.trans (t := s) hZ S.1
  obtain ⟨fs, hr, g1, g2, hW, hs0⟩ := X.leave (v := (some (.long x))) (fun h => by rw [hret] at h; cases h) hlk
  obtain ⟨r1, r2, r3⟩ := S.ended (U := T.setFrames fs) hW (Nat.le_of_eq (by rw [← e0]; rfl)) hs0
  have Ch := A.trans (CHv.at X hZ' hEL A.1)
  refine ⟨T.setFrames fs, _, ?_, g1, g2, (some (.long x)), locs, os', rfl, ?_, ?_, ?_, N, ?_, ⟨⟨_, rfl⟩, r1, r2, r3.mono hce hsl⟩, fun q => ⟨⟨_, rfl⟩, State.WarmedH.trans (w' q) hW, r3.mono hce hsl⟩⟩
  · exact retOut X hx hret rfl (Or.inr (Or.inl ⟨rfl, rfl, _, rfl⟩)) (hb hc' h1) hr
  · show Q' _ T.heap os'
    rw [e0]; exact q
  · intro x hx
    obtain ⟨z1, z2⟩ := ho x hx
    obtain ⟨o1, o2, o3, o4⟩ := ow x z1
    show Safe Z' EL' T.vm T.heap x ∧ s.heap.size ≤ x ∧ x < T.heap.size
    rw [e0]
    exact ⟨(CHv.at X hZ' hEL A.1).safe o3 o1, z2, o3⟩
  · show Keep s.heap T.heap wr'
    rw [e0]; exact Kp
  · show CHr Z' EL' s.vm s.heap T.vm T.heap
    rw [e0]; exact Ch
theorem Go.dreturn {k : KT} {x : UInt64} (C : Ctx k l y bytes maxL (some .double) R Z a0 EL wd wr h0 Q) {pc pc' : Nat} (hd : De bytes pc .dreturn 1 pc') (hce : cells ≤ R.cells) (hsl : slots ≤ R.slots) (os' : List Addr) (ho : ∀ x ∈ os', x ∈ os ∧ h0.size ≤ x) (q : Q (some (.double x)) h os') : Go k h os cells slots pc Ls (.double x :: st) := by
  obtain ⟨p, l', e, R', s, m, args, below, meth, c, Z', EL', wd', wr', Q'⟩ := k
  obtain ⟨⟨rfl, rfl, rfl, rfl, rfl, rfl, rfl, rfl⟩, hx, hc', hml, hret, hlk, hnm, hZ, hown, hEL, hE, hwr⟩ := C
  obtain ⟨h1, rfl⟩ := hd
  intro T locs vm X e0 N S w' A Kp ow
  have hZ' : Z'.Warmed39 (s.setVm vm).vm := State.Warmed39.trans (t := s) hZ S.1
  obtain ⟨fs, hr, g1, g2, hW, hs0⟩ := X.leave (v := (some (.double x))) (fun h => by rw [hret] at h; cases h) hlk
  obtain ⟨r1, r2, r3⟩ := S.ended (U := T.setFrames fs) hW (Nat.le_of_eq (by rw [← e0]; rfl)) hs0
  have Ch := A.trans (CHv.at X hZ' hEL A.1)
  refine ⟨T.setFrames fs, _, ?_, g1, g2, (some (.double x)), locs, os', rfl, ?_, ?_, ?_, N, ?_, ⟨⟨_, rfl⟩, r1, r2, r3.mono hce hsl⟩, fun q => ⟨⟨_, rfl⟩, State.WarmedH.trans (w' q) hW, r3.mono hce hsl⟩⟩
  · exact retOut X hx hret rfl (Or.inr (Or.inr (Or.inl ⟨rfl, rfl, _, rfl⟩))) (hb hc' h1) hr
  · show Q' _ T.heap os'
    rw [e0]; exact q
  · intro x hx
    obtain ⟨z1, z2⟩ := ho x hx
    obtain ⟨o1, o2, o3, o4⟩ := ow x z1
    show Safe Z' EL' T.vm T.heap x ∧ s.heap.size ≤ x ∧ x < T.heap.size
    rw [e0]
    exact ⟨(CHv.at X hZ' hEL A.1).safe o3 o1, z2, o3⟩
  · show Keep s.heap T.heap wr'
    rw [e0]; exact Kp
  · show CHr Z' EL' s.vm s.heap T.vm T.heap
    rw [e0]; exact Ch
theorem Go.areturn {k : KT} {v : Value} {t : FieldType} (C : Ctx k l y bytes maxL (some t) R Z a0 EL wd wr h0 Q) {pc pc' : Nat} (hd : De bytes pc .areturn 1 pc') (hce : cells ≤ R.cells) (hsl : slots ≤ R.slots) (ht : t.isReference = true) (hvr : v.isRef = true) (os' : List Addr) (ho : ∀ x ∈ os', x ∈ os ∧ h0.size ≤ x) (q : Q (some v) h os') : Go k h os cells slots pc Ls (v :: st) := by
  obtain ⟨p, l', e, R', s, m, args, below, meth, c, Z', EL', wd', wr', Q'⟩ := k
  obtain ⟨⟨rfl, rfl, rfl, rfl, rfl, rfl, rfl, rfl⟩, hx, hc', hml, hret, hlk, hnm, hZ, hown, hEL, hE, hwr⟩ := C
  obtain ⟨h1, rfl⟩ := hd
  intro T locs vm X e0 N S w' A Kp ow
  have hZ' : Z'.Warmed39 (s.setVm vm).vm := State.Warmed39.trans (t := s) hZ S.1
  obtain ⟨fs, hr, g1, g2, hW, hs0⟩ := X.leave (v := (some v)) (fun h => by rw [hret] at h; cases h) hlk
  obtain ⟨r1, r2, r3⟩ := S.ended (U := T.setFrames fs) hW (Nat.le_of_eq (by rw [← e0]; rfl)) hs0
  have Ch := A.trans (CHv.at X hZ' hEL A.1)
  refine ⟨T.setFrames fs, _, ?_, g1, g2, (some v), locs, os', rfl, ?_, ?_, ?_, N, ?_, ⟨⟨_, rfl⟩, r1, r2, r3.mono hce hsl⟩, fun q => ⟨⟨_, rfl⟩, State.WarmedH.trans (w' q) hW, r3.mono hce hsl⟩⟩
  · exact retOut X hx hret (by cases t <;> first | rfl | cases ht) (Or.inr (Or.inr (Or.inr (Or.inr ⟨rfl, ht, hvr⟩)))) (hb hc' h1) hr
  · show Q' _ T.heap os'
    rw [e0]; exact q
  · intro x hx
    obtain ⟨z1, z2⟩ := ho x hx
    obtain ⟨o1, o2, o3, o4⟩ := ow x z1
    show Safe Z' EL' T.vm T.heap x ∧ s.heap.size ≤ x ∧ x < T.heap.size
    rw [e0]
    exact ⟨(CHv.at X hZ' hEL A.1).safe o3 o1, z2, o3⟩
  · show Keep s.heap T.heap wr'
    rw [e0]; exact Kp
  · show CHr Z' EL' s.vm s.heap T.vm T.heap
    rw [e0]; exact Ch
theorem Go.retV {k : KT}  (C : Ctx k l y bytes maxL none R Z a0 EL wd wr h0 Q) {pc pc' : Nat} (hd : De bytes pc .return_ 1 pc') (hce : cells ≤ R.cells) (hsl : slots ≤ R.slots) (os' : List Addr) (ho : ∀ x ∈ os', x ∈ os ∧ h0.size ≤ x) (q : Q none h os') : Go k h os cells slots pc Ls (([] : List Value)) := by
  obtain ⟨p, l', e, R', s, m, args, below, meth, c, Z', EL', wd', wr', Q'⟩ := k
  obtain ⟨⟨rfl, rfl, rfl, rfl, rfl, rfl, rfl, rfl⟩, hx, hc', hml, hret, hlk, hnm, hZ, hown, hEL, hE, hwr⟩ := C
  obtain ⟨h1, rfl⟩ := hd
  intro T locs vm X e0 N S w' A Kp ow
  have hZ' : Z'.Warmed39 (s.setVm vm).vm := State.Warmed39.trans (t := s) hZ S.1
  obtain ⟨fs, hr, g1, g2, hW, hs0⟩ := X.leave (v := none) (fun _ => rfl) hlk
  obtain ⟨r1, r2, r3⟩ := S.ended (U := T.setFrames fs) hW (Nat.le_of_eq (by rw [← e0]; rfl)) hs0
  have Ch := A.trans (CHv.at X hZ' hEL A.1)
  refine ⟨T.setFrames fs, _, ?_, g1, g2, none, locs, os', rfl, ?_, ?_, ?_, N, ?_, ⟨⟨_, rfl⟩, r1, r2, r3.mono hce hsl⟩, fun q => ⟨⟨_, rfl⟩, State.WarmedH.trans (w' q) hW, r3.mono hce hsl⟩⟩
  · exact X.returnOut hx hret (hb hc' h1) hr
  · show Q' _ T.heap os'
    rw [e0]; exact q
  · intro x hx
    obtain ⟨z1, z2⟩ := ho x hx
    obtain ⟨o1, o2, o3, o4⟩ := ow x z1
    show Safe Z' EL' T.vm T.heap x ∧ s.heap.size ≤ x ∧ x < T.heap.size
    rw [e0]
    exact ⟨(CHv.at X hZ' hEL A.1).safe o3 o1, z2, o3⟩
  · show Keep s.heap T.heap wr'
    rw [e0]; exact Kp
  · show CHr Z' EL' s.vm s.heap T.vm T.heap
    rw [e0]; exact Ch
theorem Con.intro {ws : List Jvm.Cond} {as' : Array Value} {rm : Room} (hpl : plainFor y = true) (hEL : EW Z a0 EL) (hen : ∀ m, entryFrame m as' maxL = mkF m 0 Ls [])
    (G : ∀ k, Ctx k l y bytes maxL ret rm Z a0 EL wd wr h Q → Go k h wr 0 0 0 Ls []) : Con l Z EL wd y bytes maxL ret rm ws as' h wr Q := by
  refine MetFree.of_bodySF hpl hisR ?_
  intro p e s m args below meth c s₁ Bd hml hP hK
  obtain ⟨rfl, hZ, rfl, H, hE, hsf⟩ := hP
  have X0 : Stand p l e rm s m args below meth c s₁ [] 0 0 := Stand.of_body Bd
  have e0 : s₁.heap = s.heap := by rw [Bd.state]; rfl
  have G' := G ⟨p, l, e, rm, s, m, args, below, meth, c, Z, EL, wd, wr, Q⟩ ⟨⟨rfl, rfl, rfl, rfl, rfl, rfl, rfl, rfl⟩, Bd.exec, Bd.bytes, hml, Bd.returns, Bd.notSynchronized, (name_of_methodNamed Bd.named Bd.method).1, hZ, findClass_of_methodNamed Bd.named, hEL, hE, fun x hx => (hsf x hx).2.1⟩
    s₁ [] s.vm X0 e0 (Fr.nil _) ((State.WarmedH.refl s).since _) (fun _ => State.WarmedH.refl s) (CHr.refl H) (Keep.refl _ _) (fun x hx => ⟨(hsf x hx).1, (hsf x hx).2.1, (hsf x hx).2.2, Or.inl hx⟩)
  obtain ⟨s', o, g1, g2, g3, g4⟩ := G'
  exact ⟨s', o, castTop (hen m) g1, g2, g3, g4⟩
end Heapy
end Jvm.OwnGo
namespace Jvm.Pilot.@@N@@
open Jvm Jvm.ClassFile Sem Op Lib Jvm.Free Jvm.Stand Jvm.LawKit Jvm.RoadKit Jvm.OwnGo Bundle Jvm.Pilot.@@N@@.Jvm.D
abbrev own_EL : List (String × Nat) := [("com/example/atomicity/atomicity/model/Ordering$Key", 7), ("java/lang/String", 7)]
theorem own_ite1 {P : Prop} [Decidable P] (q : ¬ ((if P then (1 : Int32) else 0) = 0)) : (if P then (1 : Int32) else 0) = 1 := by
  by_cases h : P
  · exact if_pos h
  · exact absurd (if_neg h) q
theorem own_shr0 (x : Int32) : x >>> ((0 : Int32) &&& 31) = x := by
  rw [show ((0 : Int32) &&& 31) = 0 from by decide]; exact Int32.shiftRight_zero
def own_b (c : Int32) : Int32 := c.toInt8.toInt32
def own_L (c : Int32) : Prop := ¬ c < 0 ∧ ¬ (255 : Int32) < c
def own_lat (cs : List Int32) : Prop := ∀ c ∈ cs, own_L c
theorem own_b_nar (c : Int32) : nar .byte (own_b c) = own_b c := by
  show (c.toInt8.toInt32).toInt8.toInt32 = c.toInt8.toInt32
  rw [Int8.toInt8_toInt32]
theorem own_nil {cs : List Int32} (hl : cs.length < 2147483648) (q : Int32.ofNat cs.length = 0) : cs = [] := by
  have : Int32.ofNat cs.length = Int32.ofNat 0 := q
  exact List.eq_nil_of_length_eq_zero ((nI_eq hl (by omega)).mp this)
theorem own_set {cs : List Int32} {c : Int32} {i n : Nat} (q : i + (n + 1) = cs.length) (hc : cs[i]? = some c) : (List.map Value.int ((cs.take i).map own_b ++ List.replicate (n + 1) 0)).set i (.int (own_b c)) = List.map Value.int ((cs.take (i + 1)).map own_b ++ List.replicate n 0) := by
  have hi : i < cs.length := by omega
  have ht : (cs.take i).length = i := by simp; omega
  rw [← List.map_set, List.set_append_right _ _ (by simp [ht]; omega), List.take_add_one, hc]
  simp [ht, List.replicate_succ, show min i cs.length = i by omega]
theorem own_L_int {x : Int32} (h : own_L x) : 0 ≤ x.toInt ∧ x.toInt ≤ 255 := by
  obtain ⟨h1, h2⟩ := h
  rw [Int32.lt_iff_toInt_lt] at h1 h2
  have e0 : (0 : Int32).toInt = 0 := rfl
  have e1 : (255 : Int32).toInt = 255 := rfl
  omega
theorem own_L_of {x : Int32} (h1 : 0 ≤ x.toInt) (h2 : x.toInt ≤ 255) : own_L x := by
  have e0 : (0 : Int32).toInt = 0 := rfl
  have e1 : (255 : Int32).toInt = 255 := rfl
  constructor <;> rw [Int32.lt_iff_toInt_lt] <;> omega
theorem own_c_nar (x : Int32) : nar .char (x.toUInt32.toUInt16.toUInt32.toInt32) = x.toUInt32.toUInt16.toUInt32.toInt32 := by
  obtain ⟨-, h1, h2⟩ := c_i2c x
  obtain ⟨g0, g1, g2⟩ := c_i2c (x.toUInt32.toUInt16.toUInt32.toInt32)
  exact Int32.toInt_inj.mp (by show (x.toUInt32.toUInt16.toUInt32.toInt32).toUInt32.toUInt16.toUInt32.toInt32.toInt = _; omega)
theorem own_nar_lat {x : Int32} (h : own_L x) : nar .char x = x := by
  obtain ⟨h1, h2⟩ := own_L_int h
  obtain ⟨g0, g1, g2⟩ := c_i2c x
  exact Int32.toInt_inj.mp (by show x.toUInt32.toUInt16.toUInt32.toInt32.toInt = _; omega)
theorem own_c8i {x z : Int32} (e : (x &&& (255 : Int32)).toUInt32.toUInt16.toUInt32.toInt32 = z) : own_L z := by
  subst e
  have a := c_mask x 255 8 (by decide) (by decide)
  have a' : (x &&& 255).toInt = x.toInt % 256 := a
  obtain ⟨g0, g1, g2⟩ := c_i2c (x &&& (255 : Int32))
  exact own_L_of (by omega) (by omega)
theorem own_c8 {x : Int64} {z : Int32} (e : ((x &&& (255 : Int64)).toInt32).toUInt32.toUInt16.toUInt32.toInt32 = z) : own_L z := by
  subst e
  have a := c_maskL x 255 8 (by decide) (by decide)
  have a' : (x &&& 255).toInt = x.toInt % 256 := a
  have b := c_l2i (x &&& 255)
  obtain ⟨g0, g1, g2⟩ := c_i2c ((x &&& (255 : Int64)).toInt32)
  have r := rng32 ((x &&& (255 : Int64)).toInt32)
  exact own_L_of (by omega) (by omega)
theorem own_lat2 {p q : Int32} (h1 : own_L p) (h2 : own_L q) : own_lat [p, q] := fun c hc => by
  simp only [List.mem_cons, List.not_mem_nil, or_false] at hc
  rcases hc with rfl | rfl
  · exact h1
  · exact h2
theorem own_b_inj {x y : Int32} (hx : own_L x) (hy : own_L y) (e : own_b x = own_b y) : x = y := by
  obtain ⟨a1, a2⟩ := own_L_int hx
  obtain ⟨b1, b2⟩ := own_L_int hy
  obtain ⟨c1, -, -⟩ := c_i2b x
  obtain ⟨d1, -, -⟩ := c_i2b y
  have e' : x.toInt8.toInt32.toInt = y.toInt8.toInt32.toInt := congrArg Int32.toInt e
  exact Int32.toInt_inj.mp (by omega)
theorem own_it0 {P : Prop} [Decidable P] (h : (if P then (1 : Int32) else 0) = 0) : ¬ P := fun q => by rw [if_pos q] at h; exact absurd h (by decide)
theorem own_it1 {P : Prop} [Decidable P] (h : ¬ ((if P then (1 : Int32) else 0) = 0)) : P := Decidable.byContradiction fun q => h (if_neg q)
theorem own_lat1 {p : Int32} (h1 : own_L p) : own_lat [p] := fun c hc => by
  simp only [List.mem_cons, List.not_mem_nil, or_false] at hc
  rcases hc with rfl
  exact h1
theorem own_lat3 {p q r : Int32} (h1 : own_L p) (h2 : own_L q) (h3 : own_L r) : own_lat [p, q, r] := fun c hc => by
  simp only [List.mem_cons, List.not_mem_nil, or_false] at hc
  rcases hc with rfl | rfl | rfl
  · exact h1
  · exact h2
  · exact h3
theorem own_k4 {x z : Int32} (e : (x &&& (3 : Int32)) = z) : z = 0 ∨ z = 1 ∨ z = 2 ∨ z = 3 := by
  subst e
  have a := c_mask x 3 2 (by decide) (by decide)
  have a' : (x &&& 3).toInt = x.toInt % 4 := a
  have c : (x &&& 3).toInt = 0 ∨ (x &&& 3).toInt = 1 ∨ (x &&& 3).toInt = 2 ∨ (x &&& 3).toInt = 3 := by omega
  rcases c with c | c | c | c
  · exact Or.inl (Int32.toInt_inj.mp c)
  · exact Or.inr (Or.inl (Int32.toInt_inj.mp c))
  · exact Or.inr (Or.inr (Or.inl (Int32.toInt_inj.mp c)))
  · exact Or.inr (Or.inr (Or.inr (Int32.toInt_inj.mp c)))
theorem own_k3 {z : Int32} (h : z = 0 ∨ z = 1 ∨ z = 2 ∨ z = 3) (h0 : ¬ z = 0) (h1 : ¬ z = 1) (h2 : ¬ z = 2) : z = 3 := ((h.resolve_left h0).resolve_left h1).resolve_left h2
abbrev y_28 : MethodName := ⟨"java/util/List", "get", "(I)Ljava/lang/Object;"⟩
abbrev y_27 : MethodName := ⟨"java/util/List", "size", "()I"⟩
abbrev y_26 : MethodName := ⟨"com/example/atomicity/atomicity/model/Ordering$Key", "descending", "()Z"⟩
abbrev y_25 : MethodName := ⟨"com/example/atomicity/atomicity/model/Ordering$Key", "property", "()Ljava/lang/String;"⟩
abbrev y_24 : MethodName := ⟨"java/util/ImmutableCollections$List12", "get", "(I)Ljava/lang/Object;"⟩
abbrev y_23 : MethodName := ⟨"java/util/ImmutableCollections$List12", "size", "()I"⟩
abbrev y_22 : MethodName := ⟨"com/example/atomicity/atomicity/model/Ordering", "keys", "()Ljava/util/List;"⟩
abbrev y_21 : MethodName := ⟨"com/example/atomicity/atomicity/model/Ordering", "ascending", "(Ljava/lang/String;)Lcom/example/atomicity/atomicity/model/Ordering;"⟩
abbrev y_20 : MethodName := ⟨"com/example/atomicity/atomicity/model/Ordering", "<init>", "(Ljava/util/List;)V"⟩
abbrev y_19 : MethodName := ⟨"java/util/List", "copyOf", "(Ljava/util/Collection;)Ljava/util/List;"⟩
abbrev y_18 : MethodName := ⟨"java/util/ImmutableCollections", "listCopy", "(Ljava/util/Collection;)Ljava/util/List;"⟩
abbrev y_17 : MethodName := ⟨"java/util/List", "of", "(Ljava/lang/Object;)Ljava/util/List;"⟩
abbrev y_16 : MethodName := ⟨"java/util/ImmutableCollections$List12", "<init>", "(Ljava/lang/Object;)V"⟩
abbrev y_15 : MethodName := ⟨"com/example/atomicity/atomicity/model/Ordering$Key", "<init>", "(Ljava/lang/String;Z)V"⟩
abbrev y_14 : MethodName := ⟨"java/util/Objects", "requireNonNull", "(Ljava/lang/Object;Ljava/lang/String;)Ljava/lang/Object;"⟩
abbrev y_13 : MethodName := ⟨"java/util/Objects", "requireNonNull", "(Ljava/lang/Object;)Ljava/lang/Object;"⟩
abbrev y_12 : MethodName := ⟨"java/util/ImmutableCollections$AbstractImmutableList", "<init>", "()V"⟩
abbrev y_11 : MethodName := ⟨"java/util/ImmutableCollections$AbstractImmutableCollection", "<init>", "()V"⟩
abbrev y_10 : MethodName := ⟨"java/util/AbstractCollection", "<init>", "()V"⟩
abbrev y_9 : MethodName := ⟨"java/lang/Record", "<init>", "()V"⟩
abbrev y_8 : MethodName := ⟨"com/example/atomicity/atomicity/model/OrderingAscendingPinLaw", "drawn", "(IIII)Ljava/lang/String;"⟩
abbrev y_7 : MethodName := ⟨"java/lang/String", "length", "()I"⟩
abbrev y_6 : MethodName := ⟨"java/lang/String", "coder", "()B"⟩
abbrev y_5 : MethodName := ⟨"java/lang/String", "equals", "(Ljava/lang/Object;)Z"⟩
abbrev y_4 : MethodName := ⟨"java/lang/String", "<init>", "([C)V"⟩
abbrev y_3 : MethodName := ⟨"java/lang/String", "<init>", "([CIILjava/lang/Void;)V"⟩
abbrev y_2 : MethodName := ⟨"java/lang/StringUTF16", "coderFromArrayLen", "([BI)B"⟩
abbrev y_1 : MethodName := ⟨"java/lang/StringUTF16", "compress", "([CII)[B"⟩
abbrev y_0 : MethodName := ⟨"java/lang/StringUTF16", "compress", "([CI[BII)I"⟩
theorem d0_0 : De code 0 (.iload_n 0) 1 1 := ⟨by decide +kernel, rfl⟩
theorem d0_1 : De code 1 (.iload_n 1) 1 2 := ⟨by decide +kernel, rfl⟩
theorem d0_2 : De code 2 (.iload_n 2) 1 3 := ⟨by decide +kernel, rfl⟩
theorem d0_3 : De code 3 (.iload_n 3) 1 4 := ⟨by decide +kernel, rfl⟩
theorem d0_4 : De code 4 (.invokestatic 12) 3 7 := ⟨by decide +kernel, rfl⟩
theorem d0_7 : De code 7 (.astore 4) 2 9 := ⟨by decide +kernel, rfl⟩
theorem d0_9 : De code 9 (.aload 4) 2 11 := ⟨by decide +kernel, rfl⟩
theorem d0_11 : De code 11 (.invokestatic 18) 3 14 := ⟨by decide +kernel, rfl⟩
theorem d0_14 : De code 14 (.astore 5) 2 16 := ⟨by decide +kernel, rfl⟩
theorem d0_16 : De code 16 (.aload 5) 2 18 := ⟨by decide +kernel, rfl⟩
theorem d0_18 : De code 18 (.invokevirtual 24) 3 21 := ⟨by decide +kernel, rfl⟩
theorem d0_21 : De code 21 (.astore 6) 2 23 := ⟨by decide +kernel, rfl⟩
theorem d0_23 : De code 23 (.aload 6) 2 25 := ⟨by decide +kernel, rfl⟩
theorem d0_25 : De code 25 (.invokeinterface 28 1) 5 30 := ⟨by decide +kernel, rfl⟩
theorem d0_30 : De code 30 (.iconst 1) 1 31 := ⟨by decide +kernel, rfl⟩
theorem d0_31 : DeJ code 31 (.if_icmp .eq) 34 36 := ⟨5, by decide +kernel, rfl, by decide, by decide⟩
theorem d0_36 : De code 36 (.aload 6) 2 38 := ⟨by decide +kernel, rfl⟩
theorem d0_38 : De code 38 (.iconst 0) 1 39 := ⟨by decide +kernel, rfl⟩
theorem d0_39 : De code 39 (.invokeinterface 34 2) 5 44 := ⟨by decide +kernel, rfl⟩
theorem d0_44 : De code 44 (.checkcast 38) 3 47 := ⟨by decide +kernel, rfl⟩
theorem d0_47 : De code 47 (.astore 7) 2 49 := ⟨by decide +kernel, rfl⟩
theorem d0_49 : De code 49 (.aload 7) 2 51 := ⟨by decide +kernel, rfl⟩
theorem d0_51 : De code 51 (.invokevirtual 40) 3 54 := ⟨by decide +kernel, rfl⟩
theorem d0_54 : De code 54 (.astore 8) 2 56 := ⟨by decide +kernel, rfl⟩
theorem d0_56 : De code 56 (.aload 8) 2 58 := ⟨by decide +kernel, rfl⟩
theorem d0_58 : De code 58 (.aload 4) 2 60 := ⟨by decide +kernel, rfl⟩
theorem d0_60 : De code 60 (.invokevirtual 44) 3 63 := ⟨by decide +kernel, rfl⟩
theorem d0_63 : DeJ code 63 (.ifCond .eq) 66 89 := ⟨26, by decide +kernel, rfl, by decide, by decide⟩
theorem d0_66 : De code 66 (.aload 8) 2 68 := ⟨by decide +kernel, rfl⟩
theorem d0_68 : De code 68 (.invokevirtual 48) 3 71 := ⟨by decide +kernel, rfl⟩
theorem d0_71 : De code 71 (.iload_n 3) 1 72 := ⟨by decide +kernel, rfl⟩
theorem d0_72 : De code 72 (.iconst 3) 1 73 := ⟨by decide +kernel, rfl⟩
theorem d0_73 : De code 73 (.iand) 1 74 := ⟨by decide +kernel, rfl⟩
theorem d0_74 : DeJ code 74 (.if_icmp .ne) 77 89 := ⟨15, by decide +kernel, rfl, by decide, by decide⟩
theorem d0_77 : De code 77 (.aload 7) 2 79 := ⟨by decide +kernel, rfl⟩
theorem d0_79 : De code 79 (.invokevirtual 51) 3 82 := ⟨by decide +kernel, rfl⟩
theorem d0_82 : DeJ code 82 (.ifCond .ne) 85 89 := ⟨7, by decide +kernel, rfl, by decide, by decide⟩
theorem d0_85 : De code 85 (.iconst 1) 1 86 := ⟨by decide +kernel, rfl⟩
theorem d0_86 : DeJ code 86 .goto 89 90 := ⟨4, by decide +kernel, rfl, by decide, by decide⟩
theorem d0_90 : De code 90 (.ireturn) 1 91 := ⟨by decide +kernel, rfl⟩
theorem d1_0 : De method_2_code 0 (.iload_n 0) 1 1 := ⟨by decide +kernel, rfl⟩
theorem d1_1 : De method_2_code 1 (.sipush 255) 3 4 := ⟨by decide +kernel, rfl⟩
theorem d1_4 : De method_2_code 4 (.iand) 1 5 := ⟨by decide +kernel, rfl⟩
theorem d1_5 : De method_2_code 5 (.i2c) 1 6 := ⟨by decide +kernel, rfl⟩
theorem d1_6 : De method_2_code 6 (.istore 4) 2 8 := ⟨by decide +kernel, rfl⟩
theorem d1_8 : De method_2_code 8 (.iload_n 1) 1 9 := ⟨by decide +kernel, rfl⟩
theorem d1_9 : De method_2_code 9 (.sipush 255) 3 12 := ⟨by decide +kernel, rfl⟩
theorem d1_12 : De method_2_code 12 (.iand) 1 13 := ⟨by decide +kernel, rfl⟩
theorem d1_13 : De method_2_code 13 (.i2c) 1 14 := ⟨by decide +kernel, rfl⟩
theorem d1_14 : De method_2_code 14 (.istore 5) 2 16 := ⟨by decide +kernel, rfl⟩
theorem d1_16 : De method_2_code 16 (.iload_n 2) 1 17 := ⟨by decide +kernel, rfl⟩
theorem d1_17 : De method_2_code 17 (.sipush 255) 3 20 := ⟨by decide +kernel, rfl⟩
theorem d1_20 : De method_2_code 20 (.iand) 1 21 := ⟨by decide +kernel, rfl⟩
theorem d1_21 : De method_2_code 21 (.i2c) 1 22 := ⟨by decide +kernel, rfl⟩
theorem d1_22 : De method_2_code 22 (.istore 6) 2 24 := ⟨by decide +kernel, rfl⟩
theorem d1_24 : De method_2_code 24 (.iload_n 3) 1 25 := ⟨by decide +kernel, rfl⟩
theorem d1_25 : De method_2_code 25 (.iconst 3) 1 26 := ⟨by decide +kernel, rfl⟩
theorem d1_26 : De method_2_code 26 (.iand) 1 27 := ⟨by decide +kernel, rfl⟩
theorem d1_27 : De method_2_code 27 (.istore 7) 2 29 := ⟨by decide +kernel, rfl⟩
theorem d1_29 : De method_2_code 29 (.iload 7) 2 31 := ⟨by decide +kernel, rfl⟩
theorem d1_31 : DeJ method_2_code 31 (.ifCond .ne) 34 45 := ⟨14, by decide +kernel, rfl, by decide, by decide⟩
theorem d1_34 : De method_2_code 34 (.new 7) 3 37 := ⟨by decide +kernel, rfl⟩
theorem d1_37 : De method_2_code 37 (.dup) 1 38 := ⟨by decide +kernel, rfl⟩
theorem d1_38 : De method_2_code 38 (.iconst 0) 1 39 := ⟨by decide +kernel, rfl⟩
theorem d1_39 : De method_2_code 39 (.newarray .char) 2 41 := ⟨by decide +kernel, rfl⟩
theorem d1_41 : De method_2_code 41 (.invokespecial 9) 3 44 := ⟨by decide +kernel, rfl⟩
theorem d1_44 : De method_2_code 44 (.areturn) 1 45 := ⟨by decide +kernel, rfl⟩
theorem d1_45 : De method_2_code 45 (.iload 7) 2 47 := ⟨by decide +kernel, rfl⟩
theorem d1_47 : De method_2_code 47 (.iconst 1) 1 48 := ⟨by decide +kernel, rfl⟩
theorem d1_48 : DeJ method_2_code 48 (.if_icmp .ne) 51 67 := ⟨19, by decide +kernel, rfl, by decide, by decide⟩
theorem d1_51 : De method_2_code 51 (.new 7) 3 54 := ⟨by decide +kernel, rfl⟩
theorem d1_54 : De method_2_code 54 (.dup) 1 55 := ⟨by decide +kernel, rfl⟩
theorem d1_55 : De method_2_code 55 (.iconst 1) 1 56 := ⟨by decide +kernel, rfl⟩
theorem d1_56 : De method_2_code 56 (.newarray .char) 2 58 := ⟨by decide +kernel, rfl⟩
theorem d1_58 : De method_2_code 58 (.dup) 1 59 := ⟨by decide +kernel, rfl⟩
theorem d1_59 : De method_2_code 59 (.iconst 0) 1 60 := ⟨by decide +kernel, rfl⟩
theorem d1_60 : De method_2_code 60 (.iload 4) 2 62 := ⟨by decide +kernel, rfl⟩
theorem d1_62 : De method_2_code 62 (.castore) 1 63 := ⟨by decide +kernel, rfl⟩
theorem d1_63 : De method_2_code 63 (.invokespecial 9) 3 66 := ⟨by decide +kernel, rfl⟩
theorem d1_66 : De method_2_code 66 (.areturn) 1 67 := ⟨by decide +kernel, rfl⟩
theorem d1_67 : De method_2_code 67 (.iload 7) 2 69 := ⟨by decide +kernel, rfl⟩
theorem d1_69 : De method_2_code 69 (.iconst 2) 1 70 := ⟨by decide +kernel, rfl⟩
theorem d1_70 : DeJ method_2_code 70 (.if_icmp .ne) 73 94 := ⟨24, by decide +kernel, rfl, by decide, by decide⟩
theorem d1_73 : De method_2_code 73 (.new 7) 3 76 := ⟨by decide +kernel, rfl⟩
theorem d1_76 : De method_2_code 76 (.dup) 1 77 := ⟨by decide +kernel, rfl⟩
theorem d1_77 : De method_2_code 77 (.iconst 2) 1 78 := ⟨by decide +kernel, rfl⟩
theorem d1_78 : De method_2_code 78 (.newarray .char) 2 80 := ⟨by decide +kernel, rfl⟩
theorem d1_80 : De method_2_code 80 (.dup) 1 81 := ⟨by decide +kernel, rfl⟩
theorem d1_81 : De method_2_code 81 (.iconst 0) 1 82 := ⟨by decide +kernel, rfl⟩
theorem d1_82 : De method_2_code 82 (.iload 4) 2 84 := ⟨by decide +kernel, rfl⟩
theorem d1_84 : De method_2_code 84 (.castore) 1 85 := ⟨by decide +kernel, rfl⟩
theorem d1_85 : De method_2_code 85 (.dup) 1 86 := ⟨by decide +kernel, rfl⟩
theorem d1_86 : De method_2_code 86 (.iconst 1) 1 87 := ⟨by decide +kernel, rfl⟩
theorem d1_87 : De method_2_code 87 (.iload 5) 2 89 := ⟨by decide +kernel, rfl⟩
theorem d1_89 : De method_2_code 89 (.castore) 1 90 := ⟨by decide +kernel, rfl⟩
theorem d1_90 : De method_2_code 90 (.invokespecial 9) 3 93 := ⟨by decide +kernel, rfl⟩
theorem d1_93 : De method_2_code 93 (.areturn) 1 94 := ⟨by decide +kernel, rfl⟩
theorem d1_94 : De method_2_code 94 (.new 7) 3 97 := ⟨by decide +kernel, rfl⟩
theorem d1_97 : De method_2_code 97 (.dup) 1 98 := ⟨by decide +kernel, rfl⟩
theorem d1_98 : De method_2_code 98 (.iconst 3) 1 99 := ⟨by decide +kernel, rfl⟩
theorem d1_99 : De method_2_code 99 (.newarray .char) 2 101 := ⟨by decide +kernel, rfl⟩
theorem d1_101 : De method_2_code 101 (.dup) 1 102 := ⟨by decide +kernel, rfl⟩
theorem d1_102 : De method_2_code 102 (.iconst 0) 1 103 := ⟨by decide +kernel, rfl⟩
theorem d1_103 : De method_2_code 103 (.iload 4) 2 105 := ⟨by decide +kernel, rfl⟩
theorem d1_105 : De method_2_code 105 (.castore) 1 106 := ⟨by decide +kernel, rfl⟩
theorem d1_106 : De method_2_code 106 (.dup) 1 107 := ⟨by decide +kernel, rfl⟩
theorem d1_107 : De method_2_code 107 (.iconst 1) 1 108 := ⟨by decide +kernel, rfl⟩
theorem d1_108 : De method_2_code 108 (.iload 5) 2 110 := ⟨by decide +kernel, rfl⟩
theorem d1_110 : De method_2_code 110 (.castore) 1 111 := ⟨by decide +kernel, rfl⟩
theorem d1_111 : De method_2_code 111 (.dup) 1 112 := ⟨by decide +kernel, rfl⟩
theorem d1_112 : De method_2_code 112 (.iconst 2) 1 113 := ⟨by decide +kernel, rfl⟩
theorem d1_113 : De method_2_code 113 (.iload 6) 2 115 := ⟨by decide +kernel, rfl⟩
theorem d1_115 : De method_2_code 115 (.castore) 1 116 := ⟨by decide +kernel, rfl⟩
theorem d1_116 : De method_2_code 116 (.invokespecial 9) 3 119 := ⟨by decide +kernel, rfl⟩
theorem d1_119 : De method_2_code 119 (.areturn) 1 120 := ⟨by decide +kernel, rfl⟩
theorem d2_0 : De jdk_42_method_3_code 0 (.aload_n 0) 1 1 := ⟨by decide +kernel, rfl⟩
theorem d2_1 : De jdk_42_method_3_code 1 (.aload_n 1) 1 2 := ⟨by decide +kernel, rfl⟩
theorem d2_2 : De jdk_42_method_3_code 2 (.iconst 0) 1 3 := ⟨by decide +kernel, rfl⟩
theorem d2_3 : De jdk_42_method_3_code 3 (.aload_n 1) 1 4 := ⟨by decide +kernel, rfl⟩
theorem d2_4 : De jdk_42_method_3_code 4 (.arraylength) 1 5 := ⟨by decide +kernel, rfl⟩
theorem d2_5 : De jdk_42_method_3_code 5 (.aconst_null) 1 6 := ⟨by decide +kernel, rfl⟩
theorem d2_6 : De jdk_42_method_3_code 6 (.invokespecial 27) 3 9 := ⟨by decide +kernel, rfl⟩
theorem d2_9 : De jdk_42_method_3_code 9 (.return_) 1 10 := ⟨by decide +kernel, rfl⟩
theorem d3_0 : De jdk_42_method_149_code 0 (.aload_n 0) 1 1 := ⟨by decide +kernel, rfl⟩
theorem d3_1 : De jdk_42_method_149_code 1 (.invokespecial 1) 3 4 := ⟨by decide +kernel, rfl⟩
theorem d3_4 : De jdk_42_method_149_code 4 (.iload_n 3) 1 5 := ⟨by decide +kernel, rfl⟩
theorem d3_5 : DeJ jdk_42_method_149_code 5 (.ifCond .ne) 8 27 := ⟨22, by decide +kernel, rfl, by decide, by decide⟩
theorem d3_8 : De jdk_42_method_149_code 8 (.aload_n 0) 1 9 := ⟨by decide +kernel, rfl⟩
theorem d3_9 : De jdk_42_method_149_code 9 (.ldc 7) 2 11 := ⟨by decide +kernel, rfl⟩
theorem d3_11 : De jdk_42_method_149_code 11 (.getfield 9) 3 14 := ⟨by decide +kernel, rfl⟩
theorem d3_14 : De jdk_42_method_149_code 14 (.putfield 9) 3 17 := ⟨by decide +kernel, rfl⟩
theorem d3_17 : De jdk_42_method_149_code 17 (.aload_n 0) 1 18 := ⟨by decide +kernel, rfl⟩
theorem d3_18 : De jdk_42_method_149_code 18 (.ldc 7) 2 20 := ⟨by decide +kernel, rfl⟩
theorem d3_20 : De jdk_42_method_149_code 20 (.getfield 15) 3 23 := ⟨by decide +kernel, rfl⟩
theorem d3_23 : De jdk_42_method_149_code 23 (.putfield 15) 3 26 := ⟨by decide +kernel, rfl⟩
theorem d3_26 : De jdk_42_method_149_code 26 (.return_) 1 27 := ⟨by decide +kernel, rfl⟩
theorem d3_27 : De jdk_42_method_149_code 27 (.getstatic 38) 3 30 := ⟨by decide +kernel, rfl⟩
theorem d3_30 : DeJ jdk_42_method_149_code 30 (.ifCond .eq) 33 58 := ⟨28, by decide +kernel, rfl, by decide, by decide⟩
theorem d3_33 : De jdk_42_method_149_code 33 (.aload_n 1) 1 34 := ⟨by decide +kernel, rfl⟩
theorem d3_34 : De jdk_42_method_149_code 34 (.iload_n 2) 1 35 := ⟨by decide +kernel, rfl⟩
theorem d3_35 : De jdk_42_method_149_code 35 (.iload_n 3) 1 36 := ⟨by decide +kernel, rfl⟩
theorem d3_36 : De jdk_42_method_149_code 36 (.invokestatic 177) 3 39 := ⟨by decide +kernel, rfl⟩
theorem d3_39 : De jdk_42_method_149_code 39 (.astore 5) 2 41 := ⟨by decide +kernel, rfl⟩
theorem d3_41 : De jdk_42_method_149_code 41 (.aload_n 0) 1 42 := ⟨by decide +kernel, rfl⟩
theorem d3_42 : De jdk_42_method_149_code 42 (.aload 5) 2 44 := ⟨by decide +kernel, rfl⟩
theorem d3_44 : De jdk_42_method_149_code 44 (.iload_n 3) 1 45 := ⟨by decide +kernel, rfl⟩
theorem d3_45 : De jdk_42_method_149_code 45 (.invokestatic 47) 3 48 := ⟨by decide +kernel, rfl⟩
theorem d3_48 : De jdk_42_method_149_code 48 (.putfield 15) 3 51 := ⟨by decide +kernel, rfl⟩
theorem d3_51 : De jdk_42_method_149_code 51 (.aload_n 0) 1 52 := ⟨by decide +kernel, rfl⟩
theorem d3_52 : De jdk_42_method_149_code 52 (.aload 5) 2 54 := ⟨by decide +kernel, rfl⟩
theorem d3_54 : De jdk_42_method_149_code 54 (.putfield 9) 3 57 := ⟨by decide +kernel, rfl⟩
theorem d3_57 : De jdk_42_method_149_code 57 (.return_) 1 58 := ⟨by decide +kernel, rfl⟩
theorem d5_0 : De jdk_52_method_16_code 0 (.iload_n 2) 1 1 := ⟨by decide +kernel, rfl⟩
theorem d5_1 : De jdk_52_method_16_code 1 (.newarray .byte) 2 3 := ⟨by decide +kernel, rfl⟩
theorem d5_3 : De jdk_52_method_16_code 3 (.astore_n 3) 1 4 := ⟨by decide +kernel, rfl⟩
theorem d5_4 : De jdk_52_method_16_code 4 (.aload_n 0) 1 5 := ⟨by decide +kernel, rfl⟩
theorem d5_5 : De jdk_52_method_16_code 5 (.iload_n 1) 1 6 := ⟨by decide +kernel, rfl⟩
theorem d5_6 : De jdk_52_method_16_code 6 (.aload_n 3) 1 7 := ⟨by decide +kernel, rfl⟩
theorem d5_7 : De jdk_52_method_16_code 7 (.iconst 0) 1 8 := ⟨by decide +kernel, rfl⟩
theorem d5_8 : De jdk_52_method_16_code 8 (.iload_n 2) 1 9 := ⟨by decide +kernel, rfl⟩
theorem d5_9 : De jdk_52_method_16_code 9 (.invokestatic 115) 3 12 := ⟨by decide +kernel, rfl⟩
theorem d5_12 : De jdk_52_method_16_code 12 (.istore 4) 2 14 := ⟨by decide +kernel, rfl⟩
theorem d5_14 : De jdk_52_method_16_code 14 (.iload 4) 2 16 := ⟨by decide +kernel, rfl⟩
theorem d5_16 : De jdk_52_method_16_code 16 (.iload_n 2) 1 17 := ⟨by decide +kernel, rfl⟩
theorem d5_17 : DeJ jdk_52_method_16_code 17 (.if_icmp .eq) 20 57 := ⟨40, by decide +kernel, rfl, by decide, by decide⟩
theorem d5_57 : De jdk_52_method_16_code 57 (.aload_n 3) 1 58 := ⟨by decide +kernel, rfl⟩
theorem d5_58 : De jdk_52_method_16_code 58 (.areturn) 1 59 := ⟨by decide +kernel, rfl⟩
theorem d6_0 : De jdk_52_method_21_code 0 (.iconst 0) 1 1 := ⟨by decide +kernel, rfl⟩
theorem d6_1 : De jdk_52_method_21_code 1 (.istore 5) 2 3 := ⟨by decide +kernel, rfl⟩
theorem d6_3 : De jdk_52_method_21_code 3 (.iload 5) 2 5 := ⟨by decide +kernel, rfl⟩
theorem d6_5 : De jdk_52_method_21_code 5 (.iload 4) 2 7 := ⟨by decide +kernel, rfl⟩
theorem d6_7 : DeJ jdk_52_method_21_code 7 (.if_icmp .ge) 10 44 := ⟨37, by decide +kernel, rfl, by decide, by decide⟩
theorem d6_10 : De jdk_52_method_21_code 10 (.aload_n 0) 1 11 := ⟨by decide +kernel, rfl⟩
theorem d6_11 : De jdk_52_method_21_code 11 (.iload_n 1) 1 12 := ⟨by decide +kernel, rfl⟩
theorem d6_12 : De jdk_52_method_21_code 12 (.caload) 1 13 := ⟨by decide +kernel, rfl⟩
theorem d6_13 : De jdk_52_method_21_code 13 (.istore 6) 2 15 := ⟨by decide +kernel, rfl⟩
theorem d6_15 : De jdk_52_method_21_code 15 (.iload 6) 2 17 := ⟨by decide +kernel, rfl⟩
theorem d6_17 : De jdk_52_method_21_code 17 (.sipush 255) 3 20 := ⟨by decide +kernel, rfl⟩
theorem d6_20 : DeJ jdk_52_method_21_code 20 (.if_icmp .le) 23 26 := ⟨6, by decide +kernel, rfl, by decide, by decide⟩
theorem d6_26 : De jdk_52_method_21_code 26 (.aload_n 2) 1 27 := ⟨by decide +kernel, rfl⟩
theorem d6_27 : De jdk_52_method_21_code 27 (.iload_n 3) 1 28 := ⟨by decide +kernel, rfl⟩
theorem d6_28 : De jdk_52_method_21_code 28 (.iload 6) 2 30 := ⟨by decide +kernel, rfl⟩
theorem d6_30 : De jdk_52_method_21_code 30 (.i2b) 1 31 := ⟨by decide +kernel, rfl⟩
theorem d6_31 : De jdk_52_method_21_code 31 (.bastore) 1 32 := ⟨by decide +kernel, rfl⟩
theorem d6_32 : De jdk_52_method_21_code 32 (.iinc 1 1) 3 35 := ⟨by decide +kernel, rfl⟩
theorem d6_35 : De jdk_52_method_21_code 35 (.iinc 3 1) 3 38 := ⟨by decide +kernel, rfl⟩
theorem d6_38 : De jdk_52_method_21_code 38 (.iinc 5 1) 3 41 := ⟨by decide +kernel, rfl⟩
theorem d6_41 : DeJ jdk_52_method_21_code 41 .goto 44 3 := ⟨(-38), by decide +kernel, rfl, by decide, by decide⟩
theorem d6_44 : De jdk_52_method_21_code 44 (.iload 4) 2 46 := ⟨by decide +kernel, rfl⟩
theorem d6_46 : De jdk_52_method_21_code 46 (.ireturn) 1 47 := ⟨by decide +kernel, rfl⟩
theorem d7_0 : De jdk_52_method_15_code 0 (.iload_n 1) 1 1 := ⟨by decide +kernel, rfl⟩
theorem d7_1 : De jdk_52_method_15_code 1 (.aload_n 0) 1 2 := ⟨by decide +kernel, rfl⟩
theorem d7_2 : De jdk_52_method_15_code 2 (.arraylength) 1 3 := ⟨by decide +kernel, rfl⟩
theorem d7_3 : De jdk_52_method_15_code 3 (.isub) 1 4 := ⟨by decide +kernel, rfl⟩
theorem d7_4 : De jdk_52_method_15_code 4 (.bipush 31) 2 6 := ⟨by decide +kernel, rfl⟩
theorem d7_6 : De jdk_52_method_15_code 6 (.iushr) 1 7 := ⟨by decide +kernel, rfl⟩
theorem d7_7 : De jdk_52_method_15_code 7 (.i2b) 1 8 := ⟨by decide +kernel, rfl⟩
theorem d7_8 : De jdk_52_method_15_code 8 (.ireturn) 1 9 := ⟨by decide +kernel, rfl⟩
theorem d8_0 : De prog_61_method_2_code 0 (.new 14) 3 3 := ⟨by decide +kernel, rfl⟩
theorem d8_3 : De prog_61_method_2_code 3 (.dup) 1 4 := ⟨by decide +kernel, rfl⟩
theorem d8_4 : De prog_61_method_2_code 4 (.new 19) 3 7 := ⟨by decide +kernel, rfl⟩
theorem d8_7 : De prog_61_method_2_code 7 (.dup) 1 8 := ⟨by decide +kernel, rfl⟩
theorem d8_8 : De prog_61_method_2_code 8 (.aload_n 0) 1 9 := ⟨by decide +kernel, rfl⟩
theorem d8_9 : De prog_61_method_2_code 9 (.iconst 0) 1 10 := ⟨by decide +kernel, rfl⟩
theorem d8_10 : De prog_61_method_2_code 10 (.invokespecial 21) 3 13 := ⟨by decide +kernel, rfl⟩
theorem d8_13 : De prog_61_method_2_code 13 (.invokestatic 24) 3 16 := ⟨by decide +kernel, rfl⟩
theorem d8_16 : De prog_61_method_2_code 16 (.invokespecial 28) 3 19 := ⟨by decide +kernel, rfl⟩
theorem d8_19 : De prog_61_method_2_code 19 (.areturn) 1 20 := ⟨by decide +kernel, rfl⟩
theorem d9_0 : De prog_62_method_1_code 0 (.aload_n 0) 1 1 := ⟨by decide +kernel, rfl⟩
theorem d9_1 : De prog_62_method_1_code 1 (.invokespecial 1) 3 4 := ⟨by decide +kernel, rfl⟩
theorem d9_4 : De prog_62_method_1_code 4 (.aload_n 1) 1 5 := ⟨by decide +kernel, rfl⟩
theorem d9_5 : De prog_62_method_1_code 5 (.ldc 7) 2 7 := ⟨by decide +kernel, rfl⟩
theorem d9_7 : De prog_62_method_1_code 7 (.invokestatic 9) 3 10 := ⟨by decide +kernel, rfl⟩
theorem d9_10 : De prog_62_method_1_code 10 (.pop) 1 11 := ⟨by decide +kernel, rfl⟩
theorem d9_11 : De prog_62_method_1_code 11 (.aload_n 0) 1 12 := ⟨by decide +kernel, rfl⟩
theorem d9_12 : De prog_62_method_1_code 12 (.aload_n 1) 1 13 := ⟨by decide +kernel, rfl⟩
theorem d9_13 : De prog_62_method_1_code 13 (.putfield 15) 3 16 := ⟨by decide +kernel, rfl⟩
theorem d9_16 : De prog_62_method_1_code 16 (.aload_n 0) 1 17 := ⟨by decide +kernel, rfl⟩
theorem d9_17 : De prog_62_method_1_code 17 (.iload_n 2) 1 18 := ⟨by decide +kernel, rfl⟩
theorem d9_18 : De prog_62_method_1_code 18 (.putfield 20) 3 21 := ⟨by decide +kernel, rfl⟩
theorem d9_21 : De prog_62_method_1_code 21 (.return_) 1 22 := ⟨by decide +kernel, rfl⟩
theorem d10_0 : De jdk_30_method_1_code 0 (.aload_n 0) 1 1 := ⟨by decide +kernel, rfl⟩
theorem d10_1 : De jdk_30_method_1_code 1 (.invokespecial 1) 3 4 := ⟨by decide +kernel, rfl⟩
theorem d10_4 : De jdk_30_method_1_code 4 (.return_) 1 5 := ⟨by decide +kernel, rfl⟩
theorem d11_0 : De jdk_31_method_11_code 0 (.aload_n 0) 1 1 := ⟨by decide +kernel, rfl⟩
theorem d11_1 : DeJ jdk_31_method_11_code 1 .ifnonnull 4 13 := ⟨12, by decide +kernel, rfl, by decide, by decide⟩
theorem d11_13 : De jdk_31_method_11_code 13 (.aload_n 0) 1 14 := ⟨by decide +kernel, rfl⟩
theorem d11_14 : De jdk_31_method_11_code 14 (.areturn) 1 15 := ⟨by decide +kernel, rfl⟩
theorem d12_0 : De jdk_40_method_37_code 0 (.new 96) 3 3 := ⟨by decide +kernel, rfl⟩
theorem d12_3 : De jdk_40_method_37_code 3 (.dup) 1 4 := ⟨by decide +kernel, rfl⟩
theorem d12_4 : De jdk_40_method_37_code 4 (.aload_n 0) 1 5 := ⟨by decide +kernel, rfl⟩
theorem d12_5 : De jdk_40_method_37_code 5 (.invokespecial 98) 3 8 := ⟨by decide +kernel, rfl⟩
theorem d12_8 : De jdk_40_method_37_code 8 (.areturn) 1 9 := ⟨by decide +kernel, rfl⟩
theorem d13_0 : De jdk_44_method_1_code 0 (.aload_n 0) 1 1 := ⟨by decide +kernel, rfl⟩
theorem d13_1 : De jdk_44_method_1_code 1 (.invokespecial 1) 3 4 := ⟨by decide +kernel, rfl⟩
theorem d13_4 : De jdk_44_method_1_code 4 (.aload_n 0) 1 5 := ⟨by decide +kernel, rfl⟩
theorem d13_5 : De jdk_44_method_1_code 5 (.aload_n 1) 1 6 := ⟨by decide +kernel, rfl⟩
theorem d13_6 : De jdk_44_method_1_code 6 (.invokestatic 7) 3 9 := ⟨by decide +kernel, rfl⟩
theorem d13_9 : De jdk_44_method_1_code 9 (.putfield 13) 3 12 := ⟨by decide +kernel, rfl⟩
theorem d13_12 : De jdk_44_method_1_code 12 (.aload_n 0) 1 13 := ⟨by decide +kernel, rfl⟩
theorem d13_13 : De jdk_44_method_1_code 13 (.getstatic 19) 3 16 := ⟨by decide +kernel, rfl⟩
theorem d13_16 : De jdk_44_method_1_code 16 (.putfield 24) 3 19 := ⟨by decide +kernel, rfl⟩
theorem d13_19 : De jdk_44_method_1_code 19 (.return_) 1 20 := ⟨by decide +kernel, rfl⟩
theorem d14_0 : De jdk_46_method_1_code 0 (.aload_n 0) 1 1 := ⟨by decide +kernel, rfl⟩
theorem d14_1 : De jdk_46_method_1_code 1 (.invokespecial 1) 3 4 := ⟨by decide +kernel, rfl⟩
theorem d14_4 : De jdk_46_method_1_code 4 (.return_) 1 5 := ⟨by decide +kernel, rfl⟩
theorem d15_0 : De jdk_47_method_1_code 0 (.aload_n 0) 1 1 := ⟨by decide +kernel, rfl⟩
theorem d15_1 : De jdk_47_method_1_code 1 (.invokespecial 1) 3 4 := ⟨by decide +kernel, rfl⟩
theorem d15_4 : De jdk_47_method_1_code 4 (.return_) 1 5 := ⟨by decide +kernel, rfl⟩
theorem d16_0 : De jdk_22_method_1_code 0 (.aload_n 0) 1 1 := ⟨by decide +kernel, rfl⟩
theorem d16_1 : De jdk_22_method_1_code 1 (.invokespecial 1) 3 4 := ⟨by decide +kernel, rfl⟩
theorem d16_4 : De jdk_22_method_1_code 4 (.return_) 1 5 := ⟨by decide +kernel, rfl⟩
theorem d17_0 : De jdk_31_method_10_code 0 (.aload_n 0) 1 1 := ⟨by decide +kernel, rfl⟩
theorem d17_1 : DeJ jdk_31_method_10_code 1 .ifnonnull 4 12 := ⟨11, by decide +kernel, rfl, by decide, by decide⟩
theorem d17_12 : De jdk_31_method_10_code 12 (.aload_n 0) 1 13 := ⟨by decide +kernel, rfl⟩
theorem d17_13 : De jdk_31_method_10_code 13 (.areturn) 1 14 := ⟨by decide +kernel, rfl⟩
theorem d18_0 : De prog_61_method_1_code 0 (.aload_n 0) 1 1 := ⟨by decide +kernel, rfl⟩
theorem d18_1 : De prog_61_method_1_code 1 (.invokespecial 1) 3 4 := ⟨by decide +kernel, rfl⟩
theorem d18_4 : De prog_61_method_1_code 4 (.aload_n 0) 1 5 := ⟨by decide +kernel, rfl⟩
theorem d18_5 : De prog_61_method_1_code 5 (.aload_n 1) 1 6 := ⟨by decide +kernel, rfl⟩
theorem d18_6 : De prog_61_method_1_code 6 (.invokestatic 7) 3 9 := ⟨by decide +kernel, rfl⟩
theorem d18_9 : De prog_61_method_1_code 9 (.putfield 13) 3 12 := ⟨by decide +kernel, rfl⟩
theorem d18_12 : De prog_61_method_1_code 12 (.return_) 1 13 := ⟨by decide +kernel, rfl⟩
theorem d19_0 : De jdk_40_method_48_code 0 (.aload_n 0) 1 1 := ⟨by decide +kernel, rfl⟩
theorem d19_1 : De jdk_40_method_48_code 1 (.invokestatic 112) 3 4 := ⟨by decide +kernel, rfl⟩
theorem d19_4 : De jdk_40_method_48_code 4 (.areturn) 1 5 := ⟨by decide +kernel, rfl⟩
theorem d20_0 : De jdk_56_method_3_code 0 (.aload_n 0) 1 1 := ⟨by decide +kernel, rfl⟩
theorem d20_1 : De jdk_56_method_3_code 1 (.instanceof 10) 3 4 := ⟨by decide +kernel, rfl⟩
theorem d20_4 : DeJ jdk_56_method_3_code 4 (.ifCond .ne) 7 26 := ⟨22, by decide +kernel, rfl, by decide, by decide⟩
theorem d20_26 : De jdk_56_method_3_code 26 (.aload_n 0) 1 27 := ⟨by decide +kernel, rfl⟩
theorem d20_27 : De jdk_56_method_3_code 27 (.checkcast 18) 3 30 := ⟨by decide +kernel, rfl⟩
theorem d20_30 : De jdk_56_method_3_code 30 (.areturn) 1 31 := ⟨by decide +kernel, rfl⟩
theorem d21_0 : De prog_61_method_6_code 0 (.aload_n 0) 1 1 := ⟨by decide +kernel, rfl⟩
theorem d21_1 : De prog_61_method_6_code 1 (.getfield 13) 3 4 := ⟨by decide +kernel, rfl⟩
theorem d21_4 : De prog_61_method_6_code 4 (.areturn) 1 5 := ⟨by decide +kernel, rfl⟩
theorem d22_0 : De jdk_44_method_3_code 0 (.aload_n 0) 1 1 := ⟨by decide +kernel, rfl⟩
theorem d22_1 : De jdk_44_method_3_code 1 (.getfield 24) 3 4 := ⟨by decide +kernel, rfl⟩
theorem d22_4 : De jdk_44_method_3_code 4 (.getstatic 19) 3 7 := ⟨by decide +kernel, rfl⟩
theorem d22_7 : DeJ jdk_44_method_3_code 7 (.if_acmp .eq) 10 14 := ⟨7, by decide +kernel, rfl, by decide, by decide⟩
theorem d22_14 : De jdk_44_method_3_code 14 (.iconst 1) 1 15 := ⟨by decide +kernel, rfl⟩
theorem d22_15 : De jdk_44_method_3_code 15 (.ireturn) 1 16 := ⟨by decide +kernel, rfl⟩
theorem d23_0 : De jdk_44_method_5_code 0 (.iload_n 1) 1 1 := ⟨by decide +kernel, rfl⟩
theorem d23_1 : DeJ jdk_44_method_5_code 1 (.ifCond .ne) 4 9 := ⟨8, by decide +kernel, rfl, by decide, by decide⟩
theorem d23_4 : De jdk_44_method_5_code 4 (.aload_n 0) 1 5 := ⟨by decide +kernel, rfl⟩
theorem d23_5 : De jdk_44_method_5_code 5 (.getfield 13) 3 8 := ⟨by decide +kernel, rfl⟩
theorem d23_8 : De jdk_44_method_5_code 8 (.areturn) 1 9 := ⟨by decide +kernel, rfl⟩
theorem d24_0 : De prog_62_method_5_code 0 (.aload_n 0) 1 1 := ⟨by decide +kernel, rfl⟩
theorem d24_1 : De prog_62_method_5_code 1 (.getfield 15) 3 4 := ⟨by decide +kernel, rfl⟩
theorem d24_4 : De prog_62_method_5_code 4 (.areturn) 1 5 := ⟨by decide +kernel, rfl⟩
theorem d25_0 : De jdk_42_method_66_code 0 (.aload_n 0) 1 1 := ⟨by decide +kernel, rfl⟩
theorem d25_1 : De jdk_42_method_66_code 1 (.aload_n 1) 1 2 := ⟨by decide +kernel, rfl⟩
theorem d25_2 : DeJ jdk_42_method_66_code 2 (.if_acmp .ne) 5 7 := ⟨5, by decide +kernel, rfl, by decide, by decide⟩
theorem d25_5 : De jdk_42_method_66_code 5 (.iconst 1) 1 6 := ⟨by decide +kernel, rfl⟩
theorem d25_6 : De jdk_42_method_66_code 6 (.ireturn) 1 7 := ⟨by decide +kernel, rfl⟩
theorem d26_0 : De jdk_42_method_54_code 0 (.aload_n 0) 1 1 := ⟨by decide +kernel, rfl⟩
theorem d26_1 : De jdk_42_method_54_code 1 (.getfield 9) 3 4 := ⟨by decide +kernel, rfl⟩
theorem d26_4 : De jdk_42_method_54_code 4 (.arraylength) 1 5 := ⟨by decide +kernel, rfl⟩
theorem d26_5 : De jdk_42_method_54_code 5 (.aload_n 0) 1 6 := ⟨by decide +kernel, rfl⟩
theorem d26_6 : De jdk_42_method_54_code 6 (.invokevirtual 335) 3 9 := ⟨by decide +kernel, rfl⟩
theorem d26_9 : De jdk_42_method_54_code 9 (.ishr) 1 10 := ⟨by decide +kernel, rfl⟩
theorem d26_10 : De jdk_42_method_54_code 10 (.ireturn) 1 11 := ⟨by decide +kernel, rfl⟩
theorem d27_0 : De jdk_42_method_152_code 0 (.getstatic 38) 3 3 := ⟨by decide +kernel, rfl⟩
theorem d27_3 : DeJ jdk_42_method_152_code 3 (.ifCond .eq) 6 13 := ⟨10, by decide +kernel, rfl, by decide, by decide⟩
theorem d27_6 : De jdk_42_method_152_code 6 (.aload_n 0) 1 7 := ⟨by decide +kernel, rfl⟩
theorem d27_7 : De jdk_42_method_152_code 7 (.getfield 15) 3 10 := ⟨by decide +kernel, rfl⟩
theorem d27_10 : DeJ jdk_42_method_152_code 10 .goto 13 14 := ⟨4, by decide +kernel, rfl, by decide, by decide⟩
theorem d27_14 : De jdk_42_method_152_code 14 (.ireturn) 1 15 := ⟨by decide +kernel, rfl⟩
theorem d28_0 : De prog_62_method_6_code 0 (.aload_n 0) 1 1 := ⟨by decide +kernel, rfl⟩
theorem d28_1 : De prog_62_method_6_code 1 (.getfield 20) 3 4 := ⟨by decide +kernel, rfl⟩
theorem d28_4 : De prog_62_method_6_code 4 (.ireturn) 1 5 := ⟨by decide +kernel, rfl⟩
theorem pd_0 : parseMethodDescriptor "([CI[BII)I" = some ⟨[(.array .char), .int, (.array .byte), .int, .int], some .int⟩ := by decide +kernel
theorem pd_1 : parseMethodDescriptor "([CII)[B" = some ⟨[(.array .char), .int, .int], some (.array .byte)⟩ := by decide +kernel
theorem pd_2 : parseMethodDescriptor "([BI)B" = some ⟨[(.array .byte), .int], some .byte⟩ := by decide +kernel
theorem pd_3 : parseMethodDescriptor "([CIILjava/lang/Void;)V" = some ⟨[(.array .char), .int, .int, (.object "java/lang/Void")], none⟩ := by decide +kernel
theorem pd_4 : parseMethodDescriptor "()B" = some ⟨[], some .byte⟩ := by decide +kernel
theorem pd_5 : parseMethodDescriptor "([C)V" = some ⟨[(.array .char)], none⟩ := by decide +kernel
theorem pd_6 : parseMethodDescriptor "()V" = some ⟨[], none⟩ := by decide +kernel
theorem pd_7 : parseMethodDescriptor "(Ljava/lang/Object;Ljava/lang/String;)Ljava/lang/Object;" = some ⟨[(.object "java/lang/Object"), (.object "java/lang/String")], some (.object "java/lang/Object")⟩ := by decide +kernel
theorem pd_8 : parseMethodDescriptor "(Ljava/lang/Object;)Ljava/lang/Object;" = some ⟨[(.object "java/lang/Object")], some (.object "java/lang/Object")⟩ := by decide +kernel
theorem pd_9 : parseMethodDescriptor "(Ljava/lang/Object;)V" = some ⟨[(.object "java/lang/Object")], none⟩ := by decide +kernel
theorem pd_10 : parseMethodDescriptor "(Ljava/util/Collection;)Ljava/util/List;" = some ⟨[(.object "java/util/Collection")], some (.object "java/util/List")⟩ := by decide +kernel
theorem pd_11 : parseMethodDescriptor "(Ljava/lang/String;Z)V" = some ⟨[(.object "java/lang/String"), .boolean], none⟩ := by decide +kernel
theorem pd_12 : parseMethodDescriptor "(Ljava/lang/Object;)Ljava/util/List;" = some ⟨[(.object "java/lang/Object")], some (.object "java/util/List")⟩ := by decide +kernel
theorem pd_13 : parseMethodDescriptor "(Ljava/util/List;)V" = some ⟨[(.object "java/util/List")], none⟩ := by decide +kernel
theorem pd_14 : parseMethodDescriptor "(IIII)Ljava/lang/String;" = some ⟨[.int, .int, .int, .int], some (.object "java/lang/String")⟩ := by decide +kernel
theorem pd_15 : parseMethodDescriptor "(Ljava/lang/String;)Lcom/example/atomicity/atomicity/model/Ordering;" = some ⟨[(.object "java/lang/String")], some (.object "com/example/atomicity/atomicity/model/Ordering")⟩ := by decide +kernel
theorem pd_16 : parseMethodDescriptor "()Ljava/util/List;" = some ⟨[], some (.object "java/util/List")⟩ := by decide +kernel
theorem pd_17 : parseMethodDescriptor "()I" = some ⟨[], some .int⟩ := by decide +kernel
theorem pd_18 : parseMethodDescriptor "(I)Ljava/lang/Object;" = some ⟨[.int], some (.object "java/lang/Object")⟩ := by decide +kernel
theorem pd_19 : parseMethodDescriptor "()Ljava/lang/String;" = some ⟨[], some (.object "java/lang/String")⟩ := by decide +kernel
theorem pd_20 : parseMethodDescriptor "(Ljava/lang/Object;)Z" = some ⟨[(.object "java/lang/Object")], some .boolean⟩ := by decide +kernel
theorem pd_21 : parseMethodDescriptor "()Z" = some ⟨[], some .boolean⟩ := by decide +kernel
def W0 (Z : State) (a0 : Array Value) : Prop := (∀ d ∈ tables_1, d.before a0 Z = true) ∧ (∀ d ∈ jdkStatics_1, d.before a0 Z = true)
theorem w_0 {Z : State} {a0 : Array Value} (hW : W0 Z a0) : (Jvm.Cond.methodLink "com/example/atomicity/atomicity/model/OrderingAscendingPinLaw" (12 : Nat) ({ cls := "com/example/atomicity/atomicity/model/OrderingAscendingPinLaw", name := "drawn", desc := "(IIII)Ljava/lang/String;" } : Jvm.MethodName)).before a0 Z = true := hW.1 _ (List.mem_of_getElem? (i := 0) rfl)
theorem w_1 {Z : State} {a0 : Array Value} (hW : W0 Z a0) : (Jvm.Cond.static ({ cls := "com/example/atomicity/atomicity/model/OrderingAscendingPinLaw", name := "drawn", desc := "(IIII)Ljava/lang/String;" } : Jvm.MethodName)).before a0 Z = true := hW.1 _ (List.mem_of_getElem? (i := 1) rfl)
theorem w_2 {Z : State} {a0 : Array Value} (hW : W0 Z a0) : (Jvm.Cond.initialized "com/example/atomicity/atomicity/model/OrderingAscendingPinLaw").before a0 Z = true := hW.1 _ (List.mem_of_getElem? (i := 2) rfl)
theorem w_3 {Z : State} {a0 : Array Value} (hW : W0 Z a0) : (Jvm.Cond.code ({ cls := "com/example/atomicity/atomicity/model/OrderingAscendingPinLaw", name := "drawn", desc := "(IIII)Ljava/lang/String;" } : Jvm.MethodName) method_2_code (8 : Nat) (Option.some (Jvm.ClassFile.FieldType.object "java/lang/String"))).before a0 Z = true := hW.1 _ (List.mem_of_getElem? (i := 3) rfl)
theorem w_4 {Z : State} {a0 : Array Value} (hW : W0 Z a0) : (Jvm.Cond.classLink "com/example/atomicity/atomicity/model/OrderingAscendingPinLaw" (7 : Nat) "java/lang/String").before a0 Z = true := hW.1 _ (List.mem_of_getElem? (i := 4) rfl)
theorem w_5 {Z : State} {a0 : Array Value} (hW : W0 Z a0) : (Jvm.Cond.instantiable "java/lang/String" (4 : Nat)).before a0 Z = true := hW.1 _ (List.mem_of_getElem? (i := 5) rfl)
theorem w_6 {Z : State} {a0 : Array Value} (hW : W0 Z a0) : (Jvm.Cond.initialized "java/lang/String").before a0 Z = true := hW.1 _ (List.mem_of_getElem? (i := 6) rfl)
theorem w_7 {Z : State} {a0 : Array Value} (hW : W0 Z a0) : (Jvm.Cond.arrayClass Jvm.ClassFile.FieldType.char).before a0 Z = true := hW.1 _ (List.mem_of_getElem? (i := 7) rfl)
theorem w_8 {Z : State} {a0 : Array Value} (hW : W0 Z a0) : (Jvm.Cond.methodLink "com/example/atomicity/atomicity/model/OrderingAscendingPinLaw" (9 : Nat) ({ cls := "java/lang/String", name := "<init>", desc := "([C)V" } : Jvm.MethodName)).before a0 Z = true := hW.1 _ (List.mem_of_getElem? (i := 8) rfl)
theorem w_9 {Z : State} {a0 : Array Value} (hW : W0 Z a0) : (Jvm.Cond.instanceMethod ({ cls := "java/lang/String", name := "<init>", desc := "([C)V" } : Jvm.MethodName)).before a0 Z = true := hW.1 _ (List.mem_of_getElem? (i := 9) rfl)
theorem w_10 {Z : State} {a0 : Array Value} (hW : W0 Z a0) : (Jvm.Cond.code ({ cls := "java/lang/String", name := "<init>", desc := "([C)V" } : Jvm.MethodName) jdk_42_method_3_code (2 : Nat) (Option.none : Option Jvm.ClassFile.FieldType)).before a0 Z = true := hW.1 _ (List.mem_of_getElem? (i := 10) rfl)
theorem w_11 {Z : State} {a0 : Array Value} (hW : W0 Z a0) : (Jvm.Cond.methodLink "java/lang/String" (27 : Nat) ({ cls := "java/lang/String", name := "<init>", desc := "([CIILjava/lang/Void;)V" } : Jvm.MethodName)).before a0 Z = true := hW.1 _ (List.mem_of_getElem? (i := 11) rfl)
theorem w_12 {Z : State} {a0 : Array Value} (hW : W0 Z a0) : (Jvm.Cond.instanceMethod ({ cls := "java/lang/String", name := "<init>", desc := "([CIILjava/lang/Void;)V" } : Jvm.MethodName)).before a0 Z = true := hW.1 _ (List.mem_of_getElem? (i := 12) rfl)
theorem w_14 {Z : State} {a0 : Array Value} (hW : W0 Z a0) : (Jvm.Cond.code ({ cls := "java/lang/String", name := "<init>", desc := "([CIILjava/lang/Void;)V" } : Jvm.MethodName) jdk_42_method_149_code (6 : Nat) (Option.none : Option Jvm.ClassFile.FieldType)).before a0 Z = true := hW.1 _ (List.mem_of_getElem? (i := 14) rfl)
theorem w_15 {Z : State} {a0 : Array Value} (hW : W0 Z a0) : (Jvm.Cond.methodLink "java/lang/String" (1 : Nat) ({ cls := "java/lang/Object", name := "<init>", desc := "()V" } : Jvm.MethodName)).before a0 Z = true := hW.1 _ (List.mem_of_getElem? (i := 15) rfl)
theorem w_16 {Z : State} {a0 : Array Value} (hW : W0 Z a0) : (Jvm.Cond.instanceMethod ({ cls := "java/lang/Object", name := "<init>", desc := "()V" } : Jvm.MethodName)).before a0 Z = true := hW.1 _ (List.mem_of_getElem? (i := 16) rfl)
theorem w_17 {Z : State} {a0 : Array Value} (hW : W0 Z a0) : (Jvm.Cond.code ({ cls := "java/lang/Object", name := "<init>", desc := "()V" } : Jvm.MethodName) object_method_1_code (1 : Nat) (Option.none : Option Jvm.ClassFile.FieldType)).before a0 Z = true := hW.1 _ (List.mem_of_getElem? (i := 17) rfl)
theorem w_18 {Z : State} {a0 : Array Value} (hW : W0 Z a0) : (Jvm.Cond.fieldLink "java/lang/String" (38 : Nat) "java/lang/String" "COMPACT_STRINGS" "Z").before a0 Z = true := hW.1 _ (List.mem_of_getElem? (i := 18) rfl)
theorem w_19 {Z : State} {a0 : Array Value} (hW : W0 Z a0) : (Jvm.Cond.methodLink "java/lang/String" (177 : Nat) ({ cls := "java/lang/StringUTF16", name := "compress", desc := "([CII)[B" } : Jvm.MethodName)).before a0 Z = true := hW.1 _ (List.mem_of_getElem? (i := 19) rfl)
theorem w_20 {Z : State} {a0 : Array Value} (hW : W0 Z a0) : (Jvm.Cond.static ({ cls := "java/lang/StringUTF16", name := "compress", desc := "([CII)[B" } : Jvm.MethodName)).before a0 Z = true := hW.1 _ (List.mem_of_getElem? (i := 20) rfl)
theorem w_21 {Z : State} {a0 : Array Value} (hW : W0 Z a0) : (Jvm.Cond.initialized "java/lang/StringUTF16").before a0 Z = true := hW.1 _ (List.mem_of_getElem? (i := 21) rfl)
theorem w_22 {Z : State} {a0 : Array Value} (hW : W0 Z a0) : (Jvm.Cond.code ({ cls := "java/lang/StringUTF16", name := "compress", desc := "([CII)[B" } : Jvm.MethodName) jdk_52_method_16_code (6 : Nat) (Option.some (Jvm.ClassFile.FieldType.array Jvm.ClassFile.FieldType.byte))).before a0 Z = true := hW.1 _ (List.mem_of_getElem? (i := 22) rfl)
theorem w_23 {Z : State} {a0 : Array Value} (hW : W0 Z a0) : (Jvm.Cond.arrayClass Jvm.ClassFile.FieldType.byte).before a0 Z = true := hW.1 _ (List.mem_of_getElem? (i := 23) rfl)
theorem w_24 {Z : State} {a0 : Array Value} (hW : W0 Z a0) : (Jvm.Cond.methodLink "java/lang/StringUTF16" (115 : Nat) ({ cls := "java/lang/StringUTF16", name := "compress", desc := "([CI[BII)I" } : Jvm.MethodName)).before a0 Z = true := hW.1 _ (List.mem_of_getElem? (i := 24) rfl)
theorem w_25 {Z : State} {a0 : Array Value} (hW : W0 Z a0) : (Jvm.Cond.static ({ cls := "java/lang/StringUTF16", name := "compress", desc := "([CI[BII)I" } : Jvm.MethodName)).before a0 Z = true := hW.1 _ (List.mem_of_getElem? (i := 25) rfl)
theorem w_26 {Z : State} {a0 : Array Value} (hW : W0 Z a0) : (Jvm.Cond.code ({ cls := "java/lang/StringUTF16", name := "compress", desc := "([CI[BII)I" } : Jvm.MethodName) jdk_52_method_21_code (7 : Nat) (Option.some Jvm.ClassFile.FieldType.int)).before a0 Z = true := hW.1 _ (List.mem_of_getElem? (i := 26) rfl)
theorem w_27 {Z : State} {a0 : Array Value} (hW : W0 Z a0) : (Jvm.Cond.methodLink "java/lang/String" (47 : Nat) ({ cls := "java/lang/StringUTF16", name := "coderFromArrayLen", desc := "([BI)B" } : Jvm.MethodName)).before a0 Z = true := hW.1 _ (List.mem_of_getElem? (i := 27) rfl)
theorem w_28 {Z : State} {a0 : Array Value} (hW : W0 Z a0) : (Jvm.Cond.static ({ cls := "java/lang/StringUTF16", name := "coderFromArrayLen", desc := "([BI)B" } : Jvm.MethodName)).before a0 Z = true := hW.1 _ (List.mem_of_getElem? (i := 28) rfl)
theorem w_29 {Z : State} {a0 : Array Value} (hW : W0 Z a0) : (Jvm.Cond.code ({ cls := "java/lang/StringUTF16", name := "coderFromArrayLen", desc := "([BI)B" } : Jvm.MethodName) jdk_52_method_15_code (2 : Nat) (Option.some Jvm.ClassFile.FieldType.byte)).before a0 Z = true := hW.1 _ (List.mem_of_getElem? (i := 29) rfl)
theorem w_30 {Z : State} {a0 : Array Value} (hW : W0 Z a0) : (Jvm.Cond.fieldLink "java/lang/String" (15 : Nat) "java/lang/String" "coder" "B").before a0 Z = true := hW.1 _ (List.mem_of_getElem? (i := 30) rfl)
theorem w_31 {Z : State} {a0 : Array Value} (hW : W0 Z a0) : (Jvm.Cond.laysFinal "java/lang/String" "java/lang/String" "coder" "B").before a0 Z = true := hW.1 _ (List.mem_of_getElem? (i := 31) rfl)
theorem w_32 {Z : State} {a0 : Array Value} (hW : W0 Z a0) : (Jvm.Cond.fieldLink "java/lang/String" (9 : Nat) "java/lang/String" "value" "[B").before a0 Z = true := hW.1 _ (List.mem_of_getElem? (i := 32) rfl)
theorem w_33 {Z : State} {a0 : Array Value} (hW : W0 Z a0) : (Jvm.Cond.laysFinal "java/lang/String" "java/lang/String" "value" "[B").before a0 Z = true := hW.1 _ (List.mem_of_getElem? (i := 33) rfl)
theorem w_34 {Z : State} {a0 : Array Value} (hW : W0 Z a0) : (Jvm.Cond.methodLink "com/example/atomicity/atomicity/model/OrderingAscendingPinLaw" (18 : Nat) ({ cls := "com/example/atomicity/atomicity/model/Ordering", name := "ascending", desc := "(Ljava/lang/String;)Lcom/example/atomicity/atomicity/model/Ordering;" } : Jvm.MethodName)).before a0 Z = true := hW.1 _ (List.mem_of_getElem? (i := 34) rfl)
theorem w_35 {Z : State} {a0 : Array Value} (hW : W0 Z a0) : (Jvm.Cond.static ({ cls := "com/example/atomicity/atomicity/model/Ordering", name := "ascending", desc := "(Ljava/lang/String;)Lcom/example/atomicity/atomicity/model/Ordering;" } : Jvm.MethodName)).before a0 Z = true := hW.1 _ (List.mem_of_getElem? (i := 35) rfl)
theorem w_36 {Z : State} {a0 : Array Value} (hW : W0 Z a0) : (Jvm.Cond.initialized "com/example/atomicity/atomicity/model/Ordering").before a0 Z = true := hW.1 _ (List.mem_of_getElem? (i := 36) rfl)
theorem w_37 {Z : State} {a0 : Array Value} (hW : W0 Z a0) : (Jvm.Cond.code ({ cls := "com/example/atomicity/atomicity/model/Ordering", name := "ascending", desc := "(Ljava/lang/String;)Lcom/example/atomicity/atomicity/model/Ordering;" } : Jvm.MethodName) prog_61_method_2_code (1 : Nat) (Option.some (Jvm.ClassFile.FieldType.object "com/example/atomicity/atomicity/model/Ordering"))).before a0 Z = true := hW.1 _ (List.mem_of_getElem? (i := 37) rfl)
theorem w_38 {Z : State} {a0 : Array Value} (hW : W0 Z a0) : (Jvm.Cond.classLink "com/example/atomicity/atomicity/model/Ordering" (14 : Nat) "com/example/atomicity/atomicity/model/Ordering").before a0 Z = true := hW.1 _ (List.mem_of_getElem? (i := 38) rfl)
theorem w_39 {Z : State} {a0 : Array Value} (hW : W0 Z a0) : (Jvm.Cond.instantiable "com/example/atomicity/atomicity/model/Ordering" (1 : Nat)).before a0 Z = true := hW.1 _ (List.mem_of_getElem? (i := 39) rfl)
theorem w_40 {Z : State} {a0 : Array Value} (hW : W0 Z a0) : (Jvm.Cond.classLink "com/example/atomicity/atomicity/model/Ordering" (19 : Nat) "com/example/atomicity/atomicity/model/Ordering$Key").before a0 Z = true := hW.1 _ (List.mem_of_getElem? (i := 40) rfl)
theorem w_41 {Z : State} {a0 : Array Value} (hW : W0 Z a0) : (Jvm.Cond.instantiable "com/example/atomicity/atomicity/model/Ordering$Key" (2 : Nat)).before a0 Z = true := hW.1 _ (List.mem_of_getElem? (i := 41) rfl)
theorem w_42 {Z : State} {a0 : Array Value} (hW : W0 Z a0) : (Jvm.Cond.initialized "com/example/atomicity/atomicity/model/Ordering$Key").before a0 Z = true := hW.1 _ (List.mem_of_getElem? (i := 42) rfl)
theorem w_43 {Z : State} {a0 : Array Value} (hW : W0 Z a0) : (Jvm.Cond.methodLink "com/example/atomicity/atomicity/model/Ordering" (21 : Nat) ({ cls := "com/example/atomicity/atomicity/model/Ordering$Key", name := "<init>", desc := "(Ljava/lang/String;Z)V" } : Jvm.MethodName)).before a0 Z = true := hW.1 _ (List.mem_of_getElem? (i := 43) rfl)
theorem w_44 {Z : State} {a0 : Array Value} (hW : W0 Z a0) : (Jvm.Cond.instanceMethod ({ cls := "com/example/atomicity/atomicity/model/Ordering$Key", name := "<init>", desc := "(Ljava/lang/String;Z)V" } : Jvm.MethodName)).before a0 Z = true := hW.1 _ (List.mem_of_getElem? (i := 44) rfl)
theorem w_45 {Z : State} {a0 : Array Value} (hW : W0 Z a0) : (Jvm.Cond.code ({ cls := "com/example/atomicity/atomicity/model/Ordering$Key", name := "<init>", desc := "(Ljava/lang/String;Z)V" } : Jvm.MethodName) prog_62_method_1_code (3 : Nat) (Option.none : Option Jvm.ClassFile.FieldType)).before a0 Z = true := hW.1 _ (List.mem_of_getElem? (i := 45) rfl)
theorem w_46 {Z : State} {a0 : Array Value} (hW : W0 Z a0) : (Jvm.Cond.methodLink "com/example/atomicity/atomicity/model/Ordering$Key" (1 : Nat) ({ cls := "java/lang/Record", name := "<init>", desc := "()V" } : Jvm.MethodName)).before a0 Z = true := hW.1 _ (List.mem_of_getElem? (i := 46) rfl)
theorem w_47 {Z : State} {a0 : Array Value} (hW : W0 Z a0) : (Jvm.Cond.instanceMethod ({ cls := "java/lang/Record", name := "<init>", desc := "()V" } : Jvm.MethodName)).before a0 Z = true := hW.1 _ (List.mem_of_getElem? (i := 47) rfl)
theorem w_49 {Z : State} {a0 : Array Value} (hW : W0 Z a0) : (Jvm.Cond.initialized "java/lang/Record").before a0 Z = true := hW.1 _ (List.mem_of_getElem? (i := 49) rfl)
theorem w_50 {Z : State} {a0 : Array Value} (hW : W0 Z a0) : (Jvm.Cond.code ({ cls := "java/lang/Record", name := "<init>", desc := "()V" } : Jvm.MethodName) jdk_30_method_1_code (1 : Nat) (Option.none : Option Jvm.ClassFile.FieldType)).before a0 Z = true := hW.1 _ (List.mem_of_getElem? (i := 50) rfl)
theorem w_51 {Z : State} {a0 : Array Value} (hW : W0 Z a0) : (Jvm.Cond.methodLink "java/lang/Record" (1 : Nat) ({ cls := "java/lang/Object", name := "<init>", desc := "()V" } : Jvm.MethodName)).before a0 Z = true := hW.1 _ (List.mem_of_getElem? (i := 51) rfl)
theorem w_52 {Z : State} {a0 : Array Value} (hW : W0 Z a0) : (Jvm.Cond.stringLink "com/example/atomicity/atomicity/model/Ordering$Key" (7 : Nat) "property").before a0 Z = true := hW.1 _ (List.mem_of_getElem? (i := 52) rfl)
theorem w_53 {Z : State} {a0 : Array Value} (hW : W0 Z a0) : (Jvm.Cond.soleField "java/lang/String" "value").before a0 Z = true := hW.1 _ (List.mem_of_getElem? (i := 53) rfl)
theorem w_54 {Z : State} {a0 : Array Value} (hW : W0 Z a0) : (Jvm.Cond.soleField "java/lang/String" "coder").before a0 Z = true := hW.1 _ (List.mem_of_getElem? (i := 54) rfl)
theorem w_55 {Z : State} {a0 : Array Value} (hW : W0 Z a0) : (Jvm.Cond.methodLink "com/example/atomicity/atomicity/model/Ordering$Key" (9 : Nat) ({ cls := "java/util/Objects", name := "requireNonNull", desc := "(Ljava/lang/Object;Ljava/lang/String;)Ljava/lang/Object;" } : Jvm.MethodName)).before a0 Z = true := hW.1 _ (List.mem_of_getElem? (i := 55) rfl)
theorem w_56 {Z : State} {a0 : Array Value} (hW : W0 Z a0) : (Jvm.Cond.static ({ cls := "java/util/Objects", name := "requireNonNull", desc := "(Ljava/lang/Object;Ljava/lang/String;)Ljava/lang/Object;" } : Jvm.MethodName)).before a0 Z = true := hW.1 _ (List.mem_of_getElem? (i := 56) rfl)
theorem w_57 {Z : State} {a0 : Array Value} (hW : W0 Z a0) : (Jvm.Cond.initialized "java/util/Objects").before a0 Z = true := hW.1 _ (List.mem_of_getElem? (i := 57) rfl)
theorem w_58 {Z : State} {a0 : Array Value} (hW : W0 Z a0) : (Jvm.Cond.code ({ cls := "java/util/Objects", name := "requireNonNull", desc := "(Ljava/lang/Object;Ljava/lang/String;)Ljava/lang/Object;" } : Jvm.MethodName) jdk_31_method_11_code (2 : Nat) (Option.some (Jvm.ClassFile.FieldType.object "java/lang/Object"))).before a0 Z = true := hW.1 _ (List.mem_of_getElem? (i := 58) rfl)
theorem w_59 {Z : State} {a0 : Array Value} (hW : W0 Z a0) : (Jvm.Cond.fieldLink "com/example/atomicity/atomicity/model/Ordering$Key" (15 : Nat) "com/example/atomicity/atomicity/model/Ordering$Key" "property" "Ljava/lang/String;").before a0 Z = true := hW.1 _ (List.mem_of_getElem? (i := 59) rfl)
theorem w_60 {Z : State} {a0 : Array Value} (hW : W0 Z a0) : (Jvm.Cond.laysFinal "com/example/atomicity/atomicity/model/Ordering$Key" "com/example/atomicity/atomicity/model/Ordering$Key" "property" "Ljava/lang/String;").before a0 Z = true := hW.1 _ (List.mem_of_getElem? (i := 60) rfl)
theorem w_61 {Z : State} {a0 : Array Value} (hW : W0 Z a0) : (Jvm.Cond.fieldLink "com/example/atomicity/atomicity/model/Ordering$Key" (20 : Nat) "com/example/atomicity/atomicity/model/Ordering$Key" "descending" "Z").before a0 Z = true := hW.1 _ (List.mem_of_getElem? (i := 61) rfl)
theorem w_62 {Z : State} {a0 : Array Value} (hW : W0 Z a0) : (Jvm.Cond.laysFinal "com/example/atomicity/atomicity/model/Ordering$Key" "com/example/atomicity/atomicity/model/Ordering$Key" "descending" "Z").before a0 Z = true := hW.1 _ (List.mem_of_getElem? (i := 62) rfl)
theorem w_63 {Z : State} {a0 : Array Value} (hW : W0 Z a0) : (Jvm.Cond.methodLink "com/example/atomicity/atomicity/model/Ordering" (24 : Nat) ({ cls := "java/util/List", name := "of", desc := "(Ljava/lang/Object;)Ljava/util/List;" } : Jvm.MethodName)).before a0 Z = true := hW.1 _ (List.mem_of_getElem? (i := 63) rfl)
theorem w_64 {Z : State} {a0 : Array Value} (hW : W0 Z a0) : (Jvm.Cond.static ({ cls := "java/util/List", name := "of", desc := "(Ljava/lang/Object;)Ljava/util/List;" } : Jvm.MethodName)).before a0 Z = true := hW.1 _ (List.mem_of_getElem? (i := 64) rfl)
theorem w_65 {Z : State} {a0 : Array Value} (hW : W0 Z a0) : (Jvm.Cond.initialized "java/util/List").before a0 Z = true := hW.1 _ (List.mem_of_getElem? (i := 65) rfl)
theorem w_66 {Z : State} {a0 : Array Value} (hW : W0 Z a0) : (Jvm.Cond.code ({ cls := "java/util/List", name := "of", desc := "(Ljava/lang/Object;)Ljava/util/List;" } : Jvm.MethodName) jdk_40_method_37_code (1 : Nat) (Option.some (Jvm.ClassFile.FieldType.object "java/util/List"))).before a0 Z = true := hW.1 _ (List.mem_of_getElem? (i := 66) rfl)
theorem w_67 {Z : State} {a0 : Array Value} (hW : W0 Z a0) : (Jvm.Cond.classLink "java/util/List" (96 : Nat) "java/util/ImmutableCollections$List12").before a0 Z = true := hW.1 _ (List.mem_of_getElem? (i := 67) rfl)
theorem w_68 {Z : State} {a0 : Array Value} (hW : W0 Z a0) : (Jvm.Cond.instantiable "java/util/ImmutableCollections$List12" (2 : Nat)).before a0 Z = true := hW.1 _ (List.mem_of_getElem? (i := 68) rfl)
theorem w_69 {Z : State} {a0 : Array Value} (hW : W0 Z a0) : (Jvm.Cond.initialized "java/util/ImmutableCollections$List12").before a0 Z = true := hW.1 _ (List.mem_of_getElem? (i := 69) rfl)
theorem w_70 {Z : State} {a0 : Array Value} (hW : W0 Z a0) : (Jvm.Cond.methodLink "java/util/List" (98 : Nat) ({ cls := "java/util/ImmutableCollections$List12", name := "<init>", desc := "(Ljava/lang/Object;)V" } : Jvm.MethodName)).before a0 Z = true := hW.1 _ (List.mem_of_getElem? (i := 70) rfl)
theorem w_71 {Z : State} {a0 : Array Value} (hW : W0 Z a0) : (Jvm.Cond.instanceMethod ({ cls := "java/util/ImmutableCollections$List12", name := "<init>", desc := "(Ljava/lang/Object;)V" } : Jvm.MethodName)).before a0 Z = true := hW.1 _ (List.mem_of_getElem? (i := 71) rfl)
theorem w_73 {Z : State} {a0 : Array Value} (hW : W0 Z a0) : (Jvm.Cond.code ({ cls := "java/util/ImmutableCollections$List12", name := "<init>", desc := "(Ljava/lang/Object;)V" } : Jvm.MethodName) jdk_44_method_1_code (2 : Nat) (Option.none : Option Jvm.ClassFile.FieldType)).before a0 Z = true := hW.1 _ (List.mem_of_getElem? (i := 73) rfl)
theorem w_74 {Z : State} {a0 : Array Value} (hW : W0 Z a0) : (Jvm.Cond.methodLink "java/util/ImmutableCollections$List12" (1 : Nat) ({ cls := "java/util/ImmutableCollections$AbstractImmutableList", name := "<init>", desc := "()V" } : Jvm.MethodName)).before a0 Z = true := hW.1 _ (List.mem_of_getElem? (i := 74) rfl)
theorem w_75 {Z : State} {a0 : Array Value} (hW : W0 Z a0) : (Jvm.Cond.instanceMethod ({ cls := "java/util/ImmutableCollections$AbstractImmutableList", name := "<init>", desc := "()V" } : Jvm.MethodName)).before a0 Z = true := hW.1 _ (List.mem_of_getElem? (i := 75) rfl)
theorem w_78 {Z : State} {a0 : Array Value} (hW : W0 Z a0) : (Jvm.Cond.initialized "java/util/ImmutableCollections$AbstractImmutableList").before a0 Z = true := hW.1 _ (List.mem_of_getElem? (i := 78) rfl)
theorem w_79 {Z : State} {a0 : Array Value} (hW : W0 Z a0) : (Jvm.Cond.code ({ cls := "java/util/ImmutableCollections$AbstractImmutableList", name := "<init>", desc := "()V" } : Jvm.MethodName) jdk_46_method_1_code (1 : Nat) (Option.none : Option Jvm.ClassFile.FieldType)).before a0 Z = true := hW.1 _ (List.mem_of_getElem? (i := 79) rfl)
theorem w_80 {Z : State} {a0 : Array Value} (hW : W0 Z a0) : (Jvm.Cond.methodLink "java/util/ImmutableCollections$AbstractImmutableList" (1 : Nat) ({ cls := "java/util/ImmutableCollections$AbstractImmutableCollection", name := "<init>", desc := "()V" } : Jvm.MethodName)).before a0 Z = true := hW.1 _ (List.mem_of_getElem? (i := 80) rfl)
theorem w_81 {Z : State} {a0 : Array Value} (hW : W0 Z a0) : (Jvm.Cond.instanceMethod ({ cls := "java/util/ImmutableCollections$AbstractImmutableCollection", name := "<init>", desc := "()V" } : Jvm.MethodName)).before a0 Z = true := hW.1 _ (List.mem_of_getElem? (i := 81) rfl)
theorem w_84 {Z : State} {a0 : Array Value} (hW : W0 Z a0) : (Jvm.Cond.initialized "java/util/ImmutableCollections$AbstractImmutableCollection").before a0 Z = true := hW.1 _ (List.mem_of_getElem? (i := 84) rfl)
theorem w_85 {Z : State} {a0 : Array Value} (hW : W0 Z a0) : (Jvm.Cond.code ({ cls := "java/util/ImmutableCollections$AbstractImmutableCollection", name := "<init>", desc := "()V" } : Jvm.MethodName) jdk_47_method_1_code (1 : Nat) (Option.none : Option Jvm.ClassFile.FieldType)).before a0 Z = true := hW.1 _ (List.mem_of_getElem? (i := 85) rfl)
theorem w_86 {Z : State} {a0 : Array Value} (hW : W0 Z a0) : (Jvm.Cond.methodLink "java/util/ImmutableCollections$AbstractImmutableCollection" (1 : Nat) ({ cls := "java/util/AbstractCollection", name := "<init>", desc := "()V" } : Jvm.MethodName)).before a0 Z = true := hW.1 _ (List.mem_of_getElem? (i := 86) rfl)
theorem w_87 {Z : State} {a0 : Array Value} (hW : W0 Z a0) : (Jvm.Cond.instanceMethod ({ cls := "java/util/AbstractCollection", name := "<init>", desc := "()V" } : Jvm.MethodName)).before a0 Z = true := hW.1 _ (List.mem_of_getElem? (i := 87) rfl)
theorem w_90 {Z : State} {a0 : Array Value} (hW : W0 Z a0) : (Jvm.Cond.initialized "java/util/AbstractCollection").before a0 Z = true := hW.1 _ (List.mem_of_getElem? (i := 90) rfl)
theorem w_91 {Z : State} {a0 : Array Value} (hW : W0 Z a0) : (Jvm.Cond.code ({ cls := "java/util/AbstractCollection", name := "<init>", desc := "()V" } : Jvm.MethodName) jdk_22_method_1_code (1 : Nat) (Option.none : Option Jvm.ClassFile.FieldType)).before a0 Z = true := hW.1 _ (List.mem_of_getElem? (i := 91) rfl)
theorem w_92 {Z : State} {a0 : Array Value} (hW : W0 Z a0) : (Jvm.Cond.methodLink "java/util/AbstractCollection" (1 : Nat) ({ cls := "java/lang/Object", name := "<init>", desc := "()V" } : Jvm.MethodName)).before a0 Z = true := hW.1 _ (List.mem_of_getElem? (i := 92) rfl)
theorem w_93 {Z : State} {a0 : Array Value} (hW : W0 Z a0) : (Jvm.Cond.methodLink "java/util/ImmutableCollections$List12" (7 : Nat) ({ cls := "java/util/Objects", name := "requireNonNull", desc := "(Ljava/lang/Object;)Ljava/lang/Object;" } : Jvm.MethodName)).before a0 Z = true := hW.1 _ (List.mem_of_getElem? (i := 93) rfl)
theorem w_94 {Z : State} {a0 : Array Value} (hW : W0 Z a0) : (Jvm.Cond.static ({ cls := "java/util/Objects", name := "requireNonNull", desc := "(Ljava/lang/Object;)Ljava/lang/Object;" } : Jvm.MethodName)).before a0 Z = true := hW.1 _ (List.mem_of_getElem? (i := 94) rfl)
theorem w_95 {Z : State} {a0 : Array Value} (hW : W0 Z a0) : (Jvm.Cond.code ({ cls := "java/util/Objects", name := "requireNonNull", desc := "(Ljava/lang/Object;)Ljava/lang/Object;" } : Jvm.MethodName) jdk_31_method_10_code (1 : Nat) (Option.some (Jvm.ClassFile.FieldType.object "java/lang/Object"))).before a0 Z = true := hW.1 _ (List.mem_of_getElem? (i := 95) rfl)
theorem w_96 {Z : State} {a0 : Array Value} (hW : W0 Z a0) : (Jvm.Cond.fieldLink "java/util/ImmutableCollections$List12" (13 : Nat) "java/util/ImmutableCollections$List12" "e0" "Ljava/lang/Object;").before a0 Z = true := hW.1 _ (List.mem_of_getElem? (i := 96) rfl)
theorem w_97 {Z : State} {a0 : Array Value} (hW : W0 Z a0) : (Jvm.Cond.laysFinal "java/util/ImmutableCollections$List12" "java/util/ImmutableCollections$List12" "e0" "Ljava/lang/Object;").before a0 Z = true := hW.1 _ (List.mem_of_getElem? (i := 97) rfl)
theorem w_98 {Z : State} {a0 : Array Value} (hW : W0 Z a0) : (Jvm.Cond.fieldLinkNest "java/util/ImmutableCollections$List12" (19 : Nat) "java/util/ImmutableCollections" "EMPTY" "Ljava/lang/Object;" "java/util/ImmutableCollections").before a0 Z = true := hW.1 _ (List.mem_of_getElem? (i := 98) rfl)
theorem w_99 {Z : State} {a0 : Array Value} (hW : W0 Z a0) : (Jvm.Cond.initialized "java/util/ImmutableCollections").before a0 Z = true := hW.1 _ (List.mem_of_getElem? (i := 99) rfl)
theorem w_100 {Z : State} {a0 : Array Value} (hW : W0 Z a0) : (Jvm.Cond.fieldLink "java/util/ImmutableCollections$List12" (24 : Nat) "java/util/ImmutableCollections$List12" "e1" "Ljava/lang/Object;").before a0 Z = true := hW.1 _ (List.mem_of_getElem? (i := 100) rfl)
theorem w_101 {Z : State} {a0 : Array Value} (hW : W0 Z a0) : (Jvm.Cond.laysFinal "java/util/ImmutableCollections$List12" "java/util/ImmutableCollections$List12" "e1" "Ljava/lang/Object;").before a0 Z = true := hW.1 _ (List.mem_of_getElem? (i := 101) rfl)
theorem w_102 {Z : State} {a0 : Array Value} (hW : W0 Z a0) : (Jvm.Cond.methodLink "com/example/atomicity/atomicity/model/Ordering" (28 : Nat) ({ cls := "com/example/atomicity/atomicity/model/Ordering", name := "<init>", desc := "(Ljava/util/List;)V" } : Jvm.MethodName)).before a0 Z = true := hW.1 _ (List.mem_of_getElem? (i := 102) rfl)
theorem w_103 {Z : State} {a0 : Array Value} (hW : W0 Z a0) : (Jvm.Cond.instanceMethod ({ cls := "com/example/atomicity/atomicity/model/Ordering", name := "<init>", desc := "(Ljava/util/List;)V" } : Jvm.MethodName)).before a0 Z = true := hW.1 _ (List.mem_of_getElem? (i := 103) rfl)
theorem w_104 {Z : State} {a0 : Array Value} (hW : W0 Z a0) : (Jvm.Cond.code ({ cls := "com/example/atomicity/atomicity/model/Ordering", name := "<init>", desc := "(Ljava/util/List;)V" } : Jvm.MethodName) prog_61_method_1_code (2 : Nat) (Option.none : Option Jvm.ClassFile.FieldType)).before a0 Z = true := hW.1 _ (List.mem_of_getElem? (i := 104) rfl)
theorem w_105 {Z : State} {a0 : Array Value} (hW : W0 Z a0) : (Jvm.Cond.methodLink "com/example/atomicity/atomicity/model/Ordering" (1 : Nat) ({ cls := "java/lang/Object", name := "<init>", desc := "()V" } : Jvm.MethodName)).before a0 Z = true := hW.1 _ (List.mem_of_getElem? (i := 105) rfl)
theorem w_106 {Z : State} {a0 : Array Value} (hW : W0 Z a0) : (Jvm.Cond.methodLink "com/example/atomicity/atomicity/model/Ordering" (7 : Nat) ({ cls := "java/util/List", name := "copyOf", desc := "(Ljava/util/Collection;)Ljava/util/List;" } : Jvm.MethodName)).before a0 Z = true := hW.1 _ (List.mem_of_getElem? (i := 106) rfl)
theorem w_107 {Z : State} {a0 : Array Value} (hW : W0 Z a0) : (Jvm.Cond.static ({ cls := "java/util/List", name := "copyOf", desc := "(Ljava/util/Collection;)Ljava/util/List;" } : Jvm.MethodName)).before a0 Z = true := hW.1 _ (List.mem_of_getElem? (i := 107) rfl)
theorem w_108 {Z : State} {a0 : Array Value} (hW : W0 Z a0) : (Jvm.Cond.code ({ cls := "java/util/List", name := "copyOf", desc := "(Ljava/util/Collection;)Ljava/util/List;" } : Jvm.MethodName) jdk_40_method_48_code (1 : Nat) (Option.some (Jvm.ClassFile.FieldType.object "java/util/List"))).before a0 Z = true := hW.1 _ (List.mem_of_getElem? (i := 108) rfl)
theorem w_109 {Z : State} {a0 : Array Value} (hW : W0 Z a0) : (Jvm.Cond.methodLink "java/util/List" (112 : Nat) ({ cls := "java/util/ImmutableCollections", name := "listCopy", desc := "(Ljava/util/Collection;)Ljava/util/List;" } : Jvm.MethodName)).before a0 Z = true := hW.1 _ (List.mem_of_getElem? (i := 109) rfl)
theorem w_110 {Z : State} {a0 : Array Value} (hW : W0 Z a0) : (Jvm.Cond.static ({ cls := "java/util/ImmutableCollections", name := "listCopy", desc := "(Ljava/util/Collection;)Ljava/util/List;" } : Jvm.MethodName)).before a0 Z = true := hW.1 _ (List.mem_of_getElem? (i := 110) rfl)
theorem w_111 {Z : State} {a0 : Array Value} (hW : W0 Z a0) : (Jvm.Cond.code ({ cls := "java/util/ImmutableCollections", name := "listCopy", desc := "(Ljava/util/Collection;)Ljava/util/List;" } : Jvm.MethodName) jdk_56_method_3_code (2 : Nat) (Option.some (Jvm.ClassFile.FieldType.object "java/util/List"))).before a0 Z = true := hW.1 _ (List.mem_of_getElem? (i := 111) rfl)
theorem w_112 {Z : State} {a0 : Array Value} (hW : W0 Z a0) : (Jvm.Cond.classLink "java/util/ImmutableCollections" (10 : Nat) "java/util/ImmutableCollections$List12").before a0 Z = true := hW.1 _ (List.mem_of_getElem? (i := 112) rfl)
theorem w_113 {Z : State} {a0 : Array Value} (hW : W0 Z a0) : (Jvm.Cond.classLink "java/util/ImmutableCollections" (18 : Nat) "java/util/List").before a0 Z = true := hW.1 _ (List.mem_of_getElem? (i := 113) rfl)
theorem w_114 {Z : State} {a0 : Array Value} (hW : W0 Z a0) : (Jvm.Cond.castable "java/util/ImmutableCollections$List12" "java/util/List").before a0 Z = true := hW.1 _ (List.mem_of_getElem? (i := 114) rfl)
theorem w_115 {Z : State} {a0 : Array Value} (hW : W0 Z a0) : (Jvm.Cond.fieldLink "com/example/atomicity/atomicity/model/Ordering" (13 : Nat) "com/example/atomicity/atomicity/model/Ordering" "keys" "Ljava/util/List;").before a0 Z = true := hW.1 _ (List.mem_of_getElem? (i := 115) rfl)
theorem w_116 {Z : State} {a0 : Array Value} (hW : W0 Z a0) : (Jvm.Cond.laysFinal "com/example/atomicity/atomicity/model/Ordering" "com/example/atomicity/atomicity/model/Ordering" "keys" "Ljava/util/List;").before a0 Z = true := hW.1 _ (List.mem_of_getElem? (i := 116) rfl)
theorem w_117 {Z : State} {a0 : Array Value} (hW : W0 Z a0) : (Jvm.Cond.methodLink "com/example/atomicity/atomicity/model/OrderingAscendingPinLaw" (24 : Nat) ({ cls := "com/example/atomicity/atomicity/model/Ordering", name := "keys", desc := "()Ljava/util/List;" } : Jvm.MethodName)).before a0 Z = true := hW.1 _ (List.mem_of_getElem? (i := 117) rfl)
theorem w_118 {Z : State} {a0 : Array Value} (hW : W0 Z a0) : (Jvm.Cond.declares ({ cls := "com/example/atomicity/atomicity/model/Ordering", name := "keys", desc := "()Ljava/util/List;" } : Jvm.MethodName)).before a0 Z = true := hW.1 _ (List.mem_of_getElem? (i := 118) rfl)
theorem w_119 {Z : State} {a0 : Array Value} (hW : W0 Z a0) : (Jvm.Cond.instanceMethod ({ cls := "com/example/atomicity/atomicity/model/Ordering", name := "keys", desc := "()Ljava/util/List;" } : Jvm.MethodName)).before a0 Z = true := hW.1 _ (List.mem_of_getElem? (i := 119) rfl)
theorem w_120 {Z : State} {a0 : Array Value} (hW : W0 Z a0) : (Jvm.Cond.selects "com/example/atomicity/atomicity/model/Ordering" ({ cls := "com/example/atomicity/atomicity/model/Ordering", name := "keys", desc := "()Ljava/util/List;" } : Jvm.MethodName) ({ cls := "com/example/atomicity/atomicity/model/Ordering", name := "keys", desc := "()Ljava/util/List;" } : Jvm.MethodName)).before a0 Z = true := hW.1 _ (List.mem_of_getElem? (i := 120) rfl)
theorem w_121 {Z : State} {a0 : Array Value} (hW : W0 Z a0) : (Jvm.Cond.code ({ cls := "com/example/atomicity/atomicity/model/Ordering", name := "keys", desc := "()Ljava/util/List;" } : Jvm.MethodName) prog_61_method_6_code (1 : Nat) (Option.some (Jvm.ClassFile.FieldType.object "java/util/List"))).before a0 Z = true := hW.1 _ (List.mem_of_getElem? (i := 121) rfl)
theorem w_122 {Z : State} {a0 : Array Value} (hW : W0 Z a0) : (Jvm.Cond.methodLink "com/example/atomicity/atomicity/model/OrderingAscendingPinLaw" (28 : Nat) ({ cls := "java/util/List", name := "size", desc := "()I" } : Jvm.MethodName)).before a0 Z = true := hW.1 _ (List.mem_of_getElem? (i := 122) rfl)
theorem w_123 {Z : State} {a0 : Array Value} (hW : W0 Z a0) : (Jvm.Cond.declares ({ cls := "java/util/List", name := "size", desc := "()I" } : Jvm.MethodName)).before a0 Z = true := hW.1 _ (List.mem_of_getElem? (i := 123) rfl)
theorem w_124 {Z : State} {a0 : Array Value} (hW : W0 Z a0) : (Jvm.Cond.interfaceMethod "java/util/List" "java/util/List" "size" "()I").before a0 Z = true := hW.1 _ (List.mem_of_getElem? (i := 124) rfl)
theorem w_125 {Z : State} {a0 : Array Value} (hW : W0 Z a0) : (Jvm.Cond.selects "java/util/ImmutableCollections$List12" ({ cls := "java/util/List", name := "size", desc := "()I" } : Jvm.MethodName) ({ cls := "java/util/ImmutableCollections$List12", name := "size", desc := "()I" } : Jvm.MethodName)).before a0 Z = true := hW.1 _ (List.mem_of_getElem? (i := 125) rfl)
theorem w_126 {Z : State} {a0 : Array Value} (hW : W0 Z a0) : (Jvm.Cond.instanceMethod ({ cls := "java/util/ImmutableCollections$List12", name := "size", desc := "()I" } : Jvm.MethodName)).before a0 Z = true := hW.1 _ (List.mem_of_getElem? (i := 126) rfl)
theorem w_127 {Z : State} {a0 : Array Value} (hW : W0 Z a0) : (Jvm.Cond.publicMethod ({ cls := "java/util/ImmutableCollections$List12", name := "size", desc := "()I" } : Jvm.MethodName)).before a0 Z = true := hW.1 _ (List.mem_of_getElem? (i := 127) rfl)
theorem w_128 {Z : State} {a0 : Array Value} (hW : W0 Z a0) : (Jvm.Cond.unhidden "java/util/ImmutableCollections$List12" "size" "()I").before a0 Z = true := hW.1 _ (List.mem_of_getElem? (i := 128) rfl)
theorem w_129 {Z : State} {a0 : Array Value} (hW : W0 Z a0) : (Jvm.Cond.code ({ cls := "java/util/ImmutableCollections$List12", name := "size", desc := "()I" } : Jvm.MethodName) jdk_44_method_3_code (1 : Nat) (Option.some Jvm.ClassFile.FieldType.int)).before a0 Z = true := hW.1 _ (List.mem_of_getElem? (i := 129) rfl)
theorem w_130 {Z : State} {a0 : Array Value} (hW : W0 Z a0) : (Jvm.Cond.methodLink "com/example/atomicity/atomicity/model/OrderingAscendingPinLaw" (34 : Nat) ({ cls := "java/util/List", name := "get", desc := "(I)Ljava/lang/Object;" } : Jvm.MethodName)).before a0 Z = true := hW.1 _ (List.mem_of_getElem? (i := 130) rfl)
theorem w_131 {Z : State} {a0 : Array Value} (hW : W0 Z a0) : (Jvm.Cond.declares ({ cls := "java/util/List", name := "get", desc := "(I)Ljava/lang/Object;" } : Jvm.MethodName)).before a0 Z = true := hW.1 _ (List.mem_of_getElem? (i := 131) rfl)
theorem w_132 {Z : State} {a0 : Array Value} (hW : W0 Z a0) : (Jvm.Cond.interfaceMethod "java/util/List" "java/util/List" "get" "(I)Ljava/lang/Object;").before a0 Z = true := hW.1 _ (List.mem_of_getElem? (i := 132) rfl)
theorem w_133 {Z : State} {a0 : Array Value} (hW : W0 Z a0) : (Jvm.Cond.selects "java/util/ImmutableCollections$List12" ({ cls := "java/util/List", name := "get", desc := "(I)Ljava/lang/Object;" } : Jvm.MethodName) ({ cls := "java/util/ImmutableCollections$List12", name := "get", desc := "(I)Ljava/lang/Object;" } : Jvm.MethodName)).before a0 Z = true := hW.1 _ (List.mem_of_getElem? (i := 133) rfl)
theorem w_134 {Z : State} {a0 : Array Value} (hW : W0 Z a0) : (Jvm.Cond.instanceMethod ({ cls := "java/util/ImmutableCollections$List12", name := "get", desc := "(I)Ljava/lang/Object;" } : Jvm.MethodName)).before a0 Z = true := hW.1 _ (List.mem_of_getElem? (i := 134) rfl)
theorem w_135 {Z : State} {a0 : Array Value} (hW : W0 Z a0) : (Jvm.Cond.publicMethod ({ cls := "java/util/ImmutableCollections$List12", name := "get", desc := "(I)Ljava/lang/Object;" } : Jvm.MethodName)).before a0 Z = true := hW.1 _ (List.mem_of_getElem? (i := 135) rfl)
theorem w_136 {Z : State} {a0 : Array Value} (hW : W0 Z a0) : (Jvm.Cond.unhidden "java/util/ImmutableCollections$List12" "get" "(I)Ljava/lang/Object;").before a0 Z = true := hW.1 _ (List.mem_of_getElem? (i := 136) rfl)
theorem w_137 {Z : State} {a0 : Array Value} (hW : W0 Z a0) : (Jvm.Cond.code ({ cls := "java/util/ImmutableCollections$List12", name := "get", desc := "(I)Ljava/lang/Object;" } : Jvm.MethodName) jdk_44_method_5_code (2 : Nat) (Option.some (Jvm.ClassFile.FieldType.object "java/lang/Object"))).before a0 Z = true := hW.1 _ (List.mem_of_getElem? (i := 137) rfl)
theorem w_138 {Z : State} {a0 : Array Value} (hW : W0 Z a0) : (Jvm.Cond.classLink "com/example/atomicity/atomicity/model/OrderingAscendingPinLaw" (38 : Nat) "com/example/atomicity/atomicity/model/Ordering$Key").before a0 Z = true := hW.1 _ (List.mem_of_getElem? (i := 138) rfl)
theorem w_140 {Z : State} {a0 : Array Value} (hW : W0 Z a0) : (Jvm.Cond.methodLink "com/example/atomicity/atomicity/model/OrderingAscendingPinLaw" (40 : Nat) ({ cls := "com/example/atomicity/atomicity/model/Ordering$Key", name := "property", desc := "()Ljava/lang/String;" } : Jvm.MethodName)).before a0 Z = true := hW.1 _ (List.mem_of_getElem? (i := 140) rfl)
theorem w_141 {Z : State} {a0 : Array Value} (hW : W0 Z a0) : (Jvm.Cond.declares ({ cls := "com/example/atomicity/atomicity/model/Ordering$Key", name := "property", desc := "()Ljava/lang/String;" } : Jvm.MethodName)).before a0 Z = true := hW.1 _ (List.mem_of_getElem? (i := 141) rfl)
theorem w_142 {Z : State} {a0 : Array Value} (hW : W0 Z a0) : (Jvm.Cond.instanceMethod ({ cls := "com/example/atomicity/atomicity/model/Ordering$Key", name := "property", desc := "()Ljava/lang/String;" } : Jvm.MethodName)).before a0 Z = true := hW.1 _ (List.mem_of_getElem? (i := 142) rfl)
theorem w_143 {Z : State} {a0 : Array Value} (hW : W0 Z a0) : (Jvm.Cond.selects "com/example/atomicity/atomicity/model/Ordering$Key" ({ cls := "com/example/atomicity/atomicity/model/Ordering$Key", name := "property", desc := "()Ljava/lang/String;" } : Jvm.MethodName) ({ cls := "com/example/atomicity/atomicity/model/Ordering$Key", name := "property", desc := "()Ljava/lang/String;" } : Jvm.MethodName)).before a0 Z = true := hW.1 _ (List.mem_of_getElem? (i := 143) rfl)
theorem w_144 {Z : State} {a0 : Array Value} (hW : W0 Z a0) : (Jvm.Cond.code ({ cls := "com/example/atomicity/atomicity/model/Ordering$Key", name := "property", desc := "()Ljava/lang/String;" } : Jvm.MethodName) prog_62_method_5_code (1 : Nat) (Option.some (Jvm.ClassFile.FieldType.object "java/lang/String"))).before a0 Z = true := hW.1 _ (List.mem_of_getElem? (i := 144) rfl)
theorem w_145 {Z : State} {a0 : Array Value} (hW : W0 Z a0) : (Jvm.Cond.methodLink "com/example/atomicity/atomicity/model/OrderingAscendingPinLaw" (44 : Nat) ({ cls := "java/lang/String", name := "equals", desc := "(Ljava/lang/Object;)Z" } : Jvm.MethodName)).before a0 Z = true := hW.1 _ (List.mem_of_getElem? (i := 145) rfl)
theorem w_146 {Z : State} {a0 : Array Value} (hW : W0 Z a0) : (Jvm.Cond.declares ({ cls := "java/lang/String", name := "equals", desc := "(Ljava/lang/Object;)Z" } : Jvm.MethodName)).before a0 Z = true := hW.1 _ (List.mem_of_getElem? (i := 146) rfl)
theorem w_147 {Z : State} {a0 : Array Value} (hW : W0 Z a0) : (Jvm.Cond.instanceMethod ({ cls := "java/lang/String", name := "equals", desc := "(Ljava/lang/Object;)Z" } : Jvm.MethodName)).before a0 Z = true := hW.1 _ (List.mem_of_getElem? (i := 147) rfl)
theorem w_148 {Z : State} {a0 : Array Value} (hW : W0 Z a0) : (Jvm.Cond.selects "java/lang/String" ({ cls := "java/lang/String", name := "equals", desc := "(Ljava/lang/Object;)Z" } : Jvm.MethodName) ({ cls := "java/lang/String", name := "equals", desc := "(Ljava/lang/Object;)Z" } : Jvm.MethodName)).before a0 Z = true := hW.1 _ (List.mem_of_getElem? (i := 148) rfl)
theorem w_149 {Z : State} {a0 : Array Value} (hW : W0 Z a0) : (Jvm.Cond.code ({ cls := "java/lang/String", name := "equals", desc := "(Ljava/lang/Object;)Z" } : Jvm.MethodName) jdk_42_method_66_code (3 : Nat) (Option.some Jvm.ClassFile.FieldType.boolean)).before a0 Z = true := hW.1 _ (List.mem_of_getElem? (i := 149) rfl)
theorem w_150 {Z : State} {a0 : Array Value} (hW : W0 Z a0) : (Jvm.Cond.methodLink "com/example/atomicity/atomicity/model/OrderingAscendingPinLaw" (48 : Nat) ({ cls := "java/lang/String", name := "length", desc := "()I" } : Jvm.MethodName)).before a0 Z = true := hW.1 _ (List.mem_of_getElem? (i := 150) rfl)
theorem w_151 {Z : State} {a0 : Array Value} (hW : W0 Z a0) : (Jvm.Cond.declares ({ cls := "java/lang/String", name := "length", desc := "()I" } : Jvm.MethodName)).before a0 Z = true := hW.1 _ (List.mem_of_getElem? (i := 151) rfl)
theorem w_152 {Z : State} {a0 : Array Value} (hW : W0 Z a0) : (Jvm.Cond.instanceMethod ({ cls := "java/lang/String", name := "length", desc := "()I" } : Jvm.MethodName)).before a0 Z = true := hW.1 _ (List.mem_of_getElem? (i := 152) rfl)
theorem w_153 {Z : State} {a0 : Array Value} (hW : W0 Z a0) : (Jvm.Cond.selects "java/lang/String" ({ cls := "java/lang/String", name := "length", desc := "()I" } : Jvm.MethodName) ({ cls := "java/lang/String", name := "length", desc := "()I" } : Jvm.MethodName)).before a0 Z = true := hW.1 _ (List.mem_of_getElem? (i := 153) rfl)
theorem w_154 {Z : State} {a0 : Array Value} (hW : W0 Z a0) : (Jvm.Cond.code ({ cls := "java/lang/String", name := "length", desc := "()I" } : Jvm.MethodName) jdk_42_method_54_code (1 : Nat) (Option.some Jvm.ClassFile.FieldType.int)).before a0 Z = true := hW.1 _ (List.mem_of_getElem? (i := 154) rfl)
theorem w_155 {Z : State} {a0 : Array Value} (hW : W0 Z a0) : (Jvm.Cond.methodLink "java/lang/String" (335 : Nat) ({ cls := "java/lang/String", name := "coder", desc := "()B" } : Jvm.MethodName)).before a0 Z = true := hW.1 _ (List.mem_of_getElem? (i := 155) rfl)
theorem w_156 {Z : State} {a0 : Array Value} (hW : W0 Z a0) : (Jvm.Cond.declares ({ cls := "java/lang/String", name := "coder", desc := "()B" } : Jvm.MethodName)).before a0 Z = true := hW.1 _ (List.mem_of_getElem? (i := 156) rfl)
theorem w_157 {Z : State} {a0 : Array Value} (hW : W0 Z a0) : (Jvm.Cond.instanceMethod ({ cls := "java/lang/String", name := "coder", desc := "()B" } : Jvm.MethodName)).before a0 Z = true := hW.1 _ (List.mem_of_getElem? (i := 157) rfl)
theorem w_158 {Z : State} {a0 : Array Value} (hW : W0 Z a0) : (Jvm.Cond.selects "java/lang/String" ({ cls := "java/lang/String", name := "coder", desc := "()B" } : Jvm.MethodName) ({ cls := "java/lang/String", name := "coder", desc := "()B" } : Jvm.MethodName)).before a0 Z = true := hW.1 _ (List.mem_of_getElem? (i := 158) rfl)
theorem w_159 {Z : State} {a0 : Array Value} (hW : W0 Z a0) : (Jvm.Cond.code ({ cls := "java/lang/String", name := "coder", desc := "()B" } : Jvm.MethodName) jdk_42_method_152_code (1 : Nat) (Option.some Jvm.ClassFile.FieldType.byte)).before a0 Z = true := hW.1 _ (List.mem_of_getElem? (i := 159) rfl)
theorem w_160 {Z : State} {a0 : Array Value} (hW : W0 Z a0) : (Jvm.Cond.methodLink "com/example/atomicity/atomicity/model/OrderingAscendingPinLaw" (51 : Nat) ({ cls := "com/example/atomicity/atomicity/model/Ordering$Key", name := "descending", desc := "()Z" } : Jvm.MethodName)).before a0 Z = true := hW.1 _ (List.mem_of_getElem? (i := 160) rfl)
theorem w_161 {Z : State} {a0 : Array Value} (hW : W0 Z a0) : (Jvm.Cond.declares ({ cls := "com/example/atomicity/atomicity/model/Ordering$Key", name := "descending", desc := "()Z" } : Jvm.MethodName)).before a0 Z = true := hW.1 _ (List.mem_of_getElem? (i := 161) rfl)
theorem w_162 {Z : State} {a0 : Array Value} (hW : W0 Z a0) : (Jvm.Cond.instanceMethod ({ cls := "com/example/atomicity/atomicity/model/Ordering$Key", name := "descending", desc := "()Z" } : Jvm.MethodName)).before a0 Z = true := hW.1 _ (List.mem_of_getElem? (i := 162) rfl)
theorem w_163 {Z : State} {a0 : Array Value} (hW : W0 Z a0) : (Jvm.Cond.selects "com/example/atomicity/atomicity/model/Ordering$Key" ({ cls := "com/example/atomicity/atomicity/model/Ordering$Key", name := "descending", desc := "()Z" } : Jvm.MethodName) ({ cls := "com/example/atomicity/atomicity/model/Ordering$Key", name := "descending", desc := "()Z" } : Jvm.MethodName)).before a0 Z = true := hW.1 _ (List.mem_of_getElem? (i := 163) rfl)
theorem w_164 {Z : State} {a0 : Array Value} (hW : W0 Z a0) : (Jvm.Cond.code ({ cls := "com/example/atomicity/atomicity/model/Ordering$Key", name := "descending", desc := "()Z" } : Jvm.MethodName) prog_62_method_6_code (1 : Nat) (Option.some Jvm.ClassFile.FieldType.boolean)).before a0 Z = true := hW.1 _ (List.mem_of_getElem? (i := 164) rfl)
theorem w_165 {Z : State} {a0 : Array Value} (hW : W0 Z a0) : (Jvm.Cond.stringLink "java/lang/String" (7 : Nat) "").before a0 Z = true := hW.1 _ (List.mem_of_getElem? (i := 165) rfl)
theorem s_0 {Z : State} {a0 : Array Value} (hW : W0 Z a0) : (Jvm.Cond.initializedFor "java/lang/String" "COMPACT_STRINGS" "Z").before a0 Z = true := hW.2 _ (List.mem_of_getElem? (i := 0) rfl)
theorem s_1 {Z : State} {a0 : Array Value} (hW : W0 Z a0) : (Jvm.Cond.isInt (Jvm.Term.static "java/lang/String" "COMPACT_STRINGS" "Z")).before a0 Z = true := hW.2 _ (List.mem_of_getElem? (i := 1) rfl)
theorem s_2 {Z : State} {a0 : Array Value} (hW : W0 Z a0) : (Jvm.Cond.not (Jvm.Cond.eq (Jvm.Term.static "java/lang/String" "COMPACT_STRINGS" "Z") (Jvm.Term.int (0 : Int32)))).before a0 Z = true := hW.2 _ (List.mem_of_getElem? (i := 2) rfl)
theorem s_10 {Z : State} {a0 : Array Value} (hW : W0 Z a0) : (Jvm.Cond.initializedFor "java/util/ImmutableCollections" "EMPTY" "Ljava/lang/Object;").before a0 Z = true := hW.2 _ (List.mem_of_getElem? (i := 10) rfl)
theorem s_11 {Z : State} {a0 : Array Value} (hW : W0 Z a0) : (Jvm.Cond.exactly (Jvm.Term.static "java/util/ImmutableCollections" "EMPTY" "Ljava/lang/Object;") "java/lang/Object").before a0 Z = true := hW.2 _ (List.mem_of_getElem? (i := 11) rfl)
theorem fl_0 {Z : State} {a0 : Array Value} (hW : W0 Z a0) : LaidL Z a0 "java/lang/String" fStr := ⟨⟨Or.inr (w_33 hW), (.array .byte), by decide +kernel⟩, ⟨⟨Or.inr (w_31 hW), .byte, by decide +kernel⟩, trivial⟩⟩
theorem nd_0 : (fStr.map (fun q => q.2.1)).Nodup := by decide +kernel
theorem dv_0 : fStr.map (fun q => (parseFieldDescriptor q.2.2).map defaultValue) = [.null, (.int (0 : Int32))].map some := by decide +kernel
def f_1 : FL := [("com/example/atomicity/atomicity/model/Ordering$Key", "property", "Ljava/lang/String;"), ("com/example/atomicity/atomicity/model/Ordering$Key", "descending", "Z")]
theorem fl_1 {Z : State} {a0 : Array Value} (hW : W0 Z a0) : LaidL Z a0 "com/example/atomicity/atomicity/model/Ordering$Key" f_1 := ⟨⟨Or.inr (w_60 hW), (.object "java/lang/String"), by decide +kernel⟩, ⟨⟨Or.inr (w_62 hW), .boolean, by decide +kernel⟩, trivial⟩⟩
theorem nd_1 : (f_1.map (fun q => q.2.1)).Nodup := by decide +kernel
theorem dv_1 : f_1.map (fun q => (parseFieldDescriptor q.2.2).map defaultValue) = [.null, (.int (0 : Int32))].map some := by decide +kernel
def f_2 : FL := [("java/util/ImmutableCollections$List12", "e0", "Ljava/lang/Object;"), ("java/util/ImmutableCollections$List12", "e1", "Ljava/lang/Object;")]
theorem fl_2 {Z : State} {a0 : Array Value} (hW : W0 Z a0) : LaidL Z a0 "java/util/ImmutableCollections$List12" f_2 := ⟨⟨Or.inr (w_97 hW), (.object "java/lang/Object"), by decide +kernel⟩, ⟨⟨Or.inr (w_101 hW), (.object "java/lang/Object"), by decide +kernel⟩, trivial⟩⟩
theorem nd_2 : (f_2.map (fun q => q.2.1)).Nodup := by decide +kernel
theorem dv_2 : f_2.map (fun q => (parseFieldDescriptor q.2.2).map defaultValue) = [.null, .null].map some := by decide +kernel
def f_3 : FL := [("com/example/atomicity/atomicity/model/Ordering", "keys", "Ljava/util/List;")]
theorem fl_3 {Z : State} {a0 : Array Value} (hW : W0 Z a0) : LaidL Z a0 "com/example/atomicity/atomicity/model/Ordering" f_3 := ⟨⟨Or.inr (w_116 hW), (.object "java/util/List"), by decide +kernel⟩, trivial⟩
theorem nd_3 : (f_3.map (fun q => q.2.1)).Nodup := by decide +kernel
theorem dv_3 : f_3.map (fun q => (parseFieldDescriptor q.2.2).map defaultValue) = [.null].map some := by decide +kernel
theorem own_txt_52 : (∀ c ∈ ("property" : String).toList, c.toNat < 256) ∧ ("property" : String).toList.map (fun c => Value.int (Jvm.Lit.byteI c.toNat.toUInt16)) = List.map Value.int [(112 : Int32), (114 : Int32), (111 : Int32), (112 : Int32), (101 : Int32), (114 : Int32), (116 : Int32), (121 : Int32)] := by decide +kernel
theorem own_tln_52 : (Int32.ofNat ([(112 : Int32), (114 : Int32), (111 : Int32), (112 : Int32), (101 : Int32), (114 : Int32), (116 : Int32), (121 : Int32)] : List Int32).length).toNatClampNeg = ([(112 : Int32), (114 : Int32), (111 : Int32), (112 : Int32), (101 : Int32), (114 : Int32), (116 : Int32), (121 : Int32)] : List Int32).length ∧ ¬ (Int32.ofNat ([(112 : Int32), (114 : Int32), (111 : Int32), (112 : Int32), (101 : Int32), (114 : Int32), (116 : Int32), (121 : Int32)] : List Int32).length) < 0 := by decide +kernel
theorem own_EL_mem_52 : (("com/example/atomicity/atomicity/model/Ordering$Key", 7) : String × Nat) ∈ own_EL := List.mem_of_getElem? (i := 0) rfl
theorem own_txt_165 : (∀ c ∈ ("" : String).toList, c.toNat < 256) ∧ ("" : String).toList.map (fun c => Value.int (Jvm.Lit.byteI c.toNat.toUInt16)) = List.map Value.int [] := by decide +kernel
theorem own_tln_165 : (Int32.ofNat ([] : List Int32).length).toNatClampNeg = ([] : List Int32).length ∧ ¬ (Int32.ofNat ([] : List Int32).length) < 0 := by decide +kernel
theorem own_EL_mem_165 : (("java/lang/String", 7) : String × Nat) ∈ own_EL := List.mem_of_getElem? (i := 1) rfl
theorem own_ew {Z : State} {a0 : Array Value} (hW : W0 Z a0) : EW Z a0 own_EL := (EW.cons (w_52 hW) own_txt_52.1 (EW.cons (w_165 hW) own_txt_165.1 EW.nil))
theorem own_sa {Z : State} {a0 : Array Value} (hW : W0 Z a0) : ∀ a ∈ Bundle.stringAtoms, a.before a0 Z = true := by
  intro a ha
  simp only [Bundle.stringAtoms, List.mem_cons, List.not_mem_nil, or_false] at ha
  rcases ha with rfl | rfl | rfl | rfl | rfl | rfl | rfl
  · exact (w_6 hW)
  · exact (w_5 hW)
  · exact (w_23 hW)
  · exact (w_33 hW)
  · exact (w_31 hW)
  · exact (w_53 hW)
  · exact (w_54 hW)
theorem own_cs {Z : State} {a0 : Array Value} (hW : W0 Z a0) : ∃ cz : Int32, Sta Z Z.heap "java/lang/String" "COMPACT_STRINGS" "Z" (.int cz) ∧ ¬ cz = 0 := by
  obtain ⟨cz, ev⟩ := is_v (Cond.before_iff.mp (s_1 hW))
  refine ⟨cz, Sta.start ev (Or.inl (s_0 hW)), fun e => ?_⟩
  subst e
  have q := (s_2 hW)
  simp [Cond.before, Cond.holds, Cond.value, ev, Term.int_eval] at q
theorem own_empty {Z : State} {a0 : Array Value} (hW : W0 Z a0) : ∃ fe : Addr, Sta Z Z.heap "java/util/ImmutableCollections" "EMPTY" "Ljava/lang/Object;" (.ref fe) ∧ True := by
  obtain ⟨fe, ev⟩ := exa_v (Cond.before_iff.mp (s_11 hW))
  exact ⟨fe, Sta.start ev (Or.inl (s_10 hW)), trivial⟩
set_option maxRecDepth 65536 in
set_option maxHeartbeats 40000000 in
theorem own_lp_cmp {k : KT} {l : Launch} {Z : State} {a0 : Array Value} (hW : W0 Z a0) {h0 : Heap} {a t : Addr} {cs : List Int32} {QQ : QT}
    (C : Ctx k l y_0 jdk_52_method_21_code 7 (some .int) ({ frames := 0, cells := 0, slots := 0, locals := 0 } : Room) Z a0 own_EL true [t] h0 QQ) (hcs : own_lat cs) (hne : a ≠ t) (hQ : ∀ h', Av Z h' t .byte (List.map Value.int (List.map own_b cs)) → QQ (some (.int (Int32.ofNat (List.length cs)))) h' []) :
    ∀ (n i : Nat) (h : Heap) (s6 : Slot), i + n = cs.length → Sl s6 → Av Z h a .char (List.map Value.int cs) → Av Z h t .byte (List.map Value.int ((cs.take i).map own_b ++ List.replicate n 0)) → Go k h [t] 0 0 3 #[.val (.ref a), .val (.int (Int32.ofNat i)), .val (.ref t), .val (.int (Int32.ofNat i)), .val (.int (Int32.ofNat (List.length cs))), .val (.int (Int32.ofNat i)), s6] [] := by
  intro n
  induction n with
  | zero =>
    intro i h s6 hin hs6 V U
    have hi : i = cs.length := by omega
    subst hi
    have hl := V.lenI
    refine Go.iload C d6_3 rfl ?_
    refine Go.iload C d6_5 rfl ?_
    refine Go.icmpge C d6_7 (fun hc7 => ?_) (fun hc7 => absurd hc7 (by rw [nI_lt hl hl]; omega))
    refine Go.iload C d6_44 rfl ?_
    refine Go.ireturn C d6_46 (Nat.le_of_ble_eq_true rfl) (Nat.le_of_ble_eq_true rfl) (by simp) rfl [] (fun _ hx => nomatch hx) ?_
    exact hQ _ (by simpa using U)
  | succ n ih =>
    intro i h s6 hin hs6 V U
    have hl := V.lenI
    obtain ⟨c, hci⟩ : ∃ c, cs[i]? = some c := ⟨cs[i]'(by omega), List.getElem?_eq_getElem (by omega)⟩
    refine Go.iload C d6_3 rfl ?_
    refine Go.iload C d6_5 rfl ?_
    refine Go.icmpge C d6_7 (fun hc7 => absurd ((nI_lt (by omega) hl).mpr (by omega)) hc7) (fun hc7 => ?_)
    refine Go.aloadN C d6_10 rfl rfl ?_
    refine Go.iloadN C d6_11 rfl ?_
    refine Go.caload C V i (nI_nn (by omega)) (nI_nat (by omega)) (by rw [List.getElem?_map, hci]; rfl) d6_12 ?_
    refine Go.istore C d6_13 (Ls' := #[.val (.ref a), .val (.int (Int32.ofNat i)), .val (.ref t), .val (.int (Int32.ofNat i)), .val (.int (Int32.ofNat (List.length cs))), .val (.int (Int32.ofNat i)), .val (.int c)]) (sto1 rfl hs6 rfl rfl) ?_
    refine Go.iload C d6_15 rfl ?_
    refine Go.sipush C (255 : Int32) d6_17 (by decide) ?_
    refine Go.icmple C d6_20 (fun hc20 => ?_) (fun hc20 => absurd hc20 (hcs c (List.mem_of_getElem? hci)).2)
    refine Go.aloadN C d6_26 rfl rfl ?_
    refine Go.iloadN C d6_27 rfl ?_
    refine Go.iload C d6_28 rfl ?_
    refine Go.i2b C d6_30 ?_
    refine Go.bastore C U (List.mem_of_getElem? (i := 0) rfl) i (nI_nn (by omega)) (nI_nat (by omega)) (by simp; omega) (x' := (own_b c)) (own_b_nar c) (vs' := (List.map Value.int ((cs.take (i + 1)).map own_b ++ List.replicate n 0))) (own_set (by omega) hci) d6_31 (fun h1 K2 U => ?_)
    replace V := V.keep K2 (ninS hne nin0)
    refine Go.iinc C (Int32.ofNat (i + 1)) d6_32 rfl (nI_succ _) (Ls' := #[.val (.ref a), .val (.int (Int32.ofNat (i + 1))), .val (.ref t), .val (.int (Int32.ofNat i)), .val (.int (Int32.ofNat (List.length cs))), .val (.int (Int32.ofNat i)), .val (.int c)]) rfl ?_
    refine Go.iinc C (Int32.ofNat (i + 1)) d6_35 rfl (nI_succ _) (Ls' := #[.val (.ref a), .val (.int (Int32.ofNat (i + 1))), .val (.ref t), .val (.int (Int32.ofNat (i + 1))), .val (.int (Int32.ofNat (List.length cs))), .val (.int (Int32.ofNat i)), .val (.int c)]) rfl ?_
    refine Go.iinc C (Int32.ofNat (i + 1)) d6_38 rfl (nI_succ _) (Ls' := #[.val (.ref a), .val (.int (Int32.ofNat (i + 1))), .val (.ref t), .val (.int (Int32.ofNat (i + 1))), .val (.int (Int32.ofNat (List.length cs))), .val (.int (Int32.ofNat (i + 1))), .val (.int c)]) rfl ?_
    refine Go.goto C d6_41 ?_
    exact ih (i + 1) _ _ (by omega) (Sl.val rfl) V U
def Q6 (Z : State) (h : Heap) (a : Addr) (t : Addr) (cs : List Int32) : QT := fun v h' os' => (v = some (.int (Int32.ofNat (List.length cs)))) ∧ (os' = []) ∧ (Av Z h' t .byte (List.map Value.int (List.map own_b cs)))
set_option maxRecDepth 65536 in
set_option maxHeartbeats 40000000 in
theorem rm6 {l : Launch} {Z : State} {a0 : Array Value} (hW : W0 Z a0) (h : Heap) (a : Addr) (t : Addr) (cs : List Int32) (V : Av Z h a .char (List.map Value.int cs)) (U : Av Z h t .byte (List.map Value.int (List.replicate (List.length cs) (0 : Int32)))) (hcs : own_lat cs) (hne : a ≠ t) :
    Con l Z own_EL true y_0 jdk_52_method_21_code 7 (some .int) ({ frames := 0, cells := 0, slots := 0, locals := 0 } : Room) [] #[(.ref a), (.int (0 : Int32)), (.ref t), (.int (0 : Int32)), (.int (Int32.ofNat (List.length cs)))] h [t] (Q6 Z h a t cs) := by
  refine Con.intro (a0 := a0) (Ls := #[.val (.ref a), .val (.int (0 : Int32)), .val (.ref t), .val (.int (0 : Int32)), .val (.int (Int32.ofNat (List.length cs))), .unset, .unset]) (by decide +kernel) (own_ew hW) (fun m => by first | (simp [entryFrame, mkF, argsToLocals, Value.category]; done) | rfl) ?_
  intro k C
  refine Go.iconst C (0 : Int32) d6_0 (by decide) ?_
  refine Go.istore C d6_1 (Ls' := #[.val (.ref a), .val (.int (0 : Int32)), .val (.ref t), .val (.int (0 : Int32)), .val (.int (Int32.ofNat (List.length cs))), .val (.int (0 : Int32)), .unset]) rfl ?_
  exact own_lp_cmp hW C hcs hne (fun h' q => ⟨rfl, rfl, q⟩) (List.length cs) 0 _ _ (by omega) Sl.u V (by simpa using U)
def Q5 (Z : State) (h : Heap) (a : Addr) (cs : List Int32) : QT := fun v h' os' => ∃ t : Addr, (v = some (.ref t)) ∧ (os' = [t]) ∧ (Av Z h' t .byte (List.map Value.int (List.map own_b cs)))
set_option maxRecDepth 65536 in
set_option maxHeartbeats 40000000 in
theorem rm5 {l : Launch} {Z : State} {a0 : Array Value} (hW : W0 Z a0) (h : Heap) (a : Addr) (cs : List Int32) (V : Av Z h a .char (List.map Value.int cs)) (hcs : own_lat cs) (hcap : (List.length cs) ≤ 3) :
    Con l Z own_EL true y_1 jdk_52_method_16_code 6 (some (.array .byte)) ({ frames := 1, cells := 1, slots := 3, locals := 18 } : Room) [] #[(.ref a), (.int (0 : Int32)), (.int (Int32.ofNat (List.length cs)))] h [] (Q5 Z h a cs) := by
  refine Con.intro (a0 := a0) (Ls := #[.val (.ref a), .val (.int (0 : Int32)), .val (.int (Int32.ofNat (List.length cs))), .unset, .unset, .unset]) (by decide +kernel) (own_ew hW) (fun m => by first | (simp [entryFrame, mkF, argsToLocals, Value.category]; done) | rfl) ?_
  intro k C
  have hl := V.lenI
  refine Go.iloadN C d5_0 rfl ?_
  refine Go.newarray C (aty := .byte) (w_23 hW) d5_1 (nI_nn hl) (List.length cs) (nI_nat hl) (cap := 3) hcap (by decide) (by decide) (by decide) (fun b1 h2 e3 K4 A5 => ?_)
  have A5 : Av Z h2 b1 .byte (List.replicate (List.length cs) (.int (0 : Int32))) := A5
  have ge_b1 : h.size ≤ b1 := Nat.le_trans (Nat.le_refl _) (ge_of e3)
  have n_a_b1 : a ≠ b1 := ne_lt V.lt (ge_of e3)
  replace V := V.k0 K4
  have l_h2 : h.size ≤ h2.size := Nat.le_trans (Nat.le_refl _) K4.1
  replace A5 : Av Z h2 b1 .byte (List.map Value.int (List.replicate (List.length cs) (0 : Int32))) := by rw [List.map_replicate]; exact A5
  refine Go.astoreN C d5_3 rfl (Ls' := #[.val (.ref a), .val (.int (0 : Int32)), .val (.int (Int32.ofNat (List.length cs))), .val (.ref b1), .unset, .unset]) rfl ?_
  refine Go.aloadN C d5_4 rfl rfl ?_
  refine Go.iloadN C d5_5 rfl ?_
  refine Go.aloadN C d5_6 rfl rfl ?_
  refine Go.iconst C (0 : Int32) d5_7 (by decide) ?_
  refine Go.iloadN C d5_8 rfl ?_
  refine Go.callS C (z := y_0) (argsL := [(.ref a), (.int (0 : Int32)), (.ref b1), (.int (0 : Int32)), (.int (Int32.ofNat (List.length cs)))]) (rm6 hW h2 (a) (b1) (cs) V A5 (by assumption) n_a_b1) (w_24 hW) (w_25 hW) (w_21 hW) (w_26 hW) d5_9 pd_0 rfl (by decide) rfl (st := []) rfl (by decide) (Nat.le_of_ble_eq_true rfl) (by decide) (by decide) (List.forall_mem_cons.mpr ⟨(List.mem_of_getElem? (i := 0) rfl), (fun _ hx => nomatch hx)⟩) (fun v6 h7 os8 q9 K10 ho11 => ?_)
  obtain ⟨rfl, rfl, F12⟩ := q9
  replace V := V.keep K10 (ninS n_a_b1 nin0)
  have l_h7 : h.size ≤ h7.size := Nat.le_trans l_h2 K10.1
  show Go k h7 _ _ _ 12 #[.val (.ref a), .val (.int (0 : Int32)), .val (.int (Int32.ofNat (List.length cs))), .val (.ref b1), .unset, .unset] [(.int (Int32.ofNat (List.length cs)))]
  refine Go.istore C d5_12 (Ls' := #[.val (.ref a), .val (.int (0 : Int32)), .val (.int (Int32.ofNat (List.length cs))), .val (.ref b1), .val (.int (Int32.ofNat (List.length cs))), .unset]) rfl ?_
  refine Go.iload C d5_14 rfl ?_
  refine Go.iloadN C d5_16 rfl ?_
  refine Go.icmpeq C d5_17 (fun hc17 => ?_) (fun hc17 => absurd rfl hc17)
  refine Go.aloadN C d5_57 rfl rfl ?_
  refine Go.areturn C d5_58 (Nat.le_of_ble_eq_true rfl) (Nat.le_of_ble_eq_true rfl) rfl rfl [b1] (List.forall_mem_cons.mpr ⟨⟨(List.mem_of_getElem? (i := 0) rfl), ge_b1⟩, (fun _ hx => nomatch hx)⟩) ?_
  exact ⟨_, rfl, rfl, F12⟩
def Q7 (Z : State) (h : Heap) (t : Addr) (bs : List Int32) (n : Int32) : QT := fun v h' os' => (v = some (.int (0 : Int32))) ∧ (os' = []) ∧ (h = h')
set_option maxRecDepth 65536 in
set_option maxHeartbeats 40000000 in
theorem rm7 {l : Launch} {Z : State} {a0 : Array Value} (hW : W0 Z a0) (h : Heap) (t : Addr) (bs : List Int32) (n : Int32) (V : Av Z h t .byte (List.map Value.int bs)) (hn : n = Int32.ofNat (List.length bs)) :
    Con l Z own_EL true y_2 jdk_52_method_15_code 2 (some .byte) ({ frames := 0, cells := 0, slots := 0, locals := 0 } : Room) [] #[(.ref t), (.int n)] h [] (Q7 Z h t bs n) := by
  refine Con.intro (a0 := a0) (Ls := #[.val (.ref t), .val (.int n)]) (by decide +kernel) (own_ew hW) (fun m => by first | (simp [entryFrame, mkF, argsToLocals, Value.category]; done) | rfl) ?_
  intro k C
  refine Go.iloadN C d7_0 rfl ?_
  refine Go.aloadN C d7_1 rfl rfl ?_
  refine Go.arraylength C V (Int32.ofNat (List.length bs)) (by rw [List.length_map]) d7_2 ?_
  refine Go.isub C d7_3 ?_
  refine Go.eqI (x' := (0 : Int32)) (by rw [hn, Int32.sub_self]) ?_
  refine Go.bipush C (31 : Int32) d7_4 (by decide) ?_
  refine Go.iushr C d7_6 ?_
  refine Go.eqI (x' := (0 : Int32)) (by decide) ?_
  refine Go.i2b C d7_7 ?_
  refine Go.eqI (x' := (0 : Int32)) (by decide) ?_
  refine Go.ireturn C d7_8 (Nat.le_of_ble_eq_true rfl) (Nat.le_of_ble_eq_true rfl) (by simp) rfl [] (fun _ hx => nomatch hx) ?_
  exact ⟨rfl, rfl, rfl⟩
def Q3 (Z : State) (h : Heap) (x : Addr) (a : Addr) (cs : List Int32) : QT := fun v h' os' => ∃ t : Addr, (v = none) ∧ (os' = []) ∧ (Str Z h' x t (List.map own_b cs))
set_option maxRecDepth 65536 in
set_option maxHeartbeats 40000000 in
theorem rm3 {l : Launch} {Z : State} {a0 : Array Value} (hW : W0 Z a0) (h : Heap) (x : Addr) (a : Addr) (cs : List Int32) (O : Obj Z h x "java/lang/String" fStr [.null, (.int (0 : Int32))]) (V : Av Z h a .char (List.map Value.int cs)) (hcs : own_lat cs) (hcap : (List.length cs) ≤ 3) (hxa : a ≠ x) :
    Con l Z own_EL true y_3 jdk_42_method_149_code 6 none ({ frames := 2, cells := 4, slots := 8, locals := 35 } : Room) [] #[(.ref x), (.ref a), (.int (0 : Int32)), (.int (Int32.ofNat (List.length cs))), .null] h [x] (Q3 Z h x a cs) := by
  refine Con.intro (a0 := a0) (Ls := #[.val (.ref x), .val (.ref a), .val (.int (0 : Int32)), .val (.int (Int32.ofNat (List.length cs))), .val .null, .unset]) (by decide +kernel) (own_ew hW) (fun m => by first | (simp [entryFrame, mkF, argsToLocals, Value.category]; done) | rfl) ?_
  intro k C
  obtain ⟨cz, Scs, ncz⟩ := own_cs hW
  have hl := V.lenI
  refine Go.aloadN C d3_0 rfl rfl ?_
  refine Go.initO C (w_15 hW) (w_16 hW) (w_17 hW) d3_1 rfl (by decide) (Nat.le_of_ble_eq_true rfl) ?_
  refine Go.iloadN C d3_4 rfl ?_
  refine Go.ifne C d3_5 (fun hc5 => ?_) (fun hc5 => ?_)
  · refine Go.getS C Scs (host := "") (Or.inl (w_18 hW)) Via.refl d3_27 ?_
    refine Go.ifeq C d3_30 (fun hc30 => absurd hc30 ncz) (fun hc30 => ?_)
    refine Go.aloadN C d3_33 rfl rfl ?_
    refine Go.iloadN C d3_34 rfl ?_
    refine Go.iloadN C d3_35 rfl ?_
    refine Go.callS C (z := y_1) (argsL := [(.ref a), (.int (0 : Int32)), (.int (Int32.ofNat (List.length cs)))]) (rm5 hW h (a) (cs) V (by assumption) (by assumption)) (w_19 hW) (w_20 hW) (w_21 hW) (w_22 hW) d3_36 pd_1 rfl (by decide) rfl (st := []) rfl (by decide) (Nat.le_of_ble_eq_true rfl) (by decide) (by decide) ((fun _ hx => nomatch hx)) (fun v15 h16 os17 q18 K19 ho20 => ?_)
    obtain ⟨t21, rfl, rfl, F22⟩ := q18
    have g_t21 : h.size ≤ t21 := (ho20 _ (List.mem_of_getElem? (i := 0) rfl)).1
    have n_x_t21 : x ≠ t21 := ne_lt O.lt g_t21
    have n_a_t21 : a ≠ t21 := ne_lt V.lt g_t21
    replace O := O.k0 K19
    replace V := V.k0 K19
    show Go k h16 _ _ _ 39 #[.val (.ref x), .val (.ref a), .val (.int (0 : Int32)), .val (.int (Int32.ofNat (List.length cs))), .val .null, .unset] [(.ref t21)]
    refine Go.astore C d3_39 rfl (Ls' := #[.val (.ref x), .val (.ref a), .val (.int (0 : Int32)), .val (.int (Int32.ofNat (List.length cs))), .val .null, .val (.ref t21)]) rfl ?_
    refine Go.aloadN C d3_41 rfl rfl ?_
    refine Go.aload C d3_42 rfl rfl ?_
    refine Go.iloadN C d3_44 rfl ?_
    refine Go.callS C (z := y_2) (argsL := [(.ref t21), (.int (Int32.ofNat (List.length cs)))]) (rm7 hW h16 (t21) ((List.map own_b cs)) ((Int32.ofNat (List.length cs))) F22 (by rw [List.length_map])) (w_27 hW) (w_28 hW) (w_21 hW) (w_29 hW) d3_45 pd_2 rfl (by decide) rfl (st := [(.ref x)]) rfl (by decide) (Nat.le_of_ble_eq_true rfl) (by decide) (by decide) ((fun _ hx => nomatch hx)) (fun v23 h24 os25 q26 K27 ho28 => ?_)
    obtain ⟨rfl, rfl, rfl⟩ := q26
    clear K27 ho28
    show Go k h16 _ _ _ 48 #[.val (.ref x), .val (.ref a), .val (.int (0 : Int32)), .val (.int (Int32.ofNat (List.length cs))), .val .null, .val (.ref t21)] [(.int (0 : Int32)), (.ref x)]
    refine Go.putF C O (List.mem_of_getElem? (i := 1) rfl) 1 rfl (w_30 hW) Via.refl (Or.inr ⟨w_31 hW, rfl, rfl⟩) (w_5 hW) (fl_0 hW) nd_0 (ty := .byte) (by decide +kernel) (v' := (.int (0 : Int32))) rfl rfl (vs' := [.null, (.int (0 : Int32))]) rfl d3_48 (fun h29 K30 O => ?_)
    replace V := V.keep K30 (ninS hxa nin0)
    replace F22 := F22.keep K30 (ninS (Ne.symm n_x_t21) nin0)
    refine Go.aloadN C d3_51 rfl rfl ?_
    refine Go.aload C d3_52 rfl rfl ?_
    refine Go.putF C O (List.mem_of_getElem? (i := 1) rfl) 0 rfl (w_32 hW) Via.refl (Or.inr ⟨w_33 hW, rfl, rfl⟩) (w_5 hW) (fl_0 hW) nd_0 (ty := (.array .byte)) (by decide +kernel) (v' := (.ref t21)) rfl rfl (vs' := [(.ref t21), (.int (0 : Int32))]) rfl d3_54 (fun h31 K32 O => ?_)
    replace V := V.keep K32 (ninS hxa nin0)
    replace F22 := F22.keep K32 (ninS (Ne.symm n_x_t21) nin0)
    refine Go.retV C d3_57 (Nat.le_of_ble_eq_true rfl) (Nat.le_of_ble_eq_true rfl) [] (fun _ hx => nomatch hx) ?_
    exact ⟨_, rfl, rfl, ⟨O, F22⟩⟩
  · have hnil := own_nil hl hc5
    refine Go.aloadN C d3_8 rfl rfl ?_
    refine Go.ldcStr C (w_165 hW) (own_sa hW) own_EL_mem_165 (bs := []) own_txt_165 own_tln_165 d3_9 (n := 0) (by decide) (by decide) (by decide) (by decide) (fun a1 t3 h2 K4 F5 nF5 => ?_)
    replace O := O.k0 K4
    replace V := V.k0 K4
    refine Go.getF C F5.1 0 rfl rfl (host := "") (Or.inl (w_32 hW)) Via.refl d3_11 ?_
    refine Go.putF C O (List.mem_of_getElem? (i := 0) rfl) 0 rfl (w_32 hW) Via.refl (Or.inr ⟨w_33 hW, rfl, rfl⟩) (w_5 hW) (fl_0 hW) nd_0 (ty := (.array .byte)) (by decide +kernel) (v' := (.ref t3)) rfl rfl (vs' := [(.ref t3), (.int (0 : Int32))]) rfl d3_14 (fun h6 K7 O => ?_)
    replace V := V.keep K7 (ninS hxa nin0)
    replace F5 := F5.keep K7 (ninS (nF5 x (List.mem_of_getElem? (i := 0) rfl)).1 nin0) (ninS (nF5 x (List.mem_of_getElem? (i := 0) rfl)).2 nin0)
    refine Go.aloadN C d3_17 rfl rfl ?_
    refine Go.ldcStr C (w_165 hW) (own_sa hW) own_EL_mem_165 (bs := []) own_txt_165 own_tln_165 d3_18 (n := 0) (by decide) (by decide) (by decide) (by decide) (fun a8 t10 h9 K11 F12 nF12 => ?_)
    replace O := O.k0 K11
    replace V := V.k0 K11
    replace F5 := F5.k0 K11
    refine Go.getF C F12.1 1 rfl rfl (host := "") (Or.inl (w_30 hW)) Via.refl d3_20 ?_
    refine Go.putF C O (List.mem_of_getElem? (i := 0) rfl) 1 rfl (w_30 hW) Via.refl (Or.inr ⟨w_31 hW, rfl, rfl⟩) (w_5 hW) (fl_0 hW) nd_0 (ty := .byte) (by decide +kernel) (v' := (.int (0 : Int32))) rfl rfl (vs' := [(.ref t3), (.int (0 : Int32))]) rfl d3_23 (fun h13 K14 O => ?_)
    replace V := V.keep K14 (ninS hxa nin0)
    replace F5 := F5.keep K14 (ninS (nF5 x (List.mem_of_getElem? (i := 0) rfl)).1 nin0) (ninS (nF5 x (List.mem_of_getElem? (i := 0) rfl)).2 nin0)
    replace F12 := F12.keep K14 (ninS (nF12 x (List.mem_of_getElem? (i := 0) rfl)).1 nin0) (ninS (nF12 x (List.mem_of_getElem? (i := 0) rfl)).2 nin0)
    refine Go.retV C d3_26 (Nat.le_of_ble_eq_true rfl) (Nat.le_of_ble_eq_true rfl) [] (fun _ hx => nomatch hx) ?_
    exact ⟨_, rfl, rfl, by rw [hnil]; exact ⟨O, F5.2⟩⟩
def Q2 (Z : State) (h : Heap) (x : Addr) (a : Addr) (cs : List Int32) : QT := fun v h' os' => ∃ t : Addr, (v = none) ∧ (os' = []) ∧ (Str Z h' x t (List.map own_b cs))
set_option maxRecDepth 65536 in
set_option maxHeartbeats 40000000 in
theorem rm2 {l : Launch} {Z : State} {a0 : Array Value} (hW : W0 Z a0) (h : Heap) (x : Addr) (a : Addr) (cs : List Int32) (O : Obj Z h x "java/lang/String" fStr [.null, (.int (0 : Int32))]) (V : Av Z h a .char (List.map Value.int cs)) (hcs : own_lat cs) (hcap : (List.length cs) ≤ 3) (hxa : a ≠ x) :
    Con l Z own_EL true y_4 jdk_42_method_3_code 2 none ({ frames := 3, cells := 4, slots := 8, locals := 60 } : Room) [] #[(.ref x), (.ref a)] h [x] (Q2 Z h x a cs) := by
  refine Con.intro (a0 := a0) (Ls := #[.val (.ref x), .val (.ref a)]) (by decide +kernel) (own_ew hW) (fun m => by first | (simp [entryFrame, mkF, argsToLocals, Value.category]; done) | rfl) ?_
  intro k C
  refine Go.aloadN C d2_0 rfl rfl ?_
  refine Go.aloadN C d2_1 rfl rfl ?_
  refine Go.iconst C (0 : Int32) d2_2 (by decide) ?_
  refine Go.aloadN C d2_3 rfl rfl ?_
  refine Go.arraylength C V (Int32.ofNat (List.length cs)) (by rw [List.length_map]) d2_4 ?_
  refine Go.aconstNull C d2_5 ?_
  refine Go.callI C (z := y_3) (a := x) (argsL := [(.ref a), (.int (0 : Int32)), (.int (Int32.ofNat (List.length cs))), .null]) (rm3 hW h (x) (a) (cs) O V (by assumption) (by assumption) (by assumption)) rfl (w_11 hW) (w_12 hW) (w_6 hW) (w_14 hW) d2_6 pd_3 rfl (by decide) rfl (st := []) rfl (by decide) (Nat.le_of_ble_eq_true rfl) (by decide) (by decide) (List.forall_mem_cons.mpr ⟨(List.mem_of_getElem? (i := 0) rfl), (fun _ hx => nomatch hx)⟩) (fun v1 h2 os3 q4 K5 ho6 => ?_)
  obtain ⟨t7, rfl, rfl, F8⟩ := q4
  replace V := V.keep K5 (ninS hxa nin0)
  show Go k h2 _ _ _ 9 #[.val (.ref x), .val (.ref a)] []
  refine Go.retV C d2_9 (Nat.le_of_ble_eq_true rfl) (Nat.le_of_ble_eq_true rfl) [] (fun _ hx => nomatch hx) ?_
  exact ⟨_, rfl, rfl, F8⟩
def Q25 (Z : State) (h : Heap) (a : Addr) : QT := fun v h' os' => (v = some (.int (1 : Int32))) ∧ (os' = []) ∧ (h = h')
set_option maxRecDepth 65536 in
set_option maxHeartbeats 40000000 in
theorem rm25 {l : Launch} {Z : State} {a0 : Array Value} (hW : W0 Z a0) (h : Heap) (a : Addr) :
    Con l Z own_EL true y_5 jdk_42_method_66_code 3 (some .boolean) ({ frames := 0, cells := 0, slots := 0, locals := 0 } : Room) [] #[(.ref a), (.ref a)] h [] (Q25 Z h a) := by
  refine Con.intro (a0 := a0) (Ls := #[.val (.ref a), .val (.ref a), .unset]) (by decide +kernel) (own_ew hW) (fun m => by first | (simp [entryFrame, mkF, argsToLocals, Value.category]; done) | rfl) ?_
  intro k C
  refine Go.aloadN C d25_0 rfl rfl ?_
  refine Go.aloadN C d25_1 rfl rfl ?_
  refine Go.acmp C true d25_2 rfl rfl (decide_eq_true rfl) (pcN := 5) rfl ?_
  refine Go.iconst C (1 : Int32) d25_5 (by decide) ?_
  refine Go.ireturn C d25_6 (Nat.le_of_ble_eq_true rfl) (Nat.le_of_ble_eq_true rfl) (by simp) rfl [] (fun _ hx => nomatch hx) ?_
  exact ⟨rfl, rfl, rfl⟩
def Q27 (Z : State) (h : Heap) (a : Addr) (ta : Addr) (xs : List Int32) : QT := fun v h' os' => (v = some (.int (0 : Int32))) ∧ (os' = []) ∧ (h = h')
set_option maxRecDepth 65536 in
set_option maxHeartbeats 40000000 in
theorem rm27 {l : Launch} {Z : State} {a0 : Array Value} (hW : W0 Z a0) (h : Heap) (a : Addr) (ta : Addr) (xs : List Int32) (S : Str Z h a ta xs) :
    Con l Z own_EL true y_6 jdk_42_method_152_code 1 (some .byte) ({ frames := 0, cells := 0, slots := 0, locals := 0 } : Room) [] #[(.ref a)] h [] (Q27 Z h a ta xs) := by
  refine Con.intro (a0 := a0) (Ls := #[.val (.ref a)]) (by decide +kernel) (own_ew hW) (fun m => by first | (simp [entryFrame, mkF, argsToLocals, Value.category]; done) | rfl) ?_
  intro k C
  obtain ⟨cz, Scs, ncz⟩ := own_cs hW
  refine Go.getS C Scs (host := "") (Or.inl (w_18 hW)) Via.refl d27_0 ?_
  refine Go.ifeq C d27_3 (fun hc3 => absurd hc3 ncz) (fun hc3 => ?_)
  refine Go.aloadN C d27_6 rfl rfl ?_
  refine Go.getF C S.1 1 rfl rfl (host := "") (Or.inl (w_30 hW)) Via.refl d27_7 ?_
  refine Go.goto C d27_10 ?_
  refine Go.ireturn C d27_14 (Nat.le_of_ble_eq_true rfl) (Nat.le_of_ble_eq_true rfl) (by simp) rfl [] (fun _ hx => nomatch hx) ?_
  exact ⟨rfl, rfl, rfl⟩
def Q26 (Z : State) (h : Heap) (a : Addr) (ta : Addr) (xs : List Int32) : QT := fun v h' os' => (v = some (.int (Int32.ofNat (List.length xs)))) ∧ (os' = []) ∧ (h = h')
set_option maxRecDepth 65536 in
set_option maxHeartbeats 40000000 in
theorem rm26 {l : Launch} {Z : State} {a0 : Array Value} (hW : W0 Z a0) (h : Heap) (a : Addr) (ta : Addr) (xs : List Int32) (S : Str Z h a ta xs) :
    Con l Z own_EL true y_7 jdk_42_method_54_code 1 (some .int) ({ frames := 1, cells := 0, slots := 0, locals := 13 } : Room) [] #[(.ref a)] h [] (Q26 Z h a ta xs) := by
  refine Con.intro (a0 := a0) (Ls := #[.val (.ref a)]) (by decide +kernel) (own_ew hW) (fun m => by first | (simp [entryFrame, mkF, argsToLocals, Value.category]; done) | rfl) ?_
  intro k C
  have SV := S.2
  refine Go.aloadN C d26_0 rfl rfl ?_
  refine Go.getF C S.1 0 rfl rfl (host := "") (Or.inl (w_32 hW)) Via.refl d26_1 ?_
  refine Go.arraylength C SV (Int32.ofNat (List.length xs)) (by rw [List.length_map]) d26_4 ?_
  refine Go.aloadN C d26_5 rfl rfl ?_
  refine Go.callV C (z := y_6) (zr := y_6) (a := a) (argsL := []) (rm27 hW h (a) (ta) (xs) S) S.exa (w_155 hW) (w_156 hW) (fun hz => notFace_of_selects (args := #[]) (mvT hz (w_158 hW))) (w_158 hW) (w_157 hW) (w_6 hW) (w_159 hW) d26_6 pd_4 rfl (by decide) rfl (st := [(.int (Int32.ofNat (List.length xs)))]) rfl (by decide) (Nat.le_of_ble_eq_true rfl) (by decide) (by decide) ((fun _ hx => nomatch hx)) (fun v1 h2 os3 q4 K5 ho6 => ?_)
  obtain ⟨rfl, rfl, rfl⟩ := q4
  clear K5 ho6
  show Go k h _ _ _ 9 #[.val (.ref a)] [(.int (0 : Int32)), (.int (Int32.ofNat (List.length xs)))]
  refine Go.ishr C d26_9 ?_
  refine Go.eqI (x' := (Int32.ofNat (List.length xs))) (own_shr0 _) ?_
  refine Go.ireturn C d26_10 (Nat.le_of_ble_eq_true rfl) (Nat.le_of_ble_eq_true rfl) (by simp) rfl [] (fun _ hx => nomatch hx) ?_
  exact ⟨rfl, rfl, rfl⟩
def Q1 (Z : State) (h : Heap) (p : Int32) (q : Int32) (r : Int32) (n : Int32) : QT := fun v h' os' => ∃ rr : Addr, ∃ t : Addr, ∃ bs : List Int32, (v = some (.ref rr)) ∧ (os' = []) ∧ (Int32.ofNat (List.length bs) = (n &&& (3 : Int32))) ∧ (Str Z h' rr t bs)
set_option maxRecDepth 65536 in
set_option maxHeartbeats 40000000 in
theorem rm1 {l : Launch} {Z : State} {a0 : Array Value} (hW : W0 Z a0) (h : Heap) (p : Int32) (q : Int32) (r : Int32) (n : Int32) :
    Con l Z own_EL true y_8 method_2_code 8 (some (.object "java/lang/String")) ({ frames := 4, cells := 6, slots := 16, locals := 90 } : Room) [] #[(.int p), (.int q), (.int r), (.int n)] h [] (Q1 Z h p q r n) := by
  refine Con.intro (a0 := a0) (Ls := #[.val (.int p), .val (.int q), .val (.int r), .val (.int n), .unset, .unset, .unset, .unset]) (by decide +kernel) (own_ew hW) (fun m => by first | (simp [entryFrame, mkF, argsToLocals, Value.category]; done) | rfl) ?_
  intro k C
  refine Go.iloadN C d1_0 rfl ?_
  refine Go.sipush C (255 : Int32) d1_1 (by decide) ?_
  refine Go.iand C d1_4 ?_
  refine Go.i2c C d1_5 ?_
  generalize e_c0 : ((p &&& (255 : Int32)).toUInt32.toUInt16.toUInt32.toInt32) = c0
  have h_c0 := own_c8i e_c0
  refine Go.istore C d1_6 (Ls' := #[.val (.int p), .val (.int q), .val (.int r), .val (.int n), .val (.int c0), .unset, .unset, .unset]) rfl ?_
  refine Go.iloadN C d1_8 rfl ?_
  refine Go.sipush C (255 : Int32) d1_9 (by decide) ?_
  refine Go.iand C d1_12 ?_
  refine Go.i2c C d1_13 ?_
  generalize e_c1 : ((q &&& (255 : Int32)).toUInt32.toUInt16.toUInt32.toInt32) = c1
  have h_c1 := own_c8i e_c1
  refine Go.istore C d1_14 (Ls' := #[.val (.int p), .val (.int q), .val (.int r), .val (.int n), .val (.int c0), .val (.int c1), .unset, .unset]) rfl ?_
  refine Go.iloadN C d1_16 rfl ?_
  refine Go.sipush C (255 : Int32) d1_17 (by decide) ?_
  refine Go.iand C d1_20 ?_
  refine Go.i2c C d1_21 ?_
  generalize e_c2 : ((r &&& (255 : Int32)).toUInt32.toUInt16.toUInt32.toInt32) = c2
  have h_c2 := own_c8i e_c2
  refine Go.istore C d1_22 (Ls' := #[.val (.int p), .val (.int q), .val (.int r), .val (.int n), .val (.int c0), .val (.int c1), .val (.int c2), .unset]) rfl ?_
  refine Go.iloadN C d1_24 rfl ?_
  refine Go.iconst C (3 : Int32) d1_25 (by decide) ?_
  refine Go.iand C d1_26 ?_
  generalize e_m : (n &&& (3 : Int32)) = m
  have h_m := own_k4 e_m
  refine Go.istore C d1_27 (Ls' := #[.val (.int p), .val (.int q), .val (.int r), .val (.int n), .val (.int c0), .val (.int c1), .val (.int c2), .val (.int m)]) rfl ?_
  refine Go.iload C d1_29 rfl ?_
  refine Go.ifne C d1_31 (fun hc31 => ?_) (fun hc31 => ?_)
  · refine Go.iload C d1_45 rfl ?_
    refine Go.iconst C (1 : Int32) d1_47 (by decide) ?_
    refine Go.icmpne C d1_48 (fun hc48 => ?_) (fun hc48 => ?_)
    · refine Go.iload C d1_67 rfl ?_
      refine Go.iconst C (2 : Int32) d1_69 (by decide) ?_
      refine Go.icmpne C d1_70 (fun hc70 => ?_) (fun hc70 => ?_)
      · refine Go.new C (w_4 hW) (w_5 hW) (w_6 hW) (fl_0 hW) dv_0 d1_94 (by decide) (by decide) (fun b61 h62 e63 K64 O65 => ?_)
        refine Go.dup C d1_97 rfl ?_
        refine Go.iconst C (3 : Int32) d1_98 (by decide) ?_
        refine Go.newarray C (aty := .char) (w_7 hW) d1_99 (by decide) 3 rfl (cap := 3) (by decide) (by decide) (by decide) (by decide) (fun b66 h67 e68 K69 A70 => ?_)
        have A70 : Av Z h67 b66 .char [(.int (0 : Int32)), (.int (0 : Int32)), (.int (0 : Int32))] := A70
        have n_b61_b66 : b61 ≠ b66 := ne_lt O65.lt (ge_of e68)
        replace O65 := O65.k0 K69
        refine Go.dup C d1_101 rfl ?_
        refine Go.iconst C (0 : Int32) d1_102 (by decide) ?_
        refine Go.iload C d1_103 rfl ?_
        refine Go.castore C A70 (List.mem_of_getElem? (i := 0) rfl) 0 (by decide) rfl (Nat.le_of_ble_eq_true rfl) (x' := c0) (own_nar_lat h_c0) (vs' := [(.int c0), (.int (0 : Int32)), (.int (0 : Int32))]) rfl d1_105 (fun h71 K72 A70 => ?_)
        replace O65 := O65.keep K72 (ninS n_b61_b66 nin0)
        refine Go.dup C d1_106 rfl ?_
        refine Go.iconst C (1 : Int32) d1_107 (by decide) ?_
        refine Go.iload C d1_108 rfl ?_
        refine Go.castore C A70 (List.mem_of_getElem? (i := 0) rfl) 1 (by decide) rfl (Nat.le_of_ble_eq_true rfl) (x' := c1) (own_nar_lat h_c1) (vs' := [(.int c0), (.int c1), (.int (0 : Int32))]) rfl d1_110 (fun h73 K74 A70 => ?_)
        replace O65 := O65.keep K74 (ninS n_b61_b66 nin0)
        refine Go.dup C d1_111 rfl ?_
        refine Go.iconst C (2 : Int32) d1_112 (by decide) ?_
        refine Go.iload C d1_113 rfl ?_
        refine Go.castore C A70 (List.mem_of_getElem? (i := 0) rfl) 2 (by decide) rfl (Nat.le_of_ble_eq_true rfl) (x' := c2) (own_nar_lat h_c2) (vs' := [(.int c0), (.int c1), (.int c2)]) rfl d1_115 (fun h75 K76 A70 => ?_)
        replace O65 := O65.keep K76 (ninS n_b61_b66 nin0)
        have A70 : Av Z h75 b66 .char (List.map Value.int ([c0, c1, c2] : List Int32)) := A70
        refine Go.callI C (z := y_4) (a := b61) (argsL := [(.ref b66)]) (rm2 hW h75 (b61) (b66) ([c0, c1, c2]) O65 A70 (own_lat3 h_c0 h_c1 h_c2) (Nat.le_of_ble_eq_true rfl) (Ne.symm n_b61_b66)) rfl (w_8 hW) (w_9 hW) (w_6 hW) (w_10 hW) d1_116 pd_5 rfl (by decide) rfl (st := [(.ref b61)]) rfl (by decide) (Nat.le_of_ble_eq_true rfl) (by decide) (by decide) (List.forall_mem_cons.mpr ⟨(List.mem_of_getElem? (i := 1) rfl), (fun _ hx => nomatch hx)⟩) (fun v77 h78 os79 q80 K81 ho82 => ?_)
        obtain ⟨t83, rfl, rfl, F84⟩ := q80
        replace A70 := A70.keep K81 (ninS (Ne.symm n_b61_b66) nin0)
        show Go k h78 _ _ _ 119 #[.val (.int p), .val (.int q), .val (.int r), .val (.int n), .val (.int c0), .val (.int c1), .val (.int c2), .val (.int m)] [(.ref b61)]
        refine Go.areturn C d1_119 (Nat.le_of_ble_eq_true rfl) (Nat.le_of_ble_eq_true rfl) rfl rfl [] (fun _ hx => nomatch hx) ?_
        exact ⟨_, _, _, rfl, rfl, by rw [e_m, own_k3 h_m hc31 hc48 hc70]; rfl, F84⟩
      · refine Go.new C (w_4 hW) (w_5 hW) (w_6 hW) (fl_0 hW) dv_0 d1_73 (by decide) (by decide) (fun b39 h40 e41 K42 O43 => ?_)
        refine Go.dup C d1_76 rfl ?_
        refine Go.iconst C (2 : Int32) d1_77 (by decide) ?_
        refine Go.newarray C (aty := .char) (w_7 hW) d1_78 (by decide) 2 rfl (cap := 2) (by decide) (by decide) (by decide) (by decide) (fun b44 h45 e46 K47 A48 => ?_)
        have A48 : Av Z h45 b44 .char [(.int (0 : Int32)), (.int (0 : Int32))] := A48
        have n_b39_b44 : b39 ≠ b44 := ne_lt O43.lt (ge_of e46)
        replace O43 := O43.k0 K47
        refine Go.dup C d1_80 rfl ?_
        refine Go.iconst C (0 : Int32) d1_81 (by decide) ?_
        refine Go.iload C d1_82 rfl ?_
        refine Go.castore C A48 (List.mem_of_getElem? (i := 0) rfl) 0 (by decide) rfl (Nat.le_of_ble_eq_true rfl) (x' := c0) (own_nar_lat h_c0) (vs' := [(.int c0), (.int (0 : Int32))]) rfl d1_84 (fun h49 K50 A48 => ?_)
        replace O43 := O43.keep K50 (ninS n_b39_b44 nin0)
        refine Go.dup C d1_85 rfl ?_
        refine Go.iconst C (1 : Int32) d1_86 (by decide) ?_
        refine Go.iload C d1_87 rfl ?_
        refine Go.castore C A48 (List.mem_of_getElem? (i := 0) rfl) 1 (by decide) rfl (Nat.le_of_ble_eq_true rfl) (x' := c1) (own_nar_lat h_c1) (vs' := [(.int c0), (.int c1)]) rfl d1_89 (fun h51 K52 A48 => ?_)
        replace O43 := O43.keep K52 (ninS n_b39_b44 nin0)
        have A48 : Av Z h51 b44 .char (List.map Value.int ([c0, c1] : List Int32)) := A48
        refine Go.callI C (z := y_4) (a := b39) (argsL := [(.ref b44)]) (rm2 hW h51 (b39) (b44) ([c0, c1]) O43 A48 (own_lat2 h_c0 h_c1) (Nat.le_of_ble_eq_true rfl) (Ne.symm n_b39_b44)) rfl (w_8 hW) (w_9 hW) (w_6 hW) (w_10 hW) d1_90 pd_5 rfl (by decide) rfl (st := [(.ref b39)]) rfl (by decide) (Nat.le_of_ble_eq_true rfl) (by decide) (by decide) (List.forall_mem_cons.mpr ⟨(List.mem_of_getElem? (i := 1) rfl), (fun _ hx => nomatch hx)⟩) (fun v53 h54 os55 q56 K57 ho58 => ?_)
        obtain ⟨t59, rfl, rfl, F60⟩ := q56
        replace A48 := A48.keep K57 (ninS (Ne.symm n_b39_b44) nin0)
        show Go k h54 _ _ _ 93 #[.val (.int p), .val (.int q), .val (.int r), .val (.int n), .val (.int c0), .val (.int c1), .val (.int c2), .val (.int m)] [(.ref b39)]
        refine Go.areturn C d1_93 (Nat.le_of_ble_eq_true rfl) (Nat.le_of_ble_eq_true rfl) rfl rfl [] (fun _ hx => nomatch hx) ?_
        exact ⟨_, _, _, rfl, rfl, by rw [e_m, hc70]; rfl, F60⟩
    · refine Go.new C (w_4 hW) (w_5 hW) (w_6 hW) (fl_0 hW) dv_0 d1_51 (by decide) (by decide) (fun b19 h20 e21 K22 O23 => ?_)
      refine Go.dup C d1_54 rfl ?_
      refine Go.iconst C (1 : Int32) d1_55 (by decide) ?_
      refine Go.newarray C (aty := .char) (w_7 hW) d1_56 (by decide) 1 rfl (cap := 1) (by decide) (by decide) (by decide) (by decide) (fun b24 h25 e26 K27 A28 => ?_)
      have A28 : Av Z h25 b24 .char [(.int (0 : Int32))] := A28
      have n_b19_b24 : b19 ≠ b24 := ne_lt O23.lt (ge_of e26)
      replace O23 := O23.k0 K27
      refine Go.dup C d1_58 rfl ?_
      refine Go.iconst C (0 : Int32) d1_59 (by decide) ?_
      refine Go.iload C d1_60 rfl ?_
      refine Go.castore C A28 (List.mem_of_getElem? (i := 0) rfl) 0 (by decide) rfl (Nat.le_of_ble_eq_true rfl) (x' := c0) (own_nar_lat h_c0) (vs' := [(.int c0)]) rfl d1_62 (fun h29 K30 A28 => ?_)
      replace O23 := O23.keep K30 (ninS n_b19_b24 nin0)
      have A28 : Av Z h29 b24 .char (List.map Value.int ([c0] : List Int32)) := A28
      refine Go.callI C (z := y_4) (a := b19) (argsL := [(.ref b24)]) (rm2 hW h29 (b19) (b24) ([c0]) O23 A28 (own_lat1 h_c0) (Nat.le_of_ble_eq_true rfl) (Ne.symm n_b19_b24)) rfl (w_8 hW) (w_9 hW) (w_6 hW) (w_10 hW) d1_63 pd_5 rfl (by decide) rfl (st := [(.ref b19)]) rfl (by decide) (Nat.le_of_ble_eq_true rfl) (by decide) (by decide) (List.forall_mem_cons.mpr ⟨(List.mem_of_getElem? (i := 1) rfl), (fun _ hx => nomatch hx)⟩) (fun v31 h32 os33 q34 K35 ho36 => ?_)
      obtain ⟨t37, rfl, rfl, F38⟩ := q34
      replace A28 := A28.keep K35 (ninS (Ne.symm n_b19_b24) nin0)
      show Go k h32 _ _ _ 66 #[.val (.int p), .val (.int q), .val (.int r), .val (.int n), .val (.int c0), .val (.int c1), .val (.int c2), .val (.int m)] [(.ref b19)]
      refine Go.areturn C d1_66 (Nat.le_of_ble_eq_true rfl) (Nat.le_of_ble_eq_true rfl) rfl rfl [] (fun _ hx => nomatch hx) ?_
      exact ⟨_, _, _, rfl, rfl, by rw [e_m, hc48]; rfl, F38⟩
  · refine Go.new C (w_4 hW) (w_5 hW) (w_6 hW) (fl_0 hW) dv_0 d1_34 (by decide) (by decide) (fun b1 h2 e3 K4 O5 => ?_)
    refine Go.dup C d1_37 rfl ?_
    refine Go.iconst C (0 : Int32) d1_38 (by decide) ?_
    refine Go.newarray C (aty := .char) (w_7 hW) d1_39 (by decide) 0 rfl (cap := 0) (by decide) (by decide) (by decide) (by decide) (fun b6 h7 e8 K9 A10 => ?_)
    have A10 : Av Z h7 b6 .char [] := A10
    have n_b1_b6 : b1 ≠ b6 := ne_lt O5.lt (ge_of e8)
    replace O5 := O5.k0 K9
    have A10 : Av Z h7 b6 .char (List.map Value.int ([] : List Int32)) := A10
    refine Go.callI C (z := y_4) (a := b1) (argsL := [(.ref b6)]) (rm2 hW h7 (b1) (b6) ([]) O5 A10 (fun _ hx => nomatch hx) (Nat.le_of_ble_eq_true rfl) (Ne.symm n_b1_b6)) rfl (w_8 hW) (w_9 hW) (w_6 hW) (w_10 hW) d1_41 pd_5 rfl (by decide) rfl (st := [(.ref b1)]) rfl (by decide) (Nat.le_of_ble_eq_true rfl) (by decide) (by decide) (List.forall_mem_cons.mpr ⟨(List.mem_of_getElem? (i := 1) rfl), (fun _ hx => nomatch hx)⟩) (fun v11 h12 os13 q14 K15 ho16 => ?_)
    obtain ⟨t17, rfl, rfl, F18⟩ := q14
    replace A10 := A10.keep K15 (ninS (Ne.symm n_b1_b6) nin0)
    show Go k h12 _ _ _ 44 #[.val (.int p), .val (.int q), .val (.int r), .val (.int n), .val (.int c0), .val (.int c1), .val (.int c2), .val (.int m)] [(.ref b1)]
    refine Go.areturn C d1_44 (Nat.le_of_ble_eq_true rfl) (Nat.le_of_ble_eq_true rfl) rfl rfl [] (fun _ hx => nomatch hx) ?_
    exact ⟨_, _, _, rfl, rfl, by rw [e_m, hc31]; rfl, F18⟩
def Q10 (Z : State) (h : Heap) (x : Addr) : QT := fun v h' os' => (v = none) ∧ (os' = []) ∧ (h = h')
set_option maxRecDepth 65536 in
set_option maxHeartbeats 40000000 in
theorem rm10 {l : Launch} {Z : State} {a0 : Array Value} (hW : W0 Z a0) (h : Heap) (x : Addr) :
    Con l Z own_EL true y_9 jdk_30_method_1_code 1 none ({ frames := 1, cells := 0, slots := 0, locals := 12 } : Room) [] #[(.ref x)] h [] (Q10 Z h x) := by
  refine Con.intro (a0 := a0) (Ls := #[.val (.ref x)]) (by decide +kernel) (own_ew hW) (fun m => by first | (simp [entryFrame, mkF, argsToLocals, Value.category]; done) | rfl) ?_
  intro k C
  refine Go.aloadN C d10_0 rfl rfl ?_
  refine Go.initO C (w_51 hW) (w_16 hW) (w_17 hW) d10_1 rfl (by decide) (Nat.le_of_ble_eq_true rfl) ?_
  refine Go.retV C d10_4 (Nat.le_of_ble_eq_true rfl) (Nat.le_of_ble_eq_true rfl) [] (fun _ hx => nomatch hx) ?_
  exact ⟨rfl, rfl, rfl⟩
def Q16 (Z : State) (h : Heap) (x : Addr) : QT := fun v h' os' => (v = none) ∧ (os' = []) ∧ (h = h')
set_option maxRecDepth 65536 in
set_option maxHeartbeats 40000000 in
theorem rm16 {l : Launch} {Z : State} {a0 : Array Value} (hW : W0 Z a0) (h : Heap) (x : Addr) :
    Con l Z own_EL true y_10 jdk_22_method_1_code 1 none ({ frames := 1, cells := 0, slots := 0, locals := 12 } : Room) [] #[(.ref x)] h [] (Q16 Z h x) := by
  refine Con.intro (a0 := a0) (Ls := #[.val (.ref x)]) (by decide +kernel) (own_ew hW) (fun m => by first | (simp [entryFrame, mkF, argsToLocals, Value.category]; done) | rfl) ?_
  intro k C
  refine Go.aloadN C d16_0 rfl rfl ?_
  refine Go.initO C (w_92 hW) (w_16 hW) (w_17 hW) d16_1 rfl (by decide) (Nat.le_of_ble_eq_true rfl) ?_
  refine Go.retV C d16_4 (Nat.le_of_ble_eq_true rfl) (Nat.le_of_ble_eq_true rfl) [] (fun _ hx => nomatch hx) ?_
  exact ⟨rfl, rfl, rfl⟩
def Q15 (Z : State) (h : Heap) (x : Addr) : QT := fun v h' os' => (v = none) ∧ (os' = []) ∧ (h = h')
set_option maxRecDepth 65536 in
set_option maxHeartbeats 40000000 in
theorem rm15 {l : Launch} {Z : State} {a0 : Array Value} (hW : W0 Z a0) (h : Heap) (x : Addr) :
    Con l Z own_EL true y_11 jdk_47_method_1_code 1 none ({ frames := 2, cells := 0, slots := 0, locals := 24 } : Room) [] #[(.ref x)] h [] (Q15 Z h x) := by
  refine Con.intro (a0 := a0) (Ls := #[.val (.ref x)]) (by decide +kernel) (own_ew hW) (fun m => by first | (simp [entryFrame, mkF, argsToLocals, Value.category]; done) | rfl) ?_
  intro k C
  refine Go.aloadN C d15_0 rfl rfl ?_
  refine Go.callI C (z := y_10) (a := x) (argsL := []) (rm16 hW h (x)) rfl (w_86 hW) (w_87 hW) (w_90 hW) (w_91 hW) d15_1 pd_6 rfl (by decide) rfl (st := []) rfl (by decide) (Nat.le_of_ble_eq_true rfl) (by decide) (by decide) ((fun _ hx => nomatch hx)) (fun v1 h2 os3 q4 K5 ho6 => ?_)
  obtain ⟨rfl, rfl, rfl⟩ := q4
  clear K5 ho6
  show Go k h _ _ _ 4 #[.val (.ref x)] []
  refine Go.retV C d15_4 (Nat.le_of_ble_eq_true rfl) (Nat.le_of_ble_eq_true rfl) [] (fun _ hx => nomatch hx) ?_
  exact ⟨rfl, rfl, rfl⟩
def Q14 (Z : State) (h : Heap) (x : Addr) : QT := fun v h' os' => (v = none) ∧ (os' = []) ∧ (h = h')
set_option maxRecDepth 65536 in
set_option maxHeartbeats 40000000 in
theorem rm14 {l : Launch} {Z : State} {a0 : Array Value} (hW : W0 Z a0) (h : Heap) (x : Addr) :
    Con l Z own_EL true y_12 jdk_46_method_1_code 1 none ({ frames := 3, cells := 0, slots := 0, locals := 36 } : Room) [] #[(.ref x)] h [] (Q14 Z h x) := by
  refine Con.intro (a0 := a0) (Ls := #[.val (.ref x)]) (by decide +kernel) (own_ew hW) (fun m => by first | (simp [entryFrame, mkF, argsToLocals, Value.category]; done) | rfl) ?_
  intro k C
  refine Go.aloadN C d14_0 rfl rfl ?_
  refine Go.callI C (z := y_11) (a := x) (argsL := []) (rm15 hW h (x)) rfl (w_80 hW) (w_81 hW) (w_84 hW) (w_85 hW) d14_1 pd_6 rfl (by decide) rfl (st := []) rfl (by decide) (Nat.le_of_ble_eq_true rfl) (by decide) (by decide) ((fun _ hx => nomatch hx)) (fun v1 h2 os3 q4 K5 ho6 => ?_)
  obtain ⟨rfl, rfl, rfl⟩ := q4
  clear K5 ho6
  show Go k h _ _ _ 4 #[.val (.ref x)] []
  refine Go.retV C d14_4 (Nat.le_of_ble_eq_true rfl) (Nat.le_of_ble_eq_true rfl) [] (fun _ hx => nomatch hx) ?_
  exact ⟨rfl, rfl, rfl⟩
def Q17 (Z : State) (h : Heap) (x : Addr) : QT := fun v h' os' => (v = some (.ref x)) ∧ (os' = []) ∧ (h = h')
set_option maxRecDepth 65536 in
set_option maxHeartbeats 40000000 in
theorem rm17 {l : Launch} {Z : State} {a0 : Array Value} (hW : W0 Z a0) (h : Heap) (x : Addr) :
    Con l Z own_EL true y_13 jdk_31_method_10_code 1 (some (.object "java/lang/Object")) ({ frames := 0, cells := 0, slots := 0, locals := 0 } : Room) [] #[(.ref x)] h [] (Q17 Z h x) := by
  refine Con.intro (a0 := a0) (Ls := #[.val (.ref x)]) (by decide +kernel) (own_ew hW) (fun m => by first | (simp [entryFrame, mkF, argsToLocals, Value.category]; done) | rfl) ?_
  intro k C
  refine Go.aloadN C d17_0 rfl rfl ?_
  refine Go.ifnonnullY C d17_1 ?_
  refine Go.aloadN C d17_12 rfl rfl ?_
  refine Go.areturn C d17_13 (Nat.le_of_ble_eq_true rfl) (Nat.le_of_ble_eq_true rfl) rfl rfl [] (fun _ hx => nomatch hx) ?_
  exact ⟨rfl, rfl, rfl⟩
def Q11 (Z : State) (h : Heap) (x : Addr) (m : Addr) : QT := fun v h' os' => (v = some (.ref x)) ∧ (os' = []) ∧ (h = h')
set_option maxRecDepth 65536 in
set_option maxHeartbeats 40000000 in
theorem rm11 {l : Launch} {Z : State} {a0 : Array Value} (hW : W0 Z a0) (h : Heap) (x : Addr) (m : Addr) :
    Con l Z own_EL true y_14 jdk_31_method_11_code 2 (some (.object "java/lang/Object")) ({ frames := 0, cells := 0, slots := 0, locals := 0 } : Room) [] #[(.ref x), (.ref m)] h [] (Q11 Z h x m) := by
  refine Con.intro (a0 := a0) (Ls := #[.val (.ref x), .val (.ref m)]) (by decide +kernel) (own_ew hW) (fun m => by first | (simp [entryFrame, mkF, argsToLocals, Value.category]; done) | rfl) ?_
  intro k C
  refine Go.aloadN C d11_0 rfl rfl ?_
  refine Go.ifnonnullY C d11_1 ?_
  refine Go.aloadN C d11_13 rfl rfl ?_
  refine Go.areturn C d11_14 (Nat.le_of_ble_eq_true rfl) (Nat.le_of_ble_eq_true rfl) rfl rfl [] (fun _ hx => nomatch hx) ?_
  exact ⟨rfl, rfl, rfl⟩
def Q9 (Z : State) (h : Heap) (t : Addr) (a : Addr) : QT := fun v h' os' => (v = none) ∧ (os' = []) ∧ (Obj Z h' t "com/example/atomicity/atomicity/model/Ordering$Key" f_1 [(.ref a), (.int (0 : Int32))])
set_option maxRecDepth 65536 in
set_option maxHeartbeats 40000000 in
theorem rm9 {l : Launch} {Z : State} {a0 : Array Value} (hW : W0 Z a0) (h : Heap) (t : Addr) (a : Addr) (O : Obj Z h t "com/example/atomicity/atomicity/model/Ordering$Key" f_1 [.null, (.int (0 : Int32))]) :
    Con l Z own_EL true y_15 prog_62_method_1_code 3 none ({ frames := 2, cells := 2, slots := 36, locals := 24 } : Room) [] #[(.ref t), (.ref a), (.int (0 : Int32))] h [t] (Q9 Z h t a) := by
  refine Con.intro (a0 := a0) (Ls := #[.val (.ref t), .val (.ref a), .val (.int (0 : Int32))]) (by decide +kernel) (own_ew hW) (fun m => by first | (simp [entryFrame, mkF, argsToLocals, Value.category]; done) | rfl) ?_
  intro k C
  refine Go.aloadN C d9_0 rfl rfl ?_
  refine Go.callI C (z := y_9) (a := t) (argsL := []) (rm10 hW h (t)) rfl (w_46 hW) (w_47 hW) (w_49 hW) (w_50 hW) d9_1 pd_6 rfl (by decide) rfl (st := []) rfl (by decide) (Nat.le_of_ble_eq_true rfl) (by decide) (by decide) ((fun _ hx => nomatch hx)) (fun v1 h2 os3 q4 K5 ho6 => ?_)
  obtain ⟨rfl, rfl, rfl⟩ := q4
  clear K5 ho6
  show Go k h _ _ _ 4 #[.val (.ref t), .val (.ref a), .val (.int (0 : Int32))] []
  refine Go.aloadN C d9_4 rfl rfl ?_
  refine Go.ldcStr C (w_52 hW) (own_sa hW) own_EL_mem_52 (bs := [(112 : Int32), (114 : Int32), (111 : Int32), (112 : Int32), (101 : Int32), (114 : Int32), (116 : Int32), (121 : Int32)]) own_txt_52 own_tln_52 d9_5 (n := 32) (by decide) (by decide) (by decide) (by decide) (fun a7 t9 h8 K10 F11 nF11 => ?_)
  replace O := O.k0 K10
  refine Go.callS C (z := y_14) (argsL := [(.ref a), (.ref a7)]) (rm11 hW h8 (a) (a7)) (w_55 hW) (w_56 hW) (w_57 hW) (w_58 hW) d9_7 pd_7 rfl (by decide) rfl (st := []) rfl (by decide) (Nat.le_of_ble_eq_true rfl) (by decide) (by decide) ((fun _ hx => nomatch hx)) (fun v12 h13 os14 q15 K16 ho17 => ?_)
  obtain ⟨rfl, rfl, rfl⟩ := q15
  clear K16 ho17
  show Go k h8 _ _ _ 10 #[.val (.ref t), .val (.ref a), .val (.int (0 : Int32))] [(.ref a)]
  refine Go.pop C d9_10 rfl ?_
  refine Go.aloadN C d9_11 rfl rfl ?_
  refine Go.aloadN C d9_12 rfl rfl ?_
  refine Go.putF C O (List.mem_of_getElem? (i := 0) rfl) 0 rfl (w_59 hW) Via.refl (Or.inr ⟨w_60 hW, rfl, rfl⟩) (w_41 hW) (fl_1 hW) nd_1 (ty := (.object "java/lang/String")) (by decide +kernel) (v' := (.ref a)) rfl rfl (vs' := [(.ref a), (.int (0 : Int32))]) rfl d9_13 (fun h18 K19 O => ?_)
  replace F11 := F11.keep K19 (ninS (nF11 t (List.mem_of_getElem? (i := 0) rfl)).1 nin0) (ninS (nF11 t (List.mem_of_getElem? (i := 0) rfl)).2 nin0)
  refine Go.aloadN C d9_16 rfl rfl ?_
  refine Go.iloadN C d9_17 rfl ?_
  refine Go.putF C O (List.mem_of_getElem? (i := 0) rfl) 1 rfl (w_61 hW) Via.refl (Or.inr ⟨w_62 hW, rfl, rfl⟩) (w_41 hW) (fl_1 hW) nd_1 (ty := .boolean) (by decide +kernel) (v' := (.int (0 : Int32))) rfl rfl (vs' := [(.ref a), (.int (0 : Int32))]) rfl d9_18 (fun h20 K21 O => ?_)
  replace F11 := F11.keep K21 (ninS (nF11 t (List.mem_of_getElem? (i := 0) rfl)).1 nin0) (ninS (nF11 t (List.mem_of_getElem? (i := 0) rfl)).2 nin0)
  refine Go.retV C d9_21 (Nat.le_of_ble_eq_true rfl) (Nat.le_of_ble_eq_true rfl) [] (fun _ hx => nomatch hx) ?_
  exact ⟨rfl, rfl, O⟩
def Q13 (Z : State) (h : Heap) (t : Addr) (a : Addr) : QT := fun v h' os' => ∃ fe : Addr, (v = none) ∧ (os' = []) ∧ (Sta Z Z.heap "java/util/ImmutableCollections" "EMPTY" "Ljava/lang/Object;" (.ref fe)) ∧ (Obj Z h' t "java/util/ImmutableCollections$List12" f_2 [(.ref a), (.ref fe)])
set_option maxRecDepth 65536 in
set_option maxHeartbeats 40000000 in
theorem rm13 {l : Launch} {Z : State} {a0 : Array Value} (hW : W0 Z a0) (h : Heap) (t : Addr) (a : Addr) (O : Obj Z h t "java/util/ImmutableCollections$List12" f_2 [.null, .null]) :
    Con l Z own_EL true y_16 jdk_44_method_1_code 2 none ({ frames := 4, cells := 0, slots := 0, locals := 48 } : Room) [] #[(.ref t), (.ref a)] h [t] (Q13 Z h t a) := by
  refine Con.intro (a0 := a0) (Ls := #[.val (.ref t), .val (.ref a)]) (by decide +kernel) (own_ew hW) (fun m => by first | (simp [entryFrame, mkF, argsToLocals, Value.category]; done) | rfl) ?_
  intro k C
  obtain ⟨fe, SE, -⟩ := own_empty hW
  refine Go.aloadN C d13_0 rfl rfl ?_
  refine Go.callI C (z := y_12) (a := t) (argsL := []) (rm14 hW h (t)) rfl (w_74 hW) (w_75 hW) (w_78 hW) (w_79 hW) d13_1 pd_6 rfl (by decide) rfl (st := []) rfl (by decide) (Nat.le_of_ble_eq_true rfl) (by decide) (by decide) ((fun _ hx => nomatch hx)) (fun v1 h2 os3 q4 K5 ho6 => ?_)
  obtain ⟨rfl, rfl, rfl⟩ := q4
  clear K5 ho6
  show Go k h _ _ _ 4 #[.val (.ref t), .val (.ref a)] []
  refine Go.aloadN C d13_4 rfl rfl ?_
  refine Go.aloadN C d13_5 rfl rfl ?_
  refine Go.callS C (z := y_13) (argsL := [(.ref a)]) (rm17 hW h (a)) (w_93 hW) (w_94 hW) (w_57 hW) (w_95 hW) d13_6 pd_8 rfl (by decide) rfl (st := [(.ref t)]) rfl (by decide) (Nat.le_of_ble_eq_true rfl) (by decide) (by decide) ((fun _ hx => nomatch hx)) (fun v7 h8 os9 q10 K11 ho12 => ?_)
  obtain ⟨rfl, rfl, rfl⟩ := q10
  clear K11 ho12
  show Go k h _ _ _ 9 #[.val (.ref t), .val (.ref a)] [(.ref a), (.ref t)]
  refine Go.putF C O (List.mem_of_getElem? (i := 0) rfl) 0 rfl (w_96 hW) Via.refl (Or.inr ⟨w_97 hW, rfl, rfl⟩) (w_68 hW) (fl_2 hW) nd_2 (ty := (.object "java/lang/Object")) (by decide +kernel) (v' := (.ref a)) rfl rfl (vs' := [(.ref a), .null]) rfl d13_9 (fun h13 K14 O => ?_)
  refine Go.aloadN C d13_12 rfl rfl ?_
  refine Go.getS C SE (Or.inr (w_98 hW)) Via.refl d13_13 ?_
  refine Go.putF C O (List.mem_of_getElem? (i := 0) rfl) 1 rfl (w_100 hW) Via.refl (Or.inr ⟨w_101 hW, rfl, rfl⟩) (w_68 hW) (fl_2 hW) nd_2 (ty := (.object "java/lang/Object")) (by decide +kernel) (v' := (.ref fe)) rfl rfl (vs' := [(.ref a), (.ref fe)]) rfl d13_16 (fun h15 K16 O => ?_)
  refine Go.retV C d13_19 (Nat.le_of_ble_eq_true rfl) (Nat.le_of_ble_eq_true rfl) [] (fun _ hx => nomatch hx) ?_
  exact ⟨fe, rfl, rfl, SE, O⟩
def Q12 (Z : State) (h : Heap) (a : Addr) : QT := fun v h' os' => ∃ r : Addr, ∃ fe : Addr, (v = some (.ref r)) ∧ (os' = [r]) ∧ (Sta Z Z.heap "java/util/ImmutableCollections" "EMPTY" "Ljava/lang/Object;" (.ref fe)) ∧ (Obj Z h' r "java/util/ImmutableCollections$List12" f_2 [(.ref a), (.ref fe)])
set_option maxRecDepth 65536 in
set_option maxHeartbeats 40000000 in
theorem rm12 {l : Launch} {Z : State} {a0 : Array Value} (hW : W0 Z a0) (h : Heap) (a : Addr) :
    Con l Z own_EL true y_17 jdk_40_method_37_code 1 (some (.object "java/util/List")) ({ frames := 5, cells := 1, slots := 2, locals := 62 } : Room) [] #[(.ref a)] h [] (Q12 Z h a) := by
  refine Con.intro (a0 := a0) (Ls := #[.val (.ref a)]) (by decide +kernel) (own_ew hW) (fun m => by first | (simp [entryFrame, mkF, argsToLocals, Value.category]; done) | rfl) ?_
  intro k C
  refine Go.new C (w_67 hW) (w_68 hW) (w_69 hW) (fl_2 hW) dv_2 d12_0 (by decide) (by decide) (fun b1 h2 e3 K4 O5 => ?_)
  have ge_b1 : h.size ≤ b1 := Nat.le_trans (Nat.le_refl _) (ge_of e3)
  have l_h2 : h.size ≤ h2.size := Nat.le_trans (Nat.le_refl _) K4.1
  refine Go.dup C d12_3 rfl ?_
  refine Go.aloadN C d12_4 rfl rfl ?_
  refine Go.callI C (z := y_16) (a := b1) (argsL := [(.ref a)]) (rm13 hW h2 (b1) (a) O5) rfl (w_70 hW) (w_71 hW) (w_69 hW) (w_73 hW) d12_5 pd_9 rfl (by decide) rfl (st := [(.ref b1)]) rfl (by decide) (Nat.le_of_ble_eq_true rfl) (by decide) (by decide) (List.forall_mem_cons.mpr ⟨(List.mem_of_getElem? (i := 0) rfl), (fun _ hx => nomatch hx)⟩) (fun v6 h7 os8 q9 K10 ho11 => ?_)
  obtain ⟨fe12, rfl, rfl, p13, F14⟩ := q9
  have l_h7 : h.size ≤ h7.size := Nat.le_trans l_h2 K10.1
  show Go k h7 _ _ _ 8 #[.val (.ref a)] [(.ref b1)]
  refine Go.areturn C d12_8 (Nat.le_of_ble_eq_true rfl) (Nat.le_of_ble_eq_true rfl) rfl rfl [b1] (List.forall_mem_cons.mpr ⟨⟨(List.mem_of_getElem? (i := 0) rfl), ge_b1⟩, (fun _ hx => nomatch hx)⟩) ?_
  exact ⟨_, _, rfl, rfl, p13, F14⟩
def Q20 (Z : State) (h : Heap) (r : Addr) (a : Addr) (fe : Addr) : QT := fun v h' os' => (v = some (.ref r)) ∧ (os' = []) ∧ (h = h')
set_option maxRecDepth 65536 in
set_option maxHeartbeats 40000000 in
theorem rm20 {l : Launch} {Z : State} {a0 : Array Value} (hW : W0 Z a0) (h : Heap) (r : Addr) (a : Addr) (fe : Addr) (O : Obj Z h r "java/util/ImmutableCollections$List12" f_2 [(.ref a), (.ref fe)]) :
    Con l Z own_EL true y_18 jdk_56_method_3_code 2 (some (.object "java/util/List")) ({ frames := 0, cells := 0, slots := 0, locals := 0 } : Room) [] #[(.ref r)] h [] (Q20 Z h r a fe) := by
  refine Con.intro (a0 := a0) (Ls := #[.val (.ref r), .unset]) (by decide +kernel) (own_ew hW) (fun m => by first | (simp [entryFrame, mkF, argsToLocals, Value.category]; done) | rfl) ?_
  intro k C
  refine Go.aloadN C d20_0 rfl rfl ?_
  refine Go.instanceofYes C (Ins.self O.1) (w_112 hW) d20_1 ?_
  refine Go.ifne C d20_4 (fun _ => ?_) (fun hc => absurd hc (by decide)) 
  refine Go.aloadN C d20_26 rfl rfl ?_
  refine Go.checkcast C (Ins.of_exa O.1 (w_114 hW)) (w_113 hW) d20_27 ?_
  refine Go.areturn C d20_30 (Nat.le_of_ble_eq_true rfl) (Nat.le_of_ble_eq_true rfl) rfl rfl [] (fun _ hx => nomatch hx) ?_
  exact ⟨rfl, rfl, rfl⟩
def Q19 (Z : State) (h : Heap) (r : Addr) (a : Addr) (fe : Addr) : QT := fun v h' os' => (v = some (.ref r)) ∧ (os' = []) ∧ (h = h')
set_option maxRecDepth 65536 in
set_option maxHeartbeats 40000000 in
theorem rm19 {l : Launch} {Z : State} {a0 : Array Value} (hW : W0 Z a0) (h : Heap) (r : Addr) (a : Addr) (fe : Addr) (O : Obj Z h r "java/util/ImmutableCollections$List12" f_2 [(.ref a), (.ref fe)]) :
    Con l Z own_EL true y_19 jdk_40_method_48_code 1 (some (.object "java/util/List")) ({ frames := 1, cells := 0, slots := 0, locals := 13 } : Room) [] #[(.ref r)] h [] (Q19 Z h r a fe) := by
  refine Con.intro (a0 := a0) (Ls := #[.val (.ref r)]) (by decide +kernel) (own_ew hW) (fun m => by first | (simp [entryFrame, mkF, argsToLocals, Value.category]; done) | rfl) ?_
  intro k C
  refine Go.aloadN C d19_0 rfl rfl ?_
  refine Go.callS C (z := y_18) (argsL := [(.ref r)]) (rm20 hW h (r) (a) (fe) O) (w_109 hW) (w_110 hW) (w_99 hW) (w_111 hW) d19_1 pd_10 rfl (by decide) rfl (st := []) rfl (by decide) (Nat.le_of_ble_eq_true rfl) (by decide) (by decide) ((fun _ hx => nomatch hx)) (fun v1 h2 os3 q4 K5 ho6 => ?_)
  obtain ⟨rfl, rfl, rfl⟩ := q4
  clear K5 ho6
  show Go k h _ _ _ 4 #[.val (.ref r)] [(.ref r)]
  refine Go.areturn C d19_4 (Nat.le_of_ble_eq_true rfl) (Nat.le_of_ble_eq_true rfl) rfl rfl [] (fun _ hx => nomatch hx) ?_
  exact ⟨rfl, rfl, rfl⟩
def Q18 (Z : State) (h : Heap) (t : Addr) (r : Addr) (a : Addr) (fe : Addr) : QT := fun v h' os' => (v = none) ∧ (os' = []) ∧ (Obj Z h' t "com/example/atomicity/atomicity/model/Ordering" f_3 [(.ref r)])
set_option maxRecDepth 65536 in
set_option maxHeartbeats 40000000 in
theorem rm18 {l : Launch} {Z : State} {a0 : Array Value} (hW : W0 Z a0) (h : Heap) (t : Addr) (r : Addr) (a : Addr) (fe : Addr) (T : Obj Z h t "com/example/atomicity/atomicity/model/Ordering" f_3 [.null]) (O : Obj Z h r "java/util/ImmutableCollections$List12" f_2 [(.ref a), (.ref fe)]) (hrt : r ≠ t) :
    Con l Z own_EL true y_20 prog_61_method_1_code 2 none ({ frames := 2, cells := 0, slots := 0, locals := 26 } : Room) [] #[(.ref t), (.ref r)] h [t] (Q18 Z h t r a fe) := by
  refine Con.intro (a0 := a0) (Ls := #[.val (.ref t), .val (.ref r)]) (by decide +kernel) (own_ew hW) (fun m => by first | (simp [entryFrame, mkF, argsToLocals, Value.category]; done) | rfl) ?_
  intro k C
  refine Go.aloadN C d18_0 rfl rfl ?_
  refine Go.initO C (w_105 hW) (w_16 hW) (w_17 hW) d18_1 rfl (by decide) (Nat.le_of_ble_eq_true rfl) ?_
  refine Go.aloadN C d18_4 rfl rfl ?_
  refine Go.aloadN C d18_5 rfl rfl ?_
  refine Go.callS C (z := y_19) (argsL := [(.ref r)]) (rm19 hW h (r) (a) (fe) O) (w_106 hW) (w_107 hW) (w_65 hW) (w_108 hW) d18_6 pd_10 rfl (by decide) rfl (st := [(.ref t)]) rfl (by decide) (Nat.le_of_ble_eq_true rfl) (by decide) (by decide) ((fun _ hx => nomatch hx)) (fun v1 h2 os3 q4 K5 ho6 => ?_)
  obtain ⟨rfl, rfl, rfl⟩ := q4
  clear K5 ho6
  show Go k h _ _ _ 9 #[.val (.ref t), .val (.ref r)] [(.ref r), (.ref t)]
  refine Go.putF C T (List.mem_of_getElem? (i := 0) rfl) 0 rfl (w_115 hW) Via.refl (Or.inr ⟨w_116 hW, rfl, rfl⟩) (w_39 hW) (fl_3 hW) nd_3 (ty := (.object "java/util/List")) (by decide +kernel) (v' := (.ref r)) rfl rfl (vs' := [(.ref r)]) rfl d18_9 (fun h7 K8 T => ?_)
  replace O := O.keep K8 (ninS hrt nin0)
  refine Go.retV C d18_12 (Nat.le_of_ble_eq_true rfl) (Nat.le_of_ble_eq_true rfl) [] (fun _ hx => nomatch hx) ?_
  exact ⟨rfl, rfl, T⟩
def Q8 (Z : State) (h : Heap) (s : Addr) : QT := fun v h' os' => ∃ o : Addr, ∃ r : Addr, ∃ k : Addr, ∃ fe : Addr, (v = some (.ref o)) ∧ (os' = []) ∧ (Sta Z Z.heap "java/util/ImmutableCollections" "EMPTY" "Ljava/lang/Object;" (.ref fe)) ∧ (Obj Z h' o "com/example/atomicity/atomicity/model/Ordering" f_3 [(.ref r)]) ∧ (Obj Z h' r "java/util/ImmutableCollections$List12" f_2 [(.ref k), (.ref fe)]) ∧ (Obj Z h' k "com/example/atomicity/atomicity/model/Ordering$Key" f_1 [(.ref s), (.int (0 : Int32))])
set_option maxRecDepth 65536 in
set_option maxHeartbeats 40000000 in
theorem rm8 {l : Launch} {Z : State} {a0 : Array Value} (hW : W0 Z a0) (h : Heap) (s : Addr) :
    Con l Z own_EL true y_21 prog_61_method_2_code 1 (some (.object "com/example/atomicity/atomicity/model/Ordering")) ({ frames := 6, cells := 6, slots := 48, locals := 76 } : Room) [] #[(.ref s)] h [] (Q8 Z h s) := by
  refine Con.intro (a0 := a0) (Ls := #[.val (.ref s)]) (by decide +kernel) (own_ew hW) (fun m => by first | (simp [entryFrame, mkF, argsToLocals, Value.category]; done) | rfl) ?_
  intro k C
  refine Go.new C (w_38 hW) (w_39 hW) (w_36 hW) (fl_3 hW) dv_3 d8_0 (by decide) (by decide) (fun b1 h2 e3 K4 O5 => ?_)
  refine Go.dup C d8_3 rfl ?_
  refine Go.new C (w_40 hW) (w_41 hW) (w_42 hW) (fl_1 hW) dv_1 d8_4 (by decide) (by decide) (fun b6 h7 e8 K9 O10 => ?_)
  have n_b1_b6 : b1 ≠ b6 := ne_lt O5.lt (ge_of e8)
  replace O5 := O5.k0 K9
  refine Go.dup C d8_7 rfl ?_
  refine Go.aloadN C d8_8 rfl rfl ?_
  refine Go.iconst C (0 : Int32) d8_9 (by decide) ?_
  refine Go.callI C (z := y_15) (a := b6) (argsL := [(.ref s), (.int (0 : Int32))]) (rm9 hW h7 (b6) (s) O10) rfl (w_43 hW) (w_44 hW) (w_42 hW) (w_45 hW) d8_10 pd_11 rfl (by decide) rfl (st := [(.ref b6), (.ref b1), (.ref b1)]) rfl (by decide) (Nat.le_of_ble_eq_true rfl) (by decide) (by decide) (List.forall_mem_cons.mpr ⟨(List.mem_of_getElem? (i := 0) rfl), (fun _ hx => nomatch hx)⟩) (fun v11 h12 os13 q14 K15 ho16 => ?_)
  obtain ⟨rfl, rfl, F17⟩ := q14
  replace O5 := O5.keep K15 (ninS n_b1_b6 nin0)
  show Go k h12 _ _ _ 13 #[.val (.ref s)] [(.ref b6), (.ref b1), (.ref b1)]
  refine Go.callS C (z := y_17) (argsL := [(.ref b6)]) (rm12 hW h12 (b6)) (w_63 hW) (w_64 hW) (w_65 hW) (w_66 hW) d8_13 pd_12 rfl (by decide) rfl (st := [(.ref b1), (.ref b1)]) rfl (by decide) (Nat.le_of_ble_eq_true rfl) (by decide) (by decide) ((fun _ hx => nomatch hx)) (fun v18 h19 os20 q21 K22 ho23 => ?_)
  obtain ⟨r24, fe25, rfl, rfl, p26, F27⟩ := q21
  have g_r24 : h12.size ≤ r24 := (ho23 _ (List.mem_of_getElem? (i := 0) rfl)).1
  have n_b1_r24 : b1 ≠ r24 := ne_lt O5.lt g_r24
  have n_b6_r24 : b6 ≠ r24 := ne_lt F17.lt g_r24
  replace O5 := O5.k0 K22
  replace F17 := F17.k0 K22
  show Go k h19 _ _ _ 16 #[.val (.ref s)] [(.ref r24), (.ref b1), (.ref b1)]
  refine Go.callI C (z := y_20) (a := b1) (argsL := [(.ref r24)]) (rm18 hW h19 (b1) (r24) (b6) (fe25) O5 F27 (Ne.symm n_b1_r24)) rfl (w_102 hW) (w_103 hW) (w_36 hW) (w_104 hW) d8_16 pd_13 rfl (by decide) rfl (st := [(.ref b1)]) rfl (by decide) (Nat.le_of_ble_eq_true rfl) (by decide) (by decide) (List.forall_mem_cons.mpr ⟨(List.mem_of_getElem? (i := 2) rfl), (fun _ hx => nomatch hx)⟩) (fun v28 h29 os30 q31 K32 ho33 => ?_)
  obtain ⟨rfl, rfl, F34⟩ := q31
  replace F17 := F17.keep K32 (ninS (Ne.symm n_b1_b6) nin0)
  replace F27 := F27.keep K32 (ninS (Ne.symm n_b1_r24) nin0)
  show Go k h29 _ _ _ 19 #[.val (.ref s)] [(.ref b1)]
  refine Go.areturn C d8_19 (Nat.le_of_ble_eq_true rfl) (Nat.le_of_ble_eq_true rfl) rfl rfl [] (fun _ hx => nomatch hx) ?_
  exact ⟨_, _, _, _, rfl, rfl, by assumption, F34, F27, F17⟩
def Q21 (Z : State) (h : Heap) (o : Addr) (r : Addr) : QT := fun v h' os' => (v = some (.ref r)) ∧ (os' = []) ∧ (h = h')
set_option maxRecDepth 65536 in
set_option maxHeartbeats 40000000 in
theorem rm21 {l : Launch} {Z : State} {a0 : Array Value} (hW : W0 Z a0) (h : Heap) (o : Addr) (r : Addr) (O : Obj Z h o "com/example/atomicity/atomicity/model/Ordering" f_3 [(.ref r)]) :
    Con l Z own_EL true y_22 prog_61_method_6_code 1 (some (.object "java/util/List")) ({ frames := 0, cells := 0, slots := 0, locals := 0 } : Room) [] #[(.ref o)] h [] (Q21 Z h o r) := by
  refine Con.intro (a0 := a0) (Ls := #[.val (.ref o)]) (by decide +kernel) (own_ew hW) (fun m => by first | (simp [entryFrame, mkF, argsToLocals, Value.category]; done) | rfl) ?_
  intro k C
  refine Go.aloadN C d21_0 rfl rfl ?_
  refine Go.getF C O 0 rfl rfl (host := "") (Or.inl (w_115 hW)) Via.refl d21_1 ?_
  refine Go.areturn C d21_4 (Nat.le_of_ble_eq_true rfl) (Nat.le_of_ble_eq_true rfl) rfl rfl [] (fun _ hx => nomatch hx) ?_
  exact ⟨rfl, rfl, rfl⟩
def Q22 (Z : State) (h : Heap) (r : Addr) (a : Addr) (fe : Addr) : QT := fun v h' os' => (v = some (.int (1 : Int32))) ∧ (os' = []) ∧ (h = h')
set_option maxRecDepth 65536 in
set_option maxHeartbeats 40000000 in
theorem rm22 {l : Launch} {Z : State} {a0 : Array Value} (hW : W0 Z a0) (h : Heap) (r : Addr) (a : Addr) (fe : Addr) (O : Obj Z h r "java/util/ImmutableCollections$List12" f_2 [(.ref a), (.ref fe)]) (SE : Sta Z Z.heap "java/util/ImmutableCollections" "EMPTY" "Ljava/lang/Object;" (.ref fe)) :
    Con l Z own_EL true y_23 jdk_44_method_3_code 1 (some .int) ({ frames := 0, cells := 0, slots := 0, locals := 0 } : Room) [] #[(.ref r)] h [] (Q22 Z h r a fe) := by
  refine Con.intro (a0 := a0) (Ls := #[.val (.ref r)]) (by decide +kernel) (own_ew hW) (fun m => by first | (simp [entryFrame, mkF, argsToLocals, Value.category]; done) | rfl) ?_
  intro k C
  refine Go.aloadN C d22_0 rfl rfl ?_
  refine Go.getF C O 1 rfl rfl (host := "") (Or.inl (w_100 hW)) Via.refl d22_1 ?_
  refine Go.getS C SE (Or.inr (w_98 hW)) Via.refl d22_4 ?_
  refine Go.acmp C true d22_7 rfl rfl (decide_eq_true rfl) (pcN := 14) rfl ?_
  refine Go.iconst C (1 : Int32) d22_14 (by decide) ?_
  refine Go.ireturn C d22_15 (Nat.le_of_ble_eq_true rfl) (Nat.le_of_ble_eq_true rfl) (by simp) rfl [] (fun _ hx => nomatch hx) ?_
  exact ⟨rfl, rfl, rfl⟩
def Q23 (Z : State) (h : Heap) (r : Addr) (a : Addr) (fe : Addr) : QT := fun v h' os' => (v = some (.ref a)) ∧ (os' = []) ∧ (h = h')
set_option maxRecDepth 65536 in
set_option maxHeartbeats 40000000 in
theorem rm23 {l : Launch} {Z : State} {a0 : Array Value} (hW : W0 Z a0) (h : Heap) (r : Addr) (a : Addr) (fe : Addr) (O : Obj Z h r "java/util/ImmutableCollections$List12" f_2 [(.ref a), (.ref fe)]) :
    Con l Z own_EL true y_24 jdk_44_method_5_code 2 (some (.object "java/lang/Object")) ({ frames := 0, cells := 0, slots := 0, locals := 0 } : Room) [] #[(.ref r), (.int (0 : Int32))] h [] (Q23 Z h r a fe) := by
  refine Con.intro (a0 := a0) (Ls := #[.val (.ref r), .val (.int (0 : Int32))]) (by decide +kernel) (own_ew hW) (fun m => by first | (simp [entryFrame, mkF, argsToLocals, Value.category]; done) | rfl) ?_
  intro k C
  refine Go.iloadN C d23_0 rfl ?_
  refine Go.ifne C d23_1 (fun hc => absurd hc (by decide)) (fun _ => ?_)
  refine Go.aloadN C d23_4 rfl rfl ?_
  refine Go.getF C O 0 rfl rfl (host := "") (Or.inl (w_96 hW)) Via.refl d23_5 ?_
  refine Go.areturn C d23_8 (Nat.le_of_ble_eq_true rfl) (Nat.le_of_ble_eq_true rfl) rfl rfl [] (fun _ hx => nomatch hx) ?_
  exact ⟨rfl, rfl, rfl⟩
def Q24 (Z : State) (h : Heap) (k : Addr) (a : Addr) : QT := fun v h' os' => (v = some (.ref a)) ∧ (os' = []) ∧ (h = h')
set_option maxRecDepth 65536 in
set_option maxHeartbeats 40000000 in
theorem rm24 {l : Launch} {Z : State} {a0 : Array Value} (hW : W0 Z a0) (h : Heap) (k : Addr) (a : Addr) (O : Obj Z h k "com/example/atomicity/atomicity/model/Ordering$Key" f_1 [(.ref a), (.int (0 : Int32))]) :
    Con l Z own_EL true y_25 prog_62_method_5_code 1 (some (.object "java/lang/String")) ({ frames := 0, cells := 0, slots := 0, locals := 0 } : Room) [] #[(.ref k)] h [] (Q24 Z h k a) := by
  refine Con.intro (a0 := a0) (Ls := #[.val (.ref k)]) (by decide +kernel) (own_ew hW) (fun m => by first | (simp [entryFrame, mkF, argsToLocals, Value.category]; done) | rfl) ?_
  intro k C
  refine Go.aloadN C d24_0 rfl rfl ?_
  refine Go.getF C O 0 rfl rfl (host := "") (Or.inl (w_59 hW)) Via.refl d24_1 ?_
  refine Go.areturn C d24_4 (Nat.le_of_ble_eq_true rfl) (Nat.le_of_ble_eq_true rfl) rfl rfl [] (fun _ hx => nomatch hx) ?_
  exact ⟨rfl, rfl, rfl⟩
def Q28 (Z : State) (h : Heap) (k : Addr) (a : Addr) : QT := fun v h' os' => (v = some (.int (0 : Int32))) ∧ (os' = []) ∧ (h = h')
set_option maxRecDepth 65536 in
set_option maxHeartbeats 40000000 in
theorem rm28 {l : Launch} {Z : State} {a0 : Array Value} (hW : W0 Z a0) (h : Heap) (k : Addr) (a : Addr) (O : Obj Z h k "com/example/atomicity/atomicity/model/Ordering$Key" f_1 [(.ref a), (.int (0 : Int32))]) :
    Con l Z own_EL true y_26 prog_62_method_6_code 1 (some .boolean) ({ frames := 0, cells := 0, slots := 0, locals := 0 } : Room) [] #[(.ref k)] h [] (Q28 Z h k a) := by
  refine Con.intro (a0 := a0) (Ls := #[.val (.ref k)]) (by decide +kernel) (own_ew hW) (fun m => by first | (simp [entryFrame, mkF, argsToLocals, Value.category]; done) | rfl) ?_
  intro k C
  refine Go.aloadN C d28_0 rfl rfl ?_
  refine Go.getF C O 1 rfl rfl (host := "") (Or.inl (w_61 hW)) Via.refl d28_1 ?_
  refine Go.ireturn C d28_4 (Nat.le_of_ble_eq_true rfl) (Nat.le_of_ble_eq_true rfl) (by simp) rfl [] (fun _ hx => nomatch hx) ?_
  exact ⟨rfl, rfl, rfl⟩
def Q0 (Z : State) (h : Heap) (p : Int32) (q : Int32) (r : Int32) (n : Int32) : QT := fun v h' os' => (v = some (.int (1 : Int32))) ∧ (os' = [])
set_option maxRecDepth 65536 in
set_option maxHeartbeats 40000000 in
theorem rm0 {l : Launch} {Z : State} {a0 : Array Value} (hW : W0 Z a0) (h : Heap) (p : Int32) (q : Int32) (r : Int32) (n : Int32) :
    Con l Z own_EL true x code 9 (some .boolean) room_1 tables_1 #[(.int p), (.int q), (.int r), (.int n)] h [] (Q0 Z h p q r n) := by
  refine Con.intro (a0 := a0) (Ls := #[.val (.int p), .val (.int q), .val (.int r), .val (.int n), .unset, .unset, .unset, .unset, .unset]) (by decide +kernel) (own_ew hW) (fun m => by first | (simp [entryFrame, mkF, argsToLocals, Value.category, maxLocals]; done) | rfl) ?_
  intro k C
  refine Go.iloadN C d0_0 rfl ?_
  refine Go.iloadN C d0_1 rfl ?_
  refine Go.iloadN C d0_2 rfl ?_
  refine Go.iloadN C d0_3 rfl ?_
  refine Go.callS C (z := y_8) (argsL := [(.int p), (.int q), (.int r), (.int n)]) (rm1 hW h (p) (q) (r) (n)) (w_0 hW) (w_1 hW) (w_2 hW) (w_3 hW) d0_4 pd_14 rfl (by decide) rfl (st := []) rfl (by decide) (Nat.le_of_ble_eq_true rfl) (by decide) (by decide) ((fun _ hx => nomatch hx)) (fun v1 h2 os3 q4 K5 ho6 => ?_)
  obtain ⟨rr7, t8, bs9, rfl, rfl, p10, F11⟩ := q4
  show Go k h2 _ _ _ 7 #[.val (.int p), .val (.int q), .val (.int r), .val (.int n), .unset, .unset, .unset, .unset, .unset] [(.ref rr7)]
  refine Go.astore C d0_7 rfl (Ls' := #[.val (.int p), .val (.int q), .val (.int r), .val (.int n), .val (.ref rr7), .unset, .unset, .unset, .unset]) rfl ?_
  refine Go.aload C d0_9 rfl rfl ?_
  refine Go.callS C (z := y_21) (argsL := [(.ref rr7)]) (rm8 hW h2 (rr7)) (w_34 hW) (w_35 hW) (w_36 hW) (w_37 hW) d0_11 pd_15 rfl (by decide) rfl (st := []) rfl (by decide) (Nat.le_of_ble_eq_true rfl) (by decide) (by decide) ((fun _ hx => nomatch hx)) (fun v12 h13 os14 q15 K16 ho17 => ?_)
  obtain ⟨o18, r19, k20, fe21, rfl, rfl, p22, F23, F24, F25⟩ := q15
  replace F11 := F11.k0 K16
  show Go k h13 _ _ _ 14 #[.val (.int p), .val (.int q), .val (.int r), .val (.int n), .val (.ref rr7), .unset, .unset, .unset, .unset] [(.ref o18)]
  refine Go.astore C d0_14 rfl (Ls' := #[.val (.int p), .val (.int q), .val (.int r), .val (.int n), .val (.ref rr7), .val (.ref o18), .unset, .unset, .unset]) rfl ?_
  refine Go.aload C d0_16 rfl rfl ?_
  refine Go.callV C (z := y_22) (zr := y_22) (a := o18) (argsL := []) (rm21 hW h13 (o18) (r19) F23) F23.1 (w_117 hW) (w_118 hW) (fun hz => notFace_of_selects (args := #[]) (mvT hz (w_120 hW))) (w_120 hW) (w_119 hW) (w_36 hW) (w_121 hW) d0_18 pd_16 rfl (by decide) rfl (st := []) rfl (by decide) (Nat.le_of_ble_eq_true rfl) (by decide) (by decide) ((fun _ hx => nomatch hx)) (fun v26 h27 os28 q29 K30 ho31 => ?_)
  obtain ⟨rfl, rfl, rfl⟩ := q29
  clear K30 ho31
  show Go k h13 _ _ _ 21 #[.val (.int p), .val (.int q), .val (.int r), .val (.int n), .val (.ref rr7), .val (.ref o18), .unset, .unset, .unset] [(.ref r19)]
  refine Go.astore C d0_21 rfl (Ls' := #[.val (.int p), .val (.int q), .val (.int r), .val (.int n), .val (.ref rr7), .val (.ref o18), .val (.ref r19), .unset, .unset]) rfl ?_
  refine Go.aload C d0_23 rfl rfl ?_
  refine Go.callF C (z := y_23) (zr := y_27) (a := r19) (argsL := []) (rm22 hW h13 (r19) (k20) (fe21) F24 p22) F24.1 (w_122 hW) (w_123 hW) (fun _ _ hz => mvT hz (w_124 hW)) (w_125 hW) (w_126 hW) (w_127 hW) (w_128 hW) (w_114 hW) (w_69 hW) (w_129 hW) d0_25 pd_17 rfl (by decide) rfl (st := []) rfl (by decide) (Nat.le_of_ble_eq_true rfl) (by decide) (by decide) ((fun _ hx => nomatch hx)) (fun v32 h33 os34 q35 K36 ho37 => ?_)
  obtain ⟨rfl, rfl, rfl⟩ := q35
  clear K36 ho37
  show Go k h13 _ _ _ 30 #[.val (.int p), .val (.int q), .val (.int r), .val (.int n), .val (.ref rr7), .val (.ref o18), .val (.ref r19), .unset, .unset] [(.int (1 : Int32))]
  refine Go.iconst C (1 : Int32) d0_30 (by decide) ?_
  refine Go.icmpeq C d0_31 (fun _ => ?_) (fun hc => absurd hc (by decide)) 
  refine Go.aload C d0_36 rfl rfl ?_
  refine Go.iconst C (0 : Int32) d0_38 (by decide) ?_
  refine Go.callF C (z := y_24) (zr := y_28) (a := r19) (argsL := [(.int (0 : Int32))]) (rm23 hW h13 (r19) (k20) (fe21) F24) F24.1 (w_130 hW) (w_131 hW) (fun _ _ hz => mvT hz (w_132 hW)) (w_133 hW) (w_134 hW) (w_135 hW) (w_136 hW) (w_114 hW) (w_69 hW) (w_137 hW) d0_39 pd_18 rfl (by decide) rfl (st := []) rfl (by decide) (Nat.le_of_ble_eq_true rfl) (by decide) (by decide) ((fun _ hx => nomatch hx)) (fun v38 h39 os40 q41 K42 ho43 => ?_)
  obtain ⟨rfl, rfl, rfl⟩ := q41
  clear K42 ho43
  show Go k h13 _ _ _ 44 #[.val (.int p), .val (.int q), .val (.int r), .val (.int n), .val (.ref rr7), .val (.ref o18), .val (.ref r19), .unset, .unset] [(.ref k20)]
  refine Go.checkcast C (Ins.self F25.1) (w_138 hW) d0_44 ?_
  refine Go.astore C d0_47 rfl (Ls' := #[.val (.int p), .val (.int q), .val (.int r), .val (.int n), .val (.ref rr7), .val (.ref o18), .val (.ref r19), .val (.ref k20), .unset]) rfl ?_
  refine Go.aload C d0_49 rfl rfl ?_
  refine Go.callV C (z := y_25) (zr := y_25) (a := k20) (argsL := []) (rm24 hW h13 (k20) (rr7) F25) F25.1 (w_140 hW) (w_141 hW) (fun hz => notFace_of_selects (args := #[]) (mvT hz (w_143 hW))) (w_143 hW) (w_142 hW) (w_42 hW) (w_144 hW) d0_51 pd_19 rfl (by decide) rfl (st := []) rfl (by decide) (Nat.le_of_ble_eq_true rfl) (by decide) (by decide) ((fun _ hx => nomatch hx)) (fun v44 h45 os46 q47 K48 ho49 => ?_)
  obtain ⟨rfl, rfl, rfl⟩ := q47
  clear K48 ho49
  show Go k h13 _ _ _ 54 #[.val (.int p), .val (.int q), .val (.int r), .val (.int n), .val (.ref rr7), .val (.ref o18), .val (.ref r19), .val (.ref k20), .unset] [(.ref rr7)]
  refine Go.astore C d0_54 rfl (Ls' := #[.val (.int p), .val (.int q), .val (.int r), .val (.int n), .val (.ref rr7), .val (.ref o18), .val (.ref r19), .val (.ref k20), .val (.ref rr7)]) rfl ?_
  refine Go.aload C d0_56 rfl rfl ?_
  refine Go.aload C d0_58 rfl rfl ?_
  refine Go.callV C (z := y_5) (zr := y_5) (a := rr7) (argsL := [(.ref rr7)]) (rm25 hW h13 (rr7)) F11.exa (w_145 hW) (w_146 hW) (fun hz => notFace_of_selects (args := #[]) (mvT hz (w_148 hW))) (w_148 hW) (w_147 hW) (w_6 hW) (w_149 hW) d0_60 pd_20 rfl (by decide) rfl (st := []) rfl (by decide) (Nat.le_of_ble_eq_true rfl) (by decide) (by decide) ((fun _ hx => nomatch hx)) (fun v50 h51 os52 q53 K54 ho55 => ?_)
  obtain ⟨rfl, rfl, rfl⟩ := q53
  clear K54 ho55
  show Go k h13 _ _ _ 63 #[.val (.int p), .val (.int q), .val (.int r), .val (.int n), .val (.ref rr7), .val (.ref o18), .val (.ref r19), .val (.ref k20), .val (.ref rr7)] [(.int (1 : Int32))]
  refine Go.ifeq C d0_63 (fun hc => absurd hc (by decide)) (fun _ => ?_)
  refine Go.aload C d0_66 rfl rfl ?_
  refine Go.callV C (z := y_7) (zr := y_7) (a := rr7) (argsL := []) (rm26 hW h13 (rr7) (t8) (bs9) F11) F11.exa (w_150 hW) (w_151 hW) (fun hz => notFace_of_selects (args := #[]) (mvT hz (w_153 hW))) (w_153 hW) (w_152 hW) (w_6 hW) (w_154 hW) d0_68 pd_17 rfl (by decide) rfl (st := []) rfl (by decide) (Nat.le_of_ble_eq_true rfl) (by decide) (by decide) ((fun _ hx => nomatch hx)) (fun v56 h57 os58 q59 K60 ho61 => ?_)
  obtain ⟨rfl, rfl, rfl⟩ := q59
  clear K60 ho61
  show Go k h13 _ _ _ 71 #[.val (.int p), .val (.int q), .val (.int r), .val (.int n), .val (.ref rr7), .val (.ref o18), .val (.ref r19), .val (.ref k20), .val (.ref rr7)] [(.int (Int32.ofNat (List.length bs9)))]
  refine Go.iloadN C d0_71 rfl ?_
  refine Go.iconst C (3 : Int32) d0_72 (by decide) ?_
  refine Go.iand C d0_73 ?_
  refine Go.icmpne C d0_74 (fun hc74 => absurd p10 hc74) (fun hc74 => ?_)
  refine Go.aload C d0_77 rfl rfl ?_
  refine Go.callV C (z := y_26) (zr := y_26) (a := k20) (argsL := []) (rm28 hW h13 (k20) (rr7) F25) F25.1 (w_160 hW) (w_161 hW) (fun hz => notFace_of_selects (args := #[]) (mvT hz (w_163 hW))) (w_163 hW) (w_162 hW) (w_42 hW) (w_164 hW) d0_79 pd_21 rfl (by decide) rfl (st := []) rfl (by decide) (Nat.le_of_ble_eq_true rfl) (by decide) (by decide) ((fun _ hx => nomatch hx)) (fun v62 h63 os64 q65 K66 ho67 => ?_)
  obtain ⟨rfl, rfl, rfl⟩ := q65
  clear K66 ho67
  show Go k h13 _ _ _ 82 #[.val (.int p), .val (.int q), .val (.int r), .val (.int n), .val (.ref rr7), .val (.ref o18), .val (.ref r19), .val (.ref k20), .val (.ref rr7)] [(.int (0 : Int32))]
  refine Go.ifne C d0_82 (fun hc => absurd hc (by decide)) (fun _ => ?_)
  refine Go.iconst C (1 : Int32) d0_85 (by decide) ?_
  refine Go.goto C d0_86 ?_
  refine Go.ireturn C d0_90 (Nat.le_of_ble_eq_true rfl) (Nat.le_of_ble_eq_true rfl) (by simp) rfl [] (fun _ hx => nomatch hx) ?_
  exact ⟨rfl, rfl⟩
set_option maxRecDepth 65536 in
set_option maxHeartbeats 40000000 in
theorem comes_1 {Post : Tables → Env → Array Value → State → Outcome → State → Prop} (hpost : ∀ tb e args s v u, (limb_1_1.after args s (.returned v) u = true ∧ limb_1_2.after args s (.returned v) u = true ∧ True) → ReturnedEndW s (.returned v) u (Jvm.fieldLocs frame_1_writes args s ++ Jvm.arrayLocs frame_1_arrays args s ++ Jvm.staticLocs frame_1_statics s) 24 2176 → Post tb e args s (.returned v) u) :
    ArmFor flags0 classFile x code maxLocals ret World_1 tables_1 room_1 Calls_1 rest_1 Pre_1 Post := by
  intro l hfl _ _ p e ha hc hk s m args below hf hA hF happ hP
  obtain ⟨hcalls, hrest, hpre⟩ := hP
  obtain ⟨-, -, -, hnamed, -, -, -, hat⟩ := (Spec.applies_iff hf).mp happ
  obtain ⟨hg, hn⟩ := and_e (Cond.before_iff.mp (show (Jvm.Cond.and given_1 narrow_1).before args s = true from hpre))
  obtain ⟨g1, g2⟩ := and_e hg
  obtain ⟨g3, g4⟩ := and_e g2
  obtain ⟨g5, g6⟩ := and_e g4
  obtain ⟨g7, g8⟩ := and_e g6
  obtain ⟨w0, w1, w2, w3, rfl⟩ : ∃ w0 w1 w2 w3 : Value, args = #[w0, w1, w2, w3] := by
    have hs : args.size = 4 := by simpa [Cond.value, given_1] using g1
    obtain ⟨L⟩ := args
    match L, hs with
    | [w0, w1, w2, w3], _ => exact ⟨w0, w1, w2, w3, rfl⟩
  have hw := fun d (hd : d ∈ tables_1) => atoms_spec (ws := Jvm.Cond.code x code maxLocals ret :: tables_1) hat d (List.mem_cons_of_mem _ hd)
  have hfit : Fit s := fun {y c} hc i hi => by
    obtain ⟨ha, rfl⟩ := Array.getElem?_eq_some_iff.mp hc
    have q := List.all_eq_true.mp ((Array.all_eq_true_iff_forall_mem.mp hF) _ (Array.getElem_mem ha)) i (List.mem_range.mpr hi)
    simpa [Array.getElem?_eq_getElem hi] using q
  obtain ⟨hsets, hown0⟩ := atoms_of _ (rest_1_c_eq ▸ (show rest_1_c.before _ s = true from hrest))
  have hW : W0 s _ := ⟨hw, hsets⟩
  obtain ⟨i0, ei0⟩ := is_v g3
  obtain rfl : w0 = (.int i0) := Option.some.inj ei0
  obtain ⟨i1, ei1⟩ := is_v g5
  obtain rfl : w1 = (.int i1) := Option.some.inj ei1
  obtain ⟨i2, ei2⟩ := is_v g7
  obtain rfl : w2 = (.int i2) := Option.some.inj ei2
  obtain ⟨i3, ei3⟩ := is_v g8
  obtain rfl : w3 = (.int i3) := Option.some.inj ei3
  obtain ⟨n, o, h1, h2, h3, v, L, os, rfl, hQ, -, -, N, -, hq, hq2⟩ := (rm0 (l := l) hW s.heap i0 i1 i2 i3 : Con l s own_EL true x code maxLocals ret room_1 tables_1 _ _ _ _) p e ha hc hk s m _ below hf ((Spec.applies_iff_loose hf).mp happ).1 ⟨rfl, State.Warmed39.refl s, rfl, CHv.start (own_ew hW) (fun p hp => hcalls.1 p hp) (s_2 hW) (w_23 hW) (w_5 hW), ⟨Nat.le_refl _, fun _ _ q => q⟩, (fun _ q => nomatch q)⟩ trivial
  obtain ⟨rfl, -⟩ := hQ
  refine ⟨n, _, h1, h2, h3, hpost _ _ _ _ _ _ ⟨Cond.after_iff.mpr rfl, Cond.after_iff.mpr (eq_i res_at (Term.int_eval (1)) rfl), trivial⟩ ⟨hq.1, hq.2.1, hq.2.2.1, (hq.2.2.2.sift fun y hy => Or.inr (N y hy)).mono (by decide) (by decide)⟩⟩
theorem main_1_1 : Claimed_1_1 := comes_1 fun _ _ _ _ _ _ h hF => ⟨h.1, hF⟩
theorem main_1_2 : Claimed_1_2 := comes_1 fun _ _ _ _ _ _ h hF => ⟨h.2.1, hF⟩
end Jvm.Pilot.@@N@@
namespace Jvm.Pilot.@@N@@
open Jvm Jvm.ClassFile Sem Op Lib Jvm.Free Jvm.Stand Jvm.Pilot.@@N@@.Jvm.D
/-! MADE BY PROGRAM (witnessworld.py) out of the Statement's table words and the real class files: 34 classes; the members and pool entries that the words name. The judged class is class 1, her method 2. -/
namespace start1
open Jvm.ClassFile
def u (s : String) : CpInfo := .utf8 (stringToUtf16 s)
/-- a pool by its gaps: so many unusable entries, then the entry; so many at the end -/
def gap : Nat → List CpInfo → List CpInfo
  | 0, r => r
  | n + 1, r => .unusable :: gap n r
def poolList (es : List (Nat × CpInfo)) (last : Nat) : List CpInfo := es.foldr (fun e r => gap e.1 (e.2 :: r)) (gap last [])
def pool (es : List (Nat × CpInfo)) (last : Nat) : Array CpInfo := ⟨poolList es last⟩
def fileOf (pool : Array CpInfo) (this : Nat) (attrs : Array Attribute := #[]) (ms : Array MethodInfo := #[]) (fl : Nat := 33) (sup : Nat := 0) (ifs : Array Nat := #[]) (fds : Array FieldInfo := #[]) : ClassFile where
  minorVersion := 0
  majorVersion := 65
  constantPool := pool
  accessFlags := fl
  thisClass := this
  superClass := sup
  interfaces := ifs
  fields := fds
  methods := ms
  attributes := attrs
def plain (name : String) (sup : Option ClassId) : Class where
  name := name
  kind := .ordinary
  loader := none
  accessFlags := 33
  super := sup
  interfaces := #[]
  cf := none
  fields := #[]
  methods := #[]
  instanceTypes := #[]
  staticTypes := #[]
  resolved := #[]
  callSites := []
  init := .initialized
  statics := none
  mirror := none

def pool0 : Array CpInfo := pool [(5, u "<init>"), (0, u "()V"), (1, .class_ 10), (1, u "java/lang/Object")] 113

def k0c0 : Code := { maxStack := 0, maxLocals := 1, code := object_method_1_code, exceptionTable := #[], attributes := #[] }
def k0m0 : Method := { name := "<init>", desc := "()V", sig := { parameters := [], returnType := none }, accessFlags := 1, code := some k0c0 }
/-- java/lang/Object -/
def k0 : Class := { plain "java/lang/Object" none with
  accessFlags := 33
  interfaces := #[]
  cf := some (fileOf pool0 8 #[] #[{ accessFlags := 1, nameIndex := 5, descriptorIndex := 6, attributes := #[] }] 33 0 #[] #[])
  fields := #[]
  methods := #[k0m0]
  instanceTypes := #[]
  staticTypes := #[]
  resolved := Array.replicate 124 none
  statics := none }

def pool1 : Array CpInfo := pool [(2, .class_ 4), (1, u "java/lang/Object"), (0, u "<init>"), (0, u "()V"), (0, .class_ 8), (0, u "java/lang/String"), (0, .methodref 7 10), (0, .nameAndType 5 11), (0, u "([C)V"), (0, .methodref 13 14), (0, .class_ 15), (0, .nameAndType 16 17), (0, u "com/example/atomicity/atomicity/model/OrderingAscendingPinLaw"), (0, u "drawn"), (0, u "(IIII)Ljava/lang/String;"), (0, .methodref 19 20), (0, .class_ 21), (0, .nameAndType 22 23), (0, u "com/example/atomicity/atomicity/model/Ordering"), (0, u "ascending"), (0, u "(Ljava/lang/String;)Lcom/example/atomicity/atomicity/model/Ordering;"), (0, .methodref 19 25), (0, .nameAndType 26 27), (0, u "keys"), (0, u "()Ljava/util/List;"), (0, .interfaceMethodref 29 30), (0, .class_ 31), (0, .nameAndType 32 33), (0, u "java/util/List"), (0, u "size"), (0, u "()I"), (0, .interfaceMethodref 29 35), (0, .nameAndType 36 37), (0, u "get"), (0, u "(I)Ljava/lang/Object;"), (0, .class_ 39), (0, u "com/example/atomicity/atomicity/model/Ordering$Key"), (0, .methodref 38 41), (0, .nameAndType 42 43), (0, u "property"), (0, u "()Ljava/lang/String;"), (0, .methodref 7 45), (0, .nameAndType 46 47), (0, u "equals"), (0, u "(Ljava/lang/Object;)Z"), (0, .methodref 7 49), (0, .nameAndType 50 33), (0, u "length"), (0, .methodref 38 52), (0, .nameAndType 53 54), (0, u "descending"), (0, u "()Z"), (3, u "law"), (0, u "(IIII)Z")] 4

def k1m0 : Method := { name := "<init>", desc := "()V", sig := { parameters := [], returnType := none }, accessFlags := 1, code := none }
def k1c1 : Code := { maxStack := 6, maxLocals := 8, code := method_2_code, exceptionTable := #[], attributes := #[] }
def k1m1 : Method := { name := "drawn", desc := "(IIII)Ljava/lang/String;", sig := { parameters := [.int, .int, .int, .int], returnType := some (.object "java/lang/String") }, accessFlags := 10, code := some k1c1 }
def k1c2 : Code := { maxStack := 4, maxLocals := 9, code := code, exceptionTable := #[], attributes := #[] }
def k1m2 : Method := { name := "law", desc := "(IIII)Z", sig := { parameters := [.int, .int, .int, .int], returnType := some .boolean }, accessFlags := 9, code := some k1c2 }
/-- com/example/atomicity/atomicity/model/OrderingAscendingPinLaw -/
def k1 : Class := { plain "com/example/atomicity/atomicity/model/OrderingAscendingPinLaw" (some 0) with
  accessFlags := 49
  interfaces := #[]
  cf := some (fileOf pool1 13 #[] #[{ accessFlags := 1, nameIndex := 5, descriptorIndex := 6, attributes := #[] }, { accessFlags := 10, nameIndex := 16, descriptorIndex := 17, attributes := #[] }, { accessFlags := 9, nameIndex := 58, descriptorIndex := 59, attributes := #[] }] 49 2 #[] #[])
  fields := #[]
  methods := #[k1m0, k1m1, k1m2]
  instanceTypes := #[]
  staticTypes := #[]
  resolved := Array.replicate 64 none
  statics := none }

def pool2 : Array CpInfo := pool [(1, .class_ 2), (0, u "java/io/Serializable"), (0, .class_ 4), (0, u "java/lang/Object")] 2

/-- java/io/Serializable -/
def k2 : Class := { plain "java/io/Serializable" (some 0) with
  accessFlags := 1537
  interfaces := #[]
  cf := some (fileOf pool2 1 #[] #[] 1537 3 #[] #[])
  fields := #[]
  methods := #[]
  instanceTypes := #[]
  staticTypes := #[]
  resolved := Array.replicate 7 none
  statics := none }

def pool3 : Array CpInfo := pool [(1, .class_ 2), (0, u "java/lang/Comparable"), (0, .class_ 4), (0, u "java/lang/Object")] 7

/-- java/lang/Comparable -/
def k3 : Class := { plain "java/lang/Comparable" (some 0) with
  accessFlags := 1537
  interfaces := #[]
  cf := some (fileOf pool3 1 #[] #[] 1537 3 #[] #[])
  fields := #[]
  methods := #[]
  instanceTypes := #[]
  staticTypes := #[]
  resolved := Array.replicate 12 none
  statics := none }

def pool4 : Array CpInfo := pool [(2, .class_ 4), (1, u "java/lang/CharSequence"), (42, .class_ 48), (0, u "java/lang/CharSequence$1CodePointIterator"), (10, .class_ 60), (0, u "java/lang/CharSequence$1CharIterator"), (5, .class_ 67), (0, u "java/lang/Object")] 63

/-- java/lang/CharSequence -/
def k4 : Class := { plain "java/lang/CharSequence" (some 0) with
  accessFlags := 1537
  interfaces := #[]
  cf := some (fileOf pool4 2 #[.nestMembers #[47, 59]] #[] 1537 66 #[] #[])
  fields := #[]
  methods := #[]
  instanceTypes := #[]
  staticTypes := #[]
  resolved := Array.replicate 131 none
  statics := none }

def pool5 : Array CpInfo := pool [(1, .class_ 2), (0, u "java/lang/constant/Constable"), (0, .class_ 4), (0, u "java/lang/Object")] 6

/-- java/lang/constant/Constable -/
def k5 : Class := { plain "java/lang/constant/Constable" (some 0) with
  accessFlags := 1537
  interfaces := #[]
  cf := some (fileOf pool5 1 #[] #[] 1537 3 #[] #[])
  fields := #[]
  methods := #[]
  instanceTypes := #[]
  staticTypes := #[]
  resolved := Array.replicate 11 none
  statics := none }

def pool6 : Array CpInfo := pool [(1, .class_ 2), (0, u "java/lang/constant/ConstantDesc"), (0, .class_ 4), (0, u "java/lang/Object")] 32

/-- java/lang/constant/ConstantDesc -/
def k6 : Class := { plain "java/lang/constant/ConstantDesc" (some 0) with
  accessFlags := 1537
  interfaces := #[]
  cf := some (fileOf pool6 1 #[] #[] 1537 3 #[] #[])
  fields := #[]
  methods := #[]
  instanceTypes := #[]
  staticTypes := #[]
  resolved := Array.replicate 37 none
  statics := none }

def pool7 : Array CpInfo := pool [(1, .methodref 2 3), (0, .class_ 4), (0, .nameAndType 5 6), (0, u "java/lang/Object"), (0, u "<init>"), (0, u "()V"), (0, .string 8), (0, u ""), (0, .fieldref 10 11), (0, .class_ 12), (0, .nameAndType 13 14), (0, u "java/lang/String"), (0, u "value"), (0, u "[B"), (0, .fieldref 10 16), (0, .nameAndType 17 18), (0, u "coder"), (0, u "B"), (2, u "hash"), (0, u "I"), (2, u "hashIsZero"), (0, u "Z"), (0, .methodref 10 28), (0, .nameAndType 5 29), (0, u "([CIILjava/lang/Void;)V"), (8, .fieldref 10 39), (0, .nameAndType 40 26), (0, u "COMPACT_STRINGS"), (1, .class_ 44), (1, u "java/lang/StringUTF16"), (0, u "compress"), (1, .methodref 42 48), (0, .nameAndType 49 50), (0, u "coderFromArrayLen"), (0, u "([BI)B"), (126, .methodref 42 178), (0, .nameAndType 45 179), (0, u "([CII)[B"), (154, u "()I"), (0, .methodref 10 336), (0, .nameAndType 17 337), (0, u "()B"), (169, u "length"), (35, u "equals"), (29, u "(Ljava/lang/Object;)Z"), (1, .class_ 576), (0, u "java/lang/CharSequence"), (22, u "CASE_INSENSITIVE_ORDER"), (0, u "Ljava/util/Comparator;"), (409, u "([C)V"), (90, u "serialPersistentFields"), (0, u "[Ljava/io/ObjectStreamField;"), (0, .class_ 1104), (0, u "java/lang/String$CaseInsensitiveComparator"), (1, .class_ 1107), (0, u "java/io/Serializable"), (0, .class_ 1109), (0, u "java/lang/Comparable"), (0, .class_ 1111), (0, u "java/lang/constant/Constable"), (0, .class_ 1113), (0, u "java/lang/constant/ConstantDesc"), (2, u "serialVersionUID"), (0, u "J"), (3, u "REPL"), (0, u "C"), (2, u "LATIN1"), (1, u "UTF16")] 323

def k7m0 : Method := { name := "<init>", desc := "()V", sig := { parameters := [], returnType := none }, accessFlags := 1, code := none }
def k7c1 : Code := { maxStack := 5, maxLocals := 2, code := jdk_42_method_3_code, exceptionTable := #[], attributes := #[] }
def k7m1 : Method := { name := "<init>", desc := "([C)V", sig := { parameters := [(.array .char)], returnType := none }, accessFlags := 1, code := some k7c1 }
def k7c2 : Code := { maxStack := 2, maxLocals := 1, code := jdk_42_method_54_code, exceptionTable := #[], attributes := #[] }
def k7m2 : Method := { name := "length", desc := "()I", sig := { parameters := [], returnType := some .int }, accessFlags := 1, code := some k7c2 }
def k7c3 : Code := { maxStack := 2, maxLocals := 3, code := jdk_42_method_66_code, exceptionTable := #[], attributes := #[] }
def k7m3 : Method := { name := "equals", desc := "(Ljava/lang/Object;)Z", sig := { parameters := [(.object "java/lang/Object")], returnType := some .boolean }, accessFlags := 1, code := some k7c3 }
def k7c4 : Code := { maxStack := 4, maxLocals := 6, code := jdk_42_method_149_code, exceptionTable := #[], attributes := #[] }
def k7m4 : Method := { name := "<init>", desc := "([CIILjava/lang/Void;)V", sig := { parameters := [(.array .char), .int, .int, (.object "java/lang/Void")], returnType := none }, accessFlags := 2, code := some k7c4 }
def k7c5 : Code := { maxStack := 1, maxLocals := 1, code := jdk_42_method_152_code, exceptionTable := #[], attributes := #[] }
def k7m5 : Method := { name := "coder", desc := "()B", sig := { parameters := [], returnType := some .byte }, accessFlags := 0, code := some k7c5 }
/-- java/lang/String -/
def k7 : Class := { plain "java/lang/String" (some 0) with
  accessFlags := 49
  interfaces := #[2, 3, 4, 5, 6]
  cf := some (fileOf pool7 10 #[.nestMembers #[1103]] #[{ accessFlags := 1, nameIndex := 5, descriptorIndex := 6, attributes := #[] }, { accessFlags := 1, nameIndex := 5, descriptorIndex := 1010, attributes := #[] }, { accessFlags := 1, nameIndex := 507, descriptorIndex := 334, attributes := #[] }, { accessFlags := 1, nameIndex := 543, descriptorIndex := 573, attributes := #[] }, { accessFlags := 2, nameIndex := 5, descriptorIndex := 29, attributes := #[] }, { accessFlags := 0, nameIndex := 17, descriptorIndex := 337, attributes := #[] }] 49 2 #[1106, 1108, 575, 1110, 1112] #[{ accessFlags := 18, nameIndex := 13, descriptorIndex := 14, attributes := #[] }, { accessFlags := 18, nameIndex := 17, descriptorIndex := 18, attributes := #[] }, { accessFlags := 2, nameIndex := 21, descriptorIndex := 22, attributes := #[] }, { accessFlags := 2, nameIndex := 25, descriptorIndex := 26, attributes := #[] }, { accessFlags := 26, nameIndex := 1116, descriptorIndex := 1117, attributes := #[] }, { accessFlags := 24, nameIndex := 40, descriptorIndex := 26, attributes := #[] }, { accessFlags := 26, nameIndex := 1101, descriptorIndex := 1102, attributes := #[] }, { accessFlags := 26, nameIndex := 1121, descriptorIndex := 1122, attributes := #[] }, { accessFlags := 25, nameIndex := 599, descriptorIndex := 600, attributes := #[] }, { accessFlags := 24, nameIndex := 1125, descriptorIndex := 18, attributes := #[] }, { accessFlags := 24, nameIndex := 1127, descriptorIndex := 18, attributes := #[] }])
  fields := #[{ name := "value", type := (.array .byte), accessFlags := 18, slot := 0, constantValue := 0 }, { name := "coder", type := .byte, accessFlags := 18, slot := 1, constantValue := 0 }, { name := "hash", type := .int, accessFlags := 2, slot := 2, constantValue := 0 }, { name := "hashIsZero", type := .boolean, accessFlags := 2, slot := 3, constantValue := 0 }, { name := "serialVersionUID", type := .long, accessFlags := 26, slot := 0, constantValue := 0 }, { name := "COMPACT_STRINGS", type := .boolean, accessFlags := 24, slot := 1, constantValue := 0 }, { name := "serialPersistentFields", type := (.array (.object "java/io/ObjectStreamField")), accessFlags := 26, slot := 2, constantValue := 0 }, { name := "REPL", type := .char, accessFlags := 26, slot := 3, constantValue := 0 }, { name := "CASE_INSENSITIVE_ORDER", type := (.object "java/util/Comparator"), accessFlags := 25, slot := 4, constantValue := 0 }, { name := "LATIN1", type := .byte, accessFlags := 24, slot := 5, constantValue := 0 }, { name := "UTF16", type := .byte, accessFlags := 24, slot := 6, constantValue := 0 }]
  methods := #[k7m0, k7m1, k7m2, k7m3, k7m4, k7m5]
  instanceTypes := #[(.array .byte), .byte, .int, .boolean]
  staticTypes := #[.long, .boolean, (.array (.object "java/io/ObjectStreamField")), .char, (.object "java/util/Comparator"), .byte, .byte]
  resolved := Array.replicate 1451 none
  statics := some 0 }

def pool8 : Array CpInfo := pool [(6, .class_ 8), (1, u "java/lang/Object"), (0, u "<init>"), (0, u "()V"), (1, .class_ 14), (1, u "java/lang/StringUTF16"), (31, u "$assertionsDisabled"), (0, u "Z"), (13, u "HI_BYTE_SHIFT"), (0, u "I"), (2, u "LO_BYTE_SHIFT"), (49, .methodref 12 116), (0, .nameAndType 117 118), (0, u "compress"), (0, u "([CI[BII)I"), (3, u "([CII)[B"), (138, u "coderFromArrayLen"), (0, u "([BI)B"), (106, .class_ 371), (1, u "java/lang/StringUTF16$LinesSpliterator"), (58, u "MAX_LENGTH"), (196, .class_ 628), (0, u "java/lang/StringUTF16$CodePointsSpliterator"), (0, .class_ 630), (0, u "java/lang/StringUTF16$CharsSpliterator")] 4

def k8m0 : Method := { name := "<init>", desc := "()V", sig := { parameters := [], returnType := none }, accessFlags := 0, code := none }
def k8c1 : Code := { maxStack := 2, maxLocals := 2, code := jdk_52_method_15_code, exceptionTable := #[], attributes := #[] }
def k8m1 : Method := { name := "coderFromArrayLen", desc := "([BI)B", sig := { parameters := [(.array .byte), .int], returnType := some .byte }, accessFlags := 8, code := some k8c1 }
def k8c2 : Code := { maxStack := 5, maxLocals := 6, code := jdk_52_method_16_code, exceptionTable := #[], attributes := #[] }
def k8m2 : Method := { name := "compress", desc := "([CII)[B", sig := { parameters := [(.array .char), .int, .int], returnType := some (.array .byte) }, accessFlags := 9, code := some k8c2 }
def k8c3 : Code := { maxStack := 3, maxLocals := 7, code := jdk_52_method_21_code, exceptionTable := #[], attributes := #[] }
def k8m3 : Method := { name := "compress", desc := "([CI[BII)I", sig := { parameters := [(.array .char), .int, (.array .byte), .int, .int], returnType := some .int }, accessFlags := 9, code := some k8c3 }
/-- java/lang/StringUTF16 -/
def k8 : Class := { plain "java/lang/StringUTF16" (some 0) with
  accessFlags := 48
  interfaces := #[]
  cf := some (fileOf pool8 12 #[.nestMembers #[627, 629, 369]] #[{ accessFlags := 0, nameIndex := 9, descriptorIndex := 10, attributes := #[] }, { accessFlags := 8, nameIndex := 261, descriptorIndex := 262, attributes := #[] }, { accessFlags := 9, nameIndex := 117, descriptorIndex := 122, attributes := #[] }, { accessFlags := 9, nameIndex := 117, descriptorIndex := 118, attributes := #[] }] 48 6 #[] #[{ accessFlags := 26, nameIndex := 61, descriptorIndex := 62, attributes := #[] }, { accessFlags := 26, nameIndex := 65, descriptorIndex := 62, attributes := #[] }, { accessFlags := 24, nameIndex := 430, descriptorIndex := 62, attributes := #[] }, { accessFlags := 4120, nameIndex := 46, descriptorIndex := 47, attributes := #[] }])
  fields := #[{ name := "HI_BYTE_SHIFT", type := .int, accessFlags := 26, slot := 0, constantValue := 0 }, { name := "LO_BYTE_SHIFT", type := .int, accessFlags := 26, slot := 1, constantValue := 0 }, { name := "MAX_LENGTH", type := .int, accessFlags := 24, slot := 2, constantValue := 0 }, { name := "$assertionsDisabled", type := .boolean, accessFlags := 4120, slot := 3, constantValue := 0 }]
  methods := #[k8m0, k8m1, k8m2, k8m3]
  instanceTypes := #[]
  staticTypes := #[.int, .int, .int, .boolean]
  resolved := Array.replicate 635 none
  statics := none }

def pool9 : Array CpInfo := pool [(1, .methodref 2 3), (0, .class_ 4), (0, .nameAndType 5 6), (0, u "java/lang/Object"), (0, u "<init>"), (0, u "()V"), (0, .interfaceMethodref 8 9), (0, .class_ 10), (0, .nameAndType 11 12), (0, u "java/util/List"), (0, u "copyOf"), (0, u "(Ljava/util/Collection;)Ljava/util/List;"), (0, .fieldref 14 15), (0, .class_ 16), (0, .nameAndType 17 18), (0, u "com/example/atomicity/atomicity/model/Ordering"), (0, u "keys"), (0, u "Ljava/util/List;"), (0, .class_ 20), (0, u "com/example/atomicity/atomicity/model/Ordering$Key"), (0, .methodref 19 22), (0, .nameAndType 5 23), (0, u "(Ljava/lang/String;Z)V"), (0, .interfaceMethodref 8 25), (0, .nameAndType 26 27), (0, u "of"), (0, u "(Ljava/lang/Object;)Ljava/util/List;"), (0, .methodref 14 29), (0, .nameAndType 5 30), (0, u "(Ljava/util/List;)V"), (18, u "ascending"), (0, u "(Ljava/lang/String;)Lcom/example/atomicity/atomicity/model/Ordering;"), (3, u "()Ljava/util/List;")] 6

def k9c0 : Code := { maxStack := 2, maxLocals := 2, code := prog_61_method_1_code, exceptionTable := #[], attributes := #[] }
def k9m0 : Method := { name := "<init>", desc := "(Ljava/util/List;)V", sig := { parameters := [(.object "java/util/List")], returnType := none }, accessFlags := 2, code := some k9c0 }
def k9c1 : Code := { maxStack := 6, maxLocals := 1, code := prog_61_method_2_code, exceptionTable := #[], attributes := #[] }
def k9m1 : Method := { name := "ascending", desc := "(Ljava/lang/String;)Lcom/example/atomicity/atomicity/model/Ordering;", sig := { parameters := [(.object "java/lang/String")], returnType := some (.object "com/example/atomicity/atomicity/model/Ordering") }, accessFlags := 9, code := some k9c1 }
def k9c2 : Code := { maxStack := 1, maxLocals := 1, code := prog_61_method_6_code, exceptionTable := #[], attributes := #[] }
def k9m2 : Method := { name := "keys", desc := "()Ljava/util/List;", sig := { parameters := [], returnType := some (.object "java/util/List") }, accessFlags := 1, code := some k9c2 }
/-- com/example/atomicity/atomicity/model/Ordering -/
def k9 : Class := { plain "com/example/atomicity/atomicity/model/Ordering" (some 0) with
  accessFlags := 49
  interfaces := #[]
  cf := some (fileOf pool9 14 #[.nestMembers #[19]] #[{ accessFlags := 2, nameIndex := 5, descriptorIndex := 30, attributes := #[] }, { accessFlags := 9, nameIndex := 49, descriptorIndex := 50, attributes := #[] }, { accessFlags := 1, nameIndex := 17, descriptorIndex := 54, attributes := #[] }] 49 2 #[] #[{ accessFlags := 18, nameIndex := 17, descriptorIndex := 18, attributes := #[] }])
  fields := #[{ name := "keys", type := (.object "java/util/List"), accessFlags := 18, slot := 0, constantValue := 0 }]
  methods := #[k9m0, k9m1, k9m2]
  instanceTypes := #[(.object "java/util/List")]
  staticTypes := #[]
  resolved := Array.replicate 61 none
  statics := none }

def pool10 : Array CpInfo := pool [(1, .methodref 2 3), (0, .class_ 4), (0, .nameAndType 5 6), (0, u "java/lang/Object"), (0, u "<init>"), (0, u "()V"), (0, .class_ 8), (0, u "java/lang/Record")] 13

def k10c0 : Code := { maxStack := 1, maxLocals := 1, code := jdk_30_method_1_code, exceptionTable := #[], attributes := #[] }
def k10m0 : Method := { name := "<init>", desc := "()V", sig := { parameters := [], returnType := none }, accessFlags := 4, code := some k10c0 }
/-- java/lang/Record -/
def k10 : Class := { plain "java/lang/Record" (some 0) with
  accessFlags := 1057
  interfaces := #[]
  cf := some (fileOf pool10 7 #[] #[{ accessFlags := 4, nameIndex := 5, descriptorIndex := 6, attributes := #[] }] 1057 2 #[] #[])
  fields := #[]
  methods := #[k10m0]
  instanceTypes := #[]
  staticTypes := #[]
  resolved := Array.replicate 22 none
  statics := none }

def pool11 : Array CpInfo := pool [(1, .methodref 2 3), (0, .class_ 4), (0, .nameAndType 5 6), (0, u "java/lang/Record"), (0, u "<init>"), (0, u "()V"), (0, .string 8), (0, u "property"), (0, .methodref 10 11), (0, .class_ 12), (0, .nameAndType 13 14), (0, u "java/util/Objects"), (0, u "requireNonNull"), (0, u "(Ljava/lang/Object;Ljava/lang/String;)Ljava/lang/Object;"), (0, .fieldref 16 17), (0, .class_ 18), (0, .nameAndType 8 19), (0, u "com/example/atomicity/atomicity/model/Ordering$Key"), (0, u "Ljava/lang/String;"), (0, .fieldref 16 21), (0, .nameAndType 22 23), (0, u "descending"), (0, u "Z"), (12, u "(Ljava/lang/String;Z)V"), (3, u "()Ljava/lang/String;"), (2, u "()Z"), (3, .class_ 48), (0, u "com/example/atomicity/atomicity/model/Ordering")] 20

def k11c0 : Code := { maxStack := 2, maxLocals := 3, code := prog_62_method_1_code, exceptionTable := #[], attributes := #[] }
def k11m0 : Method := { name := "<init>", desc := "(Ljava/lang/String;Z)V", sig := { parameters := [(.object "java/lang/String"), .boolean], returnType := none }, accessFlags := 1, code := some k11c0 }
def k11c1 : Code := { maxStack := 1, maxLocals := 1, code := prog_62_method_5_code, exceptionTable := #[], attributes := #[] }
def k11m1 : Method := { name := "property", desc := "()Ljava/lang/String;", sig := { parameters := [], returnType := some (.object "java/lang/String") }, accessFlags := 1, code := some k11c1 }
def k11c2 : Code := { maxStack := 1, maxLocals := 1, code := prog_62_method_6_code, exceptionTable := #[], attributes := #[] }
def k11m2 : Method := { name := "descending", desc := "()Z", sig := { parameters := [], returnType := some .boolean }, accessFlags := 1, code := some k11c2 }
/-- com/example/atomicity/atomicity/model/Ordering$Key -/
def k11 : Class := { plain "com/example/atomicity/atomicity/model/Ordering$Key" (some 10) with
  accessFlags := 49
  interfaces := #[]
  cf := some (fileOf pool11 16 #[.nestHost 47] #[{ accessFlags := 1, nameIndex := 5, descriptorIndex := 36, attributes := #[] }, { accessFlags := 1, nameIndex := 8, descriptorIndex := 40, attributes := #[] }, { accessFlags := 1, nameIndex := 22, descriptorIndex := 43, attributes := #[] }] 49 2 #[] #[{ accessFlags := 18, nameIndex := 8, descriptorIndex := 19, attributes := #[] }, { accessFlags := 18, nameIndex := 22, descriptorIndex := 23, attributes := #[] }])
  fields := #[{ name := "property", type := (.object "java/lang/String"), accessFlags := 18, slot := 0, constantValue := 0 }, { name := "descending", type := .boolean, accessFlags := 18, slot := 1, constantValue := 0 }]
  methods := #[k11m0, k11m1, k11m2]
  instanceTypes := #[(.object "java/lang/String"), .boolean]
  staticTypes := #[]
  resolved := Array.replicate 69 none
  statics := none }

def pool12 : Array CpInfo := pool [(2, .class_ 4), (1, u "java/lang/Object"), (0, u "<init>"), (0, u "()V"), (35, .class_ 44), (1, u "java/util/Objects"), (0, u "requireNonNull"), (0, u "(Ljava/lang/Object;)Ljava/lang/Object;"), (47, u "(Ljava/lang/Object;Ljava/lang/String;)Ljava/lang/Object;")] 89

def k12m0 : Method := { name := "<init>", desc := "()V", sig := { parameters := [], returnType := none }, accessFlags := 2, code := none }
def k12c1 : Code := { maxStack := 2, maxLocals := 1, code := jdk_31_method_10_code, exceptionTable := #[], attributes := #[] }
def k12m1 : Method := { name := "requireNonNull", desc := "(Ljava/lang/Object;)Ljava/lang/Object;", sig := { parameters := [(.object "java/lang/Object")], returnType := some (.object "java/lang/Object") }, accessFlags := 9, code := some k12c1 }
def k12c2 : Code := { maxStack := 3, maxLocals := 2, code := jdk_31_method_11_code, exceptionTable := #[], attributes := #[] }
def k12m2 : Method := { name := "requireNonNull", desc := "(Ljava/lang/Object;Ljava/lang/String;)Ljava/lang/Object;", sig := { parameters := [(.object "java/lang/Object"), (.object "java/lang/String")], returnType := some (.object "java/lang/Object") }, accessFlags := 9, code := some k12c2 }
/-- java/util/Objects -/
def k12 : Class := { plain "java/util/Objects" (some 0) with
  accessFlags := 49
  interfaces := #[]
  cf := some (fileOf pool12 42 #[] #[{ accessFlags := 2, nameIndex := 5, descriptorIndex := 6, attributes := #[] }, { accessFlags := 9, nameIndex := 45, descriptorIndex := 46, attributes := #[] }, { accessFlags := 9, nameIndex := 45, descriptorIndex := 94, attributes := #[] }] 49 2 #[] #[])
  fields := #[]
  methods := #[k12m0, k12m1, k12m2]
  instanceTypes := #[]
  staticTypes := #[]
  resolved := Array.replicate 184 none
  statics := none }

def pool13 : Array CpInfo := pool [(8, .class_ 10), (1, u "java/lang/Iterable"), (24, .class_ 36), (0, u "java/lang/Object")] 25

/-- java/lang/Iterable -/
def k13 : Class := { plain "java/lang/Iterable" (some 0) with
  accessFlags := 1537
  interfaces := #[]
  cf := some (fileOf pool13 8 #[] #[] 1537 35 #[] #[])
  fields := #[]
  methods := #[]
  instanceTypes := #[]
  staticTypes := #[]
  resolved := Array.replicate 62 none
  statics := none }

def pool14 : Array CpInfo := pool [(10, .class_ 12), (1, u "java/util/Collection"), (47, .class_ 61), (0, u "java/lang/Object"), (0, .class_ 63), (0, u "java/lang/Iterable")] 51

/-- java/util/Collection -/
def k14 : Class := { plain "java/util/Collection" (some 0) with
  accessFlags := 1537
  interfaces := #[13]
  cf := some (fileOf pool14 10 #[] #[] 1537 60 #[62] #[])
  fields := #[]
  methods := #[]
  instanceTypes := #[]
  staticTypes := #[]
  resolved := Array.replicate 115 none
  statics := none }

def pool15 : Array CpInfo := pool [(8, .class_ 10), (1, u "java/util/SequencedCollection"), (15, .class_ 27), (0, u "java/lang/Object"), (0, .class_ 29), (0, u "java/util/Collection")] 27

/-- java/util/SequencedCollection -/
def k15 : Class := { plain "java/util/SequencedCollection" (some 0) with
  accessFlags := 1537
  interfaces := #[14]
  cf := some (fileOf pool15 8 #[] #[] 1537 26 #[28] #[])
  fields := #[]
  methods := #[]
  instanceTypes := #[]
  staticTypes := #[]
  resolved := Array.replicate 57 none
  statics := none }

def pool16 : Array CpInfo := pool [(8, .class_ 10), (1, u "java/util/List"), (20, u "(Ljava/lang/Object;)V"), (16, u "<init>"), (26, u "get"), (0, u "(I)Ljava/lang/Object;"), (2, u "size"), (0, u "()I"), (7, u "of"), (2, .class_ 93), (1, u "java/util/ImmutableCollections"), (2, .class_ 97), (0, u "java/util/ImmutableCollections$List12"), (0, .methodref 96 99), (0, .nameAndType 48 31), (3, .class_ 104), (0, u "java/lang/Object"), (7, .methodref 91 113), (0, .nameAndType 114 115), (0, u "listCopy"), (0, u "(Ljava/util/Collection;)Ljava/util/List;"), (4, .class_ 121), (0, u "java/util/SequencedCollection"), (76, u "(Ljava/lang/Object;)Ljava/util/List;"), (35, u "copyOf")] 16

def k16m0 : Method := { name := "size", desc := "()I", sig := { parameters := [], returnType := some .int }, accessFlags := 1025, code := none }
def k16m1 : Method := { name := "get", desc := "(I)Ljava/lang/Object;", sig := { parameters := [.int], returnType := some (.object "java/lang/Object") }, accessFlags := 1025, code := none }
def k16c2 : Code := { maxStack := 3, maxLocals := 1, code := jdk_40_method_37_code, exceptionTable := #[], attributes := #[] }
def k16m2 : Method := { name := "of", desc := "(Ljava/lang/Object;)Ljava/util/List;", sig := { parameters := [(.object "java/lang/Object")], returnType := some (.object "java/util/List") }, accessFlags := 9, code := some k16c2 }
def k16c3 : Code := { maxStack := 1, maxLocals := 1, code := jdk_40_method_48_code, exceptionTable := #[], attributes := #[] }
def k16m3 : Method := { name := "copyOf", desc := "(Ljava/util/Collection;)Ljava/util/List;", sig := { parameters := [(.object "java/util/Collection")], returnType := some (.object "java/util/List") }, accessFlags := 9, code := some k16c3 }
/-- java/util/List -/
def k16 : Class := { plain "java/util/List" (some 0) with
  accessFlags := 1537
  interfaces := #[15]
  cf := some (fileOf pool16 8 #[] #[{ accessFlags := 1025, nameIndex := 79, descriptorIndex := 80, attributes := #[] }, { accessFlags := 1025, nameIndex := 75, descriptorIndex := 76, attributes := #[] }, { accessFlags := 9, nameIndex := 88, descriptorIndex := 198, attributes := #[] }, { accessFlags := 9, nameIndex := 234, descriptorIndex := 115, attributes := #[] }] 1537 103 #[120] #[])
  fields := #[]
  methods := #[k16m0, k16m1, k16m2, k16m3]
  instanceTypes := #[]
  staticTypes := #[]
  resolved := Array.replicate 251 none
  statics := none }

def pool17 : Array CpInfo := pool [(1, .methodref 2 3), (0, .class_ 4), (0, .nameAndType 5 6), (0, u "java/lang/Object"), (0, u "<init>"), (0, u "()V"), (1, .class_ 10), (1, u "java/util/AbstractCollection"), (66, .class_ 78), (0, u "java/util/Collection")] 81

def k17c0 : Code := { maxStack := 1, maxLocals := 1, code := jdk_22_method_1_code, exceptionTable := #[], attributes := #[] }
def k17m0 : Method := { name := "<init>", desc := "()V", sig := { parameters := [], returnType := none }, accessFlags := 4, code := some k17c0 }
/-- java/util/AbstractCollection -/
def k17 : Class := { plain "java/util/AbstractCollection" (some 0) with
  accessFlags := 1057
  interfaces := #[14]
  cf := some (fileOf pool17 8 #[] #[{ accessFlags := 4, nameIndex := 5, descriptorIndex := 6, attributes := #[] }] 1057 2 #[77] #[])
  fields := #[]
  methods := #[k17m0]
  instanceTypes := #[]
  staticTypes := #[]
  resolved := Array.replicate 160 none
  statics := none }

def pool18 : Array CpInfo := pool [(1, .methodref 2 3), (0, .class_ 4), (0, .nameAndType 5 6), (0, u "java/util/AbstractCollection"), (0, u "<init>"), (0, u "()V"), (1, .class_ 10), (1, u "java/util/ImmutableCollections"), (2, .class_ 14), (0, u "java/util/ImmutableCollections$AbstractImmutableCollection")] 41

def k18c0 : Code := { maxStack := 1, maxLocals := 1, code := jdk_47_method_1_code, exceptionTable := #[], attributes := #[] }
def k18m0 : Method := { name := "<init>", desc := "()V", sig := { parameters := [], returnType := none }, accessFlags := 0, code := some k18c0 }
/-- java/util/ImmutableCollections$AbstractImmutableCollection -/
def k18 : Class := { plain "java/util/ImmutableCollections$AbstractImmutableCollection" (some 17) with
  accessFlags := 1056
  interfaces := #[]
  cf := some (fileOf pool18 13 #[.nestHost 8] #[{ accessFlags := 0, nameIndex := 5, descriptorIndex := 6, attributes := #[] }] 1056 2 #[] #[])
  fields := #[]
  methods := #[k18m0]
  instanceTypes := #[]
  staticTypes := #[]
  resolved := Array.replicate 56 none
  statics := none }

def pool19 : Array CpInfo := pool [(1, .class_ 2), (0, u "java/util/RandomAccess"), (0, .class_ 4), (0, u "java/lang/Object")] 2

/-- java/util/RandomAccess -/
def k19 : Class := { plain "java/util/RandomAccess" (some 0) with
  accessFlags := 1537
  interfaces := #[]
  cf := some (fileOf pool19 1 #[] #[] 1537 3 #[] #[])
  fields := #[]
  methods := #[]
  instanceTypes := #[]
  staticTypes := #[]
  resolved := Array.replicate 7 none
  statics := none }

def pool20 : Array CpInfo := pool [(1, .methodref 2 3), (0, .class_ 4), (0, .nameAndType 5 6), (0, u "java/util/ImmutableCollections$AbstractImmutableCollection"), (0, u "<init>"), (0, u "()V"), (1, .class_ 10), (1, u "java/util/ImmutableCollections"), (3, .class_ 16), (1, u "java/util/ImmutableCollections$AbstractImmutableList"), (60, .class_ 78), (0, u "java/util/List"), (45, .class_ 125), (0, u "java/util/RandomAccess")] 70

def k20c0 : Code := { maxStack := 1, maxLocals := 1, code := jdk_46_method_1_code, exceptionTable := #[], attributes := #[] }
def k20m0 : Method := { name := "<init>", desc := "()V", sig := { parameters := [], returnType := none }, accessFlags := 0, code := some k20c0 }
/-- java/util/ImmutableCollections$AbstractImmutableList -/
def k20 : Class := { plain "java/util/ImmutableCollections$AbstractImmutableList" (some 18) with
  accessFlags := 1056
  interfaces := #[16, 19]
  cf := some (fileOf pool20 14 #[.nestHost 8] #[{ accessFlags := 0, nameIndex := 5, descriptorIndex := 6, attributes := #[] }] 1056 2 #[77, 124] #[])
  fields := #[]
  methods := #[k20m0]
  instanceTypes := #[]
  staticTypes := #[]
  resolved := Array.replicate 196 none
  statics := none }

def pool21 : Array CpInfo := pool [(1, .methodref 2 3), (0, .class_ 4), (0, .nameAndType 5 6), (0, u "java/util/ImmutableCollections$AbstractImmutableList"), (0, u "<init>"), (0, u "()V"), (0, .methodref 8 9), (0, .class_ 10), (0, .nameAndType 11 12), (0, u "java/util/Objects"), (0, u "requireNonNull"), (0, u "(Ljava/lang/Object;)Ljava/lang/Object;"), (0, .fieldref 14 15), (0, .class_ 16), (0, .nameAndType 17 18), (0, u "java/util/ImmutableCollections$List12"), (0, u "e0"), (0, u "Ljava/lang/Object;"), (0, .fieldref 20 21), (0, .class_ 22), (0, .nameAndType 23 18), (0, u "java/util/ImmutableCollections"), (0, u "EMPTY"), (0, .fieldref 14 25), (0, .nameAndType 26 18), (0, u "e1"), (24, u "size"), (0, u "()I"), (17, .class_ 71), (0, u "java/io/Serializable"), (4, u "(Ljava/lang/Object;)V"), (13, u "get"), (0, u "(I)Ljava/lang/Object;")] 33

def k21c0 : Code := { maxStack := 2, maxLocals := 2, code := jdk_44_method_1_code, exceptionTable := #[], attributes := #[] }
def k21m0 : Method := { name := "<init>", desc := "(Ljava/lang/Object;)V", sig := { parameters := [(.object "java/lang/Object")], returnType := none }, accessFlags := 0, code := some k21c0 }
def k21c1 : Code := { maxStack := 2, maxLocals := 1, code := jdk_44_method_3_code, exceptionTable := #[], attributes := #[] }
def k21m1 : Method := { name := "size", desc := "()I", sig := { parameters := [], returnType := some .int }, accessFlags := 1, code := some k21c1 }
def k21c2 : Code := { maxStack := 2, maxLocals := 2, code := jdk_44_method_5_code, exceptionTable := #[], attributes := #[] }
def k21m2 : Method := { name := "get", desc := "(I)Ljava/lang/Object;", sig := { parameters := [.int], returnType := some (.object "java/lang/Object") }, accessFlags := 1, code := some k21c2 }
/-- java/util/ImmutableCollections$List12 -/
def k21 : Class := { plain "java/util/ImmutableCollections$List12" (some 20) with
  accessFlags := 48
  interfaces := #[2]
  cf := some (fileOf pool21 14 #[.nestHost 20] #[{ accessFlags := 0, nameIndex := 5, descriptorIndex := 76, attributes := #[] }, { accessFlags := 1, nameIndex := 51, descriptorIndex := 52, attributes := #[] }, { accessFlags := 1, nameIndex := 90, descriptorIndex := 91, attributes := #[] }] 48 2 #[70] #[{ accessFlags := 18, nameIndex := 17, descriptorIndex := 18, attributes := #[] }, { accessFlags := 18, nameIndex := 26, descriptorIndex := 18, attributes := #[] }])
  fields := #[{ name := "e0", type := (.object "java/lang/Object"), accessFlags := 18, slot := 0, constantValue := 0 }, { name := "e1", type := (.object "java/lang/Object"), accessFlags := 18, slot := 1, constantValue := 0 }]
  methods := #[k21m0, k21m1, k21m2]
  instanceTypes := #[(.object "java/lang/Object"), (.object "java/lang/Object")]
  staticTypes := #[]
  resolved := Array.replicate 125 none
  statics := none }

def pool22 : Array CpInfo := pool [(2, .class_ 4), (1, u "java/lang/Object"), (0, u "<init>"), (0, u "()V"), (3, .class_ 11), (0, u "java/util/ImmutableCollections$List12"), (0, .class_ 13), (0, u "java/util/ImmutableCollections$ListN"), (3, u "Z"), (0, .class_ 19), (0, u "java/util/List"), (27, .class_ 49), (1, u "java/util/ImmutableCollections"), (0, u "$assertionsDisabled"), (5, u "[Ljava/lang/Object;"), (5, u "EMPTY_LIST"), (0, u "Ljava/util/ImmutableCollections$ListN;"), (8, u "EMPTY_LIST_NULLS"), (22, u "SALT32L"), (0, u "J"), (2, u "REVERSE"), (6, u "archivedObjects"), (2, u "EMPTY"), (0, u "Ljava/lang/Object;"), (0, .class_ 112), (0, u "java/util/ImmutableCollections$SetN"), (5, u "EMPTY_SET"), (0, u "Ljava/util/ImmutableCollections$SetN;"), (0, .class_ 121), (0, u "java/util/ImmutableCollections$MapN"), (3, u "EMPTY_MAP"), (0, u "Ljava/util/ImmutableCollections$MapN;"), (4, u "EXPAND_FACTOR"), (0, u "I"), (9, u "listCopy"), (0, u "(Ljava/util/Collection;)Ljava/util/List;"), (25, .class_ 170), (0, u "java/util/ImmutableCollections$MapN$MapNIterator"), (0, .class_ 172), (0, u "java/util/ImmutableCollections$MapN$1"), (0, .class_ 174), (0, u "java/util/ImmutableCollections$Map1"), (0, .class_ 176), (0, u "java/util/ImmutableCollections$AbstractImmutableMap"), (0, .class_ 178), (0, u "java/util/ImmutableCollections$SetN$SetNIterator"), (0, .class_ 180), (0, u "java/util/ImmutableCollections$Set12"), (0, .class_ 182), (0, u "java/util/ImmutableCollections$Set12$1"), (0, .class_ 184), (0, u "java/util/ImmutableCollections$AbstractImmutableSet"), (0, .class_ 186), (0, u "java/util/ImmutableCollections$SubList"), (0, .class_ 188), (0, u "java/util/ImmutableCollections$ListItr"), (0, .class_ 190), (0, u "java/util/ImmutableCollections$AbstractImmutableList"), (0, .class_ 192), (0, u "java/util/ImmutableCollections$AbstractImmutableCollection"), (0, .class_ 194), (0, u "java/util/ImmutableCollections$Access"), (0, .class_ 196), (0, u "java/util/ImmutableCollections$Access$1")] 16

def k22m0 : Method := { name := "<init>", desc := "()V", sig := { parameters := [], returnType := none }, accessFlags := 2, code := none }
def k22c1 : Code := { maxStack := 1, maxLocals := 2, code := jdk_56_method_3_code, exceptionTable := #[], attributes := #[] }
def k22m1 : Method := { name := "listCopy", desc := "(Ljava/util/Collection;)Ljava/util/List;", sig := { parameters := [(.object "java/util/Collection")], returnType := some (.object "java/util/List") }, accessFlags := 8, code := some k22c1 }
/-- java/util/ImmutableCollections -/
def k22 : Class := { plain "java/util/ImmutableCollections" (some 0) with
  accessFlags := 32
  interfaces := #[]
  cf := some (fileOf pool22 47 #[.nestMembers #[120, 169, 171, 173, 175, 111, 177, 179, 181, 183, 12, 10, 185, 187, 189, 191, 193, 195]] #[{ accessFlags := 2, nameIndex := 5, descriptorIndex := 6, attributes := #[] }, { accessFlags := 8, nameIndex := 142, descriptorIndex := 143, attributes := #[] }] 32 2 #[] #[{ accessFlags := 26, nameIndex := 95, descriptorIndex := 96, attributes := #[] }, { accessFlags := 26, nameIndex := 99, descriptorIndex := 17, attributes := #[] }, { accessFlags := 10, nameIndex := 106, descriptorIndex := 56, attributes := #[] }, { accessFlags := 26, nameIndex := 109, descriptorIndex := 110, attributes := #[] }, { accessFlags := 24, nameIndex := 62, descriptorIndex := 63, attributes := #[] }, { accessFlags := 24, nameIndex := 72, descriptorIndex := 63, attributes := #[] }, { accessFlags := 24, nameIndex := 118, descriptorIndex := 119, attributes := #[] }, { accessFlags := 24, nameIndex := 125, descriptorIndex := 126, attributes := #[] }, { accessFlags := 24, nameIndex := 131, descriptorIndex := 132, attributes := #[] }, { accessFlags := 4120, nameIndex := 50, descriptorIndex := 17, attributes := #[] }])
  fields := #[{ name := "SALT32L", type := .long, accessFlags := 26, slot := 0, constantValue := 0 }, { name := "REVERSE", type := .boolean, accessFlags := 26, slot := 1, constantValue := 0 }, { name := "archivedObjects", type := (.array (.object "java/lang/Object")), accessFlags := 10, slot := 2, constantValue := 0 }, { name := "EMPTY", type := (.object "java/lang/Object"), accessFlags := 26, slot := 3, constantValue := 0 }, { name := "EMPTY_LIST", type := (.object "java/util/ImmutableCollections$ListN"), accessFlags := 24, slot := 4, constantValue := 0 }, { name := "EMPTY_LIST_NULLS", type := (.object "java/util/ImmutableCollections$ListN"), accessFlags := 24, slot := 5, constantValue := 0 }, { name := "EMPTY_SET", type := (.object "java/util/ImmutableCollections$SetN"), accessFlags := 24, slot := 6, constantValue := 0 }, { name := "EMPTY_MAP", type := (.object "java/util/ImmutableCollections$MapN"), accessFlags := 24, slot := 7, constantValue := 0 }, { name := "EXPAND_FACTOR", type := .int, accessFlags := 24, slot := 8, constantValue := 0 }, { name := "$assertionsDisabled", type := .boolean, accessFlags := 4120, slot := 9, constantValue := 0 }]
  methods := #[k22m0, k22m1]
  instanceTypes := #[]
  staticTypes := #[.long, .boolean, (.array (.object "java/lang/Object")), (.object "java/lang/Object"), (.object "java/util/ImmutableCollections$ListN"), (.object "java/util/ImmutableCollections$ListN"), (.object "java/util/ImmutableCollections$SetN"), (.object "java/util/ImmutableCollections$MapN"), .int, .boolean]
  resolved := Array.replicate 213 none
  statics := some 1 }

def pool23 : Array CpInfo := pool [(4, .class_ 6), (1, u "java/lang/Object"), (0, u "<init>"), (0, u "()V"), (5, .class_ 16), (1, u "java/lang/StringLatin1"), (104, u "$assertionsDisabled"), (0, u "Z"), (98, .class_ 223), (1, u "java/lang/StringLatin1$LinesSpliterator"), (166, .class_ 391), (0, u "java/lang/StringLatin1$CharsSpliterator")] 3

def k23m0 : Method := { name := "<init>", desc := "()V", sig := { parameters := [], returnType := none }, accessFlags := 0, code := none }
/-- java/lang/StringLatin1 -/
def k23 : Class := { plain "java/lang/StringLatin1" (some 0) with
  accessFlags := 48
  interfaces := #[]
  cf := some (fileOf pool23 14 #[.nestMembers #[390, 221]] #[{ accessFlags := 0, nameIndex := 7, descriptorIndex := 8, attributes := #[] }] 48 4 #[] #[{ accessFlags := 4120, nameIndex := 121, descriptorIndex := 122, attributes := #[] }])
  fields := #[{ name := "$assertionsDisabled", type := .boolean, accessFlags := 4120, slot := 0, constantValue := 0 }]
  methods := #[k23m0]
  instanceTypes := #[]
  staticTypes := #[.boolean]
  resolved := Array.replicate 395 none
  statics := none }

def pool24 : Array CpInfo := pool [(2, .class_ 4), (1, u "java/lang/Object"), (0, u "<init>"), (0, u "()V"), (17, .class_ 26), (1, u "jdk/internal/util/Preconditions"), (28, .class_ 56), (0, u "jdk/internal/util/Preconditions$4"), (57, .class_ 115), (0, u "jdk/internal/util/Preconditions$1"), (7, u "SIOOBE_FORMATTER"), (0, u "Ljava/util/function/BiFunction;"), (0, .class_ 126), (0, u "jdk/internal/util/Preconditions$2"), (3, u "AIOOBE_FORMATTER"), (0, .class_ 132), (0, u "jdk/internal/util/Preconditions$3"), (3, u "IOOBE_FORMATTER")] 57

def k24m0 : Method := { name := "<init>", desc := "()V", sig := { parameters := [], returnType := none }, accessFlags := 1, code := none }
/-- jdk/internal/util/Preconditions -/
def k24 : Class := { plain "jdk/internal/util/Preconditions" (some 0) with
  accessFlags := 33
  interfaces := #[]
  cf := some (fileOf pool24 24 #[.nestMembers #[55, 131, 125, 114]] #[{ accessFlags := 1, nameIndex := 5, descriptorIndex := 6, attributes := #[] }] 33 2 #[] #[{ accessFlags := 25, nameIndex := 123, descriptorIndex := 124, attributes := #[] }, { accessFlags := 25, nameIndex := 130, descriptorIndex := 124, attributes := #[] }, { accessFlags := 25, nameIndex := 136, descriptorIndex := 124, attributes := #[] }])
  fields := #[{ name := "SIOOBE_FORMATTER", type := (.object "java/util/function/BiFunction"), accessFlags := 25, slot := 0, constantValue := 0 }, { name := "AIOOBE_FORMATTER", type := (.object "java/util/function/BiFunction"), accessFlags := 25, slot := 1, constantValue := 0 }, { name := "IOOBE_FORMATTER", type := (.object "java/util/function/BiFunction"), accessFlags := 25, slot := 2, constantValue := 0 }]
  methods := #[k24m0]
  instanceTypes := #[]
  staticTypes := #[(.object "java/util/function/BiFunction"), (.object "java/util/function/BiFunction"), (.object "java/util/function/BiFunction")]
  resolved := Array.replicate 194 none
  statics := some 2 }

def pool25 : Array CpInfo := pool [(9, u "<init>"), (6, .class_ 18), (1, u "java/lang/Object"), (0, u "()V"), (1, .class_ 23), (1, u "jdk/internal/util/ArraysSupport"), (0, u "LOG2_ARRAY_LONG_INDEX_SCALE"), (0, u "I"), (2, u "U"), (0, u "Ljdk/internal/misc/Unsafe;"), (8, u "BIG_ENDIAN"), (0, u "Z"), (8, u "LOG2_BYTE_BIT_SIZE"), (4, u "LOG2_ARRAY_INT_INDEX_SCALE"), (54, u "JLA"), (0, u "Ljdk/internal/access/JavaLangAccess;"), (11, u "LOG2_ARRAY_BOOLEAN_INDEX_SCALE"), (9, u "LOG2_ARRAY_BYTE_INDEX_SCALE"), (5, u "LOG2_ARRAY_CHAR_INDEX_SCALE"), (5, u "LOG2_ARRAY_SHORT_INDEX_SCALE"), (18, u "LOG2_ARRAY_FLOAT_INDEX_SCALE"), (24, u "LOG2_ARRAY_DOUBLE_INDEX_SCALE"), (89, u "T_BOOLEAN"), (2, u "T_CHAR"), (1, u "T_FLOAT"), (1, u "T_DOUBLE"), (1, u "T_BYTE"), (1, u "T_SHORT"), (1, u "T_INT"), (1, u "T_LONG"), (1, u "SOFT_MAX_ARRAY_LENGTH")] 83

def k25m0 : Method := { name := "<init>", desc := "()V", sig := { parameters := [], returnType := none }, accessFlags := 2, code := none }
/-- jdk/internal/util/ArraysSupport -/
def k25 : Class := { plain "jdk/internal/util/ArraysSupport" (some 0) with
  accessFlags := 33
  interfaces := #[]
  cf := some (fileOf pool25 21 #[] #[{ accessFlags := 2, nameIndex := 9, descriptorIndex := 19, attributes := #[] }] 33 16 #[] #[{ accessFlags := 24, nameIndex := 28, descriptorIndex := 29, attributes := #[] }, { accessFlags := 26, nameIndex := 38, descriptorIndex := 39, attributes := #[] }, { accessFlags := 25, nameIndex := 121, descriptorIndex := 25, attributes := #[] }, { accessFlags := 25, nameIndex := 131, descriptorIndex := 25, attributes := #[] }, { accessFlags := 25, nameIndex := 137, descriptorIndex := 25, attributes := #[] }, { accessFlags := 25, nameIndex := 143, descriptorIndex := 25, attributes := #[] }, { accessFlags := 25, nameIndex := 53, descriptorIndex := 25, attributes := #[] }, { accessFlags := 25, nameIndex := 24, descriptorIndex := 25, attributes := #[] }, { accessFlags := 25, nameIndex := 162, descriptorIndex := 25, attributes := #[] }, { accessFlags := 25, nameIndex := 187, descriptorIndex := 25, attributes := #[] }, { accessFlags := 26, nameIndex := 48, descriptorIndex := 25, attributes := #[] }, { accessFlags := 25, nameIndex := 277, descriptorIndex := 25, attributes := #[] }, { accessFlags := 25, nameIndex := 280, descriptorIndex := 25, attributes := #[] }, { accessFlags := 25, nameIndex := 282, descriptorIndex := 25, attributes := #[] }, { accessFlags := 25, nameIndex := 284, descriptorIndex := 25, attributes := #[] }, { accessFlags := 25, nameIndex := 286, descriptorIndex := 25, attributes := #[] }, { accessFlags := 25, nameIndex := 288, descriptorIndex := 25, attributes := #[] }, { accessFlags := 25, nameIndex := 290, descriptorIndex := 25, attributes := #[] }, { accessFlags := 25, nameIndex := 292, descriptorIndex := 25, attributes := #[] }, { accessFlags := 26, nameIndex := 108, descriptorIndex := 109, attributes := #[] }, { accessFlags := 25, nameIndex := 294, descriptorIndex := 25, attributes := #[] }])
  fields := #[{ name := "U", type := (.object "jdk/internal/misc/Unsafe"), accessFlags := 24, slot := 0, constantValue := 0 }, { name := "BIG_ENDIAN", type := .boolean, accessFlags := 26, slot := 1, constantValue := 0 }, { name := "LOG2_ARRAY_BOOLEAN_INDEX_SCALE", type := .int, accessFlags := 25, slot := 2, constantValue := 0 }, { name := "LOG2_ARRAY_BYTE_INDEX_SCALE", type := .int, accessFlags := 25, slot := 3, constantValue := 0 }, { name := "LOG2_ARRAY_CHAR_INDEX_SCALE", type := .int, accessFlags := 25, slot := 4, constantValue := 0 }, { name := "LOG2_ARRAY_SHORT_INDEX_SCALE", type := .int, accessFlags := 25, slot := 5, constantValue := 0 }, { name := "LOG2_ARRAY_INT_INDEX_SCALE", type := .int, accessFlags := 25, slot := 6, constantValue := 0 }, { name := "LOG2_ARRAY_LONG_INDEX_SCALE", type := .int, accessFlags := 25, slot := 7, constantValue := 0 }, { name := "LOG2_ARRAY_FLOAT_INDEX_SCALE", type := .int, accessFlags := 25, slot := 8, constantValue := 0 }, { name := "LOG2_ARRAY_DOUBLE_INDEX_SCALE", type := .int, accessFlags := 25, slot := 9, constantValue := 0 }, { name := "LOG2_BYTE_BIT_SIZE", type := .int, accessFlags := 26, slot := 10, constantValue := 0 }, { name := "T_BOOLEAN", type := .int, accessFlags := 25, slot := 11, constantValue := 0 }, { name := "T_CHAR", type := .int, accessFlags := 25, slot := 12, constantValue := 0 }, { name := "T_FLOAT", type := .int, accessFlags := 25, slot := 13, constantValue := 0 }, { name := "T_DOUBLE", type := .int, accessFlags := 25, slot := 14, constantValue := 0 }, { name := "T_BYTE", type := .int, accessFlags := 25, slot := 15, constantValue := 0 }, { name := "T_SHORT", type := .int, accessFlags := 25, slot := 16, constantValue := 0 }, { name := "T_INT", type := .int, accessFlags := 25, slot := 17, constantValue := 0 }, { name := "T_LONG", type := .int, accessFlags := 25, slot := 18, constantValue := 0 }, { name := "JLA", type := (.object "jdk/internal/access/JavaLangAccess"), accessFlags := 26, slot := 19, constantValue := 0 }, { name := "SOFT_MAX_ARRAY_LENGTH", type := .int, accessFlags := 25, slot := 20, constantValue := 0 }]
  methods := #[k25m0]
  instanceTypes := #[]
  staticTypes := #[(.object "jdk/internal/misc/Unsafe"), .boolean, .int, .int, .int, .int, .int, .int, .int, .int, .int, .int, .int, .int, .int, .int, .int, .int, .int, (.object "jdk/internal/access/JavaLangAccess"), .int]
  resolved := Array.replicate 378 none
  statics := none }

def pool26 : Array CpInfo := pool [(2, .class_ 4), (1, u "java/util/ImmutableCollections$AbstractImmutableList"), (3, .class_ 10), (1, u "java/util/ImmutableCollections$ListN"), (0, u "elements"), (0, u "[Ljava/lang/Object;"), (2, u "allowNulls"), (0, u "Z"), (42, .class_ 60), (0, u "java/io/Serializable"), (53, .class_ 115), (0, u "java/util/ImmutableCollections")] 3

/-- java/util/ImmutableCollections$ListN -/
def k26 : Class := { plain "java/util/ImmutableCollections$ListN" (some 20) with
  accessFlags := 48
  interfaces := #[2]
  cf := some (fileOf pool26 8 #[.nestHost 114] #[] 48 2 #[59] #[{ accessFlags := 18, nameIndex := 11, descriptorIndex := 12, attributes := #[] }, { accessFlags := 18, nameIndex := 15, descriptorIndex := 16, attributes := #[] }])
  fields := #[{ name := "elements", type := (.array (.object "java/lang/Object")), accessFlags := 18, slot := 0, constantValue := 0 }, { name := "allowNulls", type := .boolean, accessFlags := 18, slot := 1, constantValue := 0 }]
  methods := #[]
  instanceTypes := #[(.array (.object "java/lang/Object")), .boolean]
  staticTypes := #[]
  resolved := Array.replicate 119 none
  statics := none }

def pool27 : Array CpInfo := pool [(1, u "java/lang/Cloneable"), (0, .class_ 1), (0, u "java/lang/Object"), (0, .class_ 3)] 3

/-- java/lang/Cloneable -/
def k27 : Class := { plain "java/lang/Cloneable" (some 0) with
  accessFlags := 1537
  interfaces := #[]
  cf := some (fileOf pool27 2 #[] #[] 1537 4 #[] #[])
  fields := #[]
  methods := #[]
  instanceTypes := #[]
  staticTypes := #[]
  resolved := Array.replicate 8 none
  statics := none }

/-- the primitive byte -/
def k28 : Class := { plain "byte" none with kind := .primitive 'B', accessFlags := 0x411 }
/-- [B -/
def k29 : Class := { plain "[B" (some 0) with kind := .array 28 .byte, interfaces := #[27, 2], accessFlags := 1041 }

/-- the primitive char -/
def k30 : Class := { plain "char" none with kind := .primitive 'C', accessFlags := 0x411 }
/-- [C -/
def k31 : Class := { plain "[C" (some 0) with kind := .array 30 .char, interfaces := #[27, 2], accessFlags := 1041 }

/-- the primitive int -/
def k32 : Class := { plain "int" none with kind := .primitive 'I', accessFlags := 0x411 }
/-- [I -/
def k33 : Class := { plain "[I" (some 0) with kind := .array 32 .int, interfaces := #[27, 2], accessFlags := 1041 }

def heap : Heap := #[{ cls := 7, slots := #[.long 0, .int 1, .null, .int 0, .null, .int 0, .int 0], vm := .statics 7 },
  { cls := 22, slots := #[.long 0, .int 0, .null, .ref 3, .ref 4, .null, .null, .null, .int 0, .int 1], vm := .statics 22 },
  { cls := 24, slots := #[.null, .null, .null], vm := .statics 24 },
  { cls := 0, slots := #[], vm := .none },
  { cls := 26, slots := #[.null, .int 0], vm := .none }]
def classes : Array Class := #[k0, k1, k2, k3, k4, k5, k6, k7, k8, k9, k10, k11, k12, k13, k14, k15, k16, k17, k18, k19, k20, k21, k22, k23, k24, k25, k26, k27, k28, k29, k30, k31, k32, k33]
def interned : List (Array UInt16 × Addr) := []
def slotsUsed : Nat := 22
def theMethod : MethodId := ⟨1, 2⟩
def args0 : Array Value := #[.int 5, .int 7, .int 9, .int 1]
def aboutOver (below : List Frame) : State where
  vm := { classes := classes, interned := interned.toArray }
  heap := heap
  slotsUsed := slotsUsed
  threads := #[{ frames := .invoking theMethod args0 :: below }]
def below0 : List Frame := [.native { method := ⟨0, 0⟩, args := #[] }]
def about1 : State := aboutOver below0
def p0 : Program := .bare "" "" ""
def e0 : Env := launch0.env 0 0 0
theorem w_frames : about1.frames = Frame.invoking theMethod args0 :: below0 := rfl
set_option maxRecDepth 65536 in
theorem w_args : argsFit about1.vm theMethod args0 = true := by decide +kernel
set_option maxRecDepth 65536 in
theorem w_heap : heapFits about1 = true := by decide +kernel
set_option maxRecDepth 65536 in
theorem w_runnable : about1.curStatus? = some .runnable := by decide +kernel
set_option maxRecDepth 65536 in
theorem w_alone : about1.alone = true := by decide +kernel
set_option maxRecDepth 65536 in
theorem w_named : about1.methodNamed? x = some theMethod := by decide +kernel
set_option maxRecDepth 65536 in
theorem w_hears : about1.hears theMethod below0 = true := by decide +kernel
set_option maxRecDepth 65536 in
theorem w_ripe : about1.ripe theMethod args0 below0 = true := by decide +kernel
theorem w_running : about1.status = .running := rfl
set_option maxRecDepth 65536 in
theorem w_room : about1.hasRoom e0.platform room_1 = true :=
  launch0.hasRoom_least _ room_1 (by decide +kernel) (by decide +kernel) (by decide +kernel) (by decide +kernel) (by decide +kernel) (by decide +kernel)
theorem allAtoms_all (ts : List Jvm.Cond) (a : Array Jvm.Value) (st : Jvm.State) : (allAtoms ts).before a st = ts.all (fun c => c.before a st) := by
  induction ts with
  | nil => rfl
  | cons c t ih =>
    show (Jvm.Cond.and c (allAtoms t)).before a st = _
    rw [Jvm.Cond.before_and, ih, List.all_cons]
def words1 : List Jvm.Cond := Jvm.Cond.code x code maxLocals ret :: tables_1
/-- a 'code' word, met by the world's own term for the bytes: nothing is compared byte by byte -/
theorem code_word {y : MethodName} {bytes : ByteArray} {mx : Nat} {rt : Option FieldType} {a : Array Value} {s : State} {m : MethodId} {meth : Method} {c : Code} (h1 : s.methodNamed? y = some m) (h2 : s.vm.method? m = some meth) (h3 : meth.code = some c) (h4 : c.code = bytes)
    (h5 : (c.maxLocals == mx && c.exceptionTable.isEmpty && decide (c.maxStack ≤ mostOperands) && decide (meth.sig.returnType = rt) && !meth.locks && decide (parseMethodDescriptor y.desc = some meth.sig)) = true) : (Jvm.Cond.code y bytes mx rt).before a s = true := by
  simp only [Bool.and_eq_true, beq_iff_eq, Bool.not_eq_true', decide_eq_true_eq] at h5
  obtain ⟨⟨⟨⟨⟨g1, g2⟩, g3⟩, g4⟩, g5⟩, g6⟩ := h5
  simp [Cond.before, Cond.holds, Cond.value, h1, h2, h3, h4, g1, g2, g3, g4, g5, g6]
def isCode : Jvm.Cond → Bool
  | .code _ _ _ _ => true
  | _ => false
theorem all_split {L : List Jvm.Cond} {P : Jvm.Cond → Bool} (h1 : L.all (fun c => isCode c || P c) = true) (h2 : ∀ c ∈ L.filter isCode, P c = true) : L.all P = true := by
  refine List.all_eq_true.mpr fun c hc => ?_
  have h := List.all_eq_true.mp h1 c hc
  rcases Bool.eq_false_or_eq_true (isCode c) with hi | hi
  · exact h2 c (List.mem_filter.mpr ⟨hc, hi⟩)
  · simpa [hi] using h
set_option maxRecDepth 65536 in
theorem w_c0 : (Jvm.Cond.code x code maxLocals ret).before args0 about1 = true := code_word (m := ⟨1, 2⟩) (meth := k1m2) (c := k1c2) (by decide +kernel) rfl rfl rfl (by decide +kernel)
set_option maxRecDepth 65536 in
theorem w_c1 : (Jvm.Cond.code ({ cls := "com/example/atomicity/atomicity/model/OrderingAscendingPinLaw", name := "drawn", desc := "(IIII)Ljava/lang/String;" } : Jvm.MethodName) method_2_code (8 : Nat) (Option.some (Jvm.ClassFile.FieldType.object "java/lang/String"))).before args0 about1 = true := code_word (m := ⟨1, 1⟩) (meth := k1m1) (c := k1c1) (by decide +kernel) rfl rfl rfl (by decide +kernel)
set_option maxRecDepth 65536 in
theorem w_c2 : (Jvm.Cond.code ({ cls := "java/lang/String", name := "<init>", desc := "([C)V" } : Jvm.MethodName) jdk_42_method_3_code (2 : Nat) (Option.none : Option Jvm.ClassFile.FieldType)).before args0 about1 = true := code_word (m := ⟨7, 1⟩) (meth := k7m1) (c := k7c1) (by decide +kernel) rfl rfl rfl (by decide +kernel)
set_option maxRecDepth 65536 in
theorem w_c3 : (Jvm.Cond.code ({ cls := "java/lang/String", name := "<init>", desc := "([CIILjava/lang/Void;)V" } : Jvm.MethodName) jdk_42_method_149_code (6 : Nat) (Option.none : Option Jvm.ClassFile.FieldType)).before args0 about1 = true := code_word (m := ⟨7, 4⟩) (meth := k7m4) (c := k7c4) (by decide +kernel) rfl rfl rfl (by decide +kernel)
set_option maxRecDepth 65536 in
theorem w_c4 : (Jvm.Cond.code ({ cls := "java/lang/Object", name := "<init>", desc := "()V" } : Jvm.MethodName) object_method_1_code (1 : Nat) (Option.none : Option Jvm.ClassFile.FieldType)).before args0 about1 = true := code_word (m := ⟨0, 0⟩) (meth := k0m0) (c := k0c0) (by decide +kernel) rfl rfl rfl (by decide +kernel)
set_option maxRecDepth 65536 in
theorem w_c5 : (Jvm.Cond.code ({ cls := "java/lang/StringUTF16", name := "compress", desc := "([CII)[B" } : Jvm.MethodName) jdk_52_method_16_code (6 : Nat) (Option.some (Jvm.ClassFile.FieldType.array Jvm.ClassFile.FieldType.byte))).before args0 about1 = true := code_word (m := ⟨8, 2⟩) (meth := k8m2) (c := k8c2) (by decide +kernel) rfl rfl rfl (by decide +kernel)
set_option maxRecDepth 65536 in
theorem w_c6 : (Jvm.Cond.code ({ cls := "java/lang/StringUTF16", name := "compress", desc := "([CI[BII)I" } : Jvm.MethodName) jdk_52_method_21_code (7 : Nat) (Option.some Jvm.ClassFile.FieldType.int)).before args0 about1 = true := code_word (m := ⟨8, 3⟩) (meth := k8m3) (c := k8c3) (by decide +kernel) rfl rfl rfl (by decide +kernel)
set_option maxRecDepth 65536 in
theorem w_c7 : (Jvm.Cond.code ({ cls := "java/lang/StringUTF16", name := "coderFromArrayLen", desc := "([BI)B" } : Jvm.MethodName) jdk_52_method_15_code (2 : Nat) (Option.some Jvm.ClassFile.FieldType.byte)).before args0 about1 = true := code_word (m := ⟨8, 1⟩) (meth := k8m1) (c := k8c1) (by decide +kernel) rfl rfl rfl (by decide +kernel)
set_option maxRecDepth 65536 in
theorem w_c8 : (Jvm.Cond.code ({ cls := "com/example/atomicity/atomicity/model/Ordering", name := "ascending", desc := "(Ljava/lang/String;)Lcom/example/atomicity/atomicity/model/Ordering;" } : Jvm.MethodName) prog_61_method_2_code (1 : Nat) (Option.some (Jvm.ClassFile.FieldType.object "com/example/atomicity/atomicity/model/Ordering"))).before args0 about1 = true := code_word (m := ⟨9, 1⟩) (meth := k9m1) (c := k9c1) (by decide +kernel) rfl rfl rfl (by decide +kernel)
set_option maxRecDepth 65536 in
theorem w_c9 : (Jvm.Cond.code ({ cls := "com/example/atomicity/atomicity/model/Ordering$Key", name := "<init>", desc := "(Ljava/lang/String;Z)V" } : Jvm.MethodName) prog_62_method_1_code (3 : Nat) (Option.none : Option Jvm.ClassFile.FieldType)).before args0 about1 = true := code_word (m := ⟨11, 0⟩) (meth := k11m0) (c := k11c0) (by decide +kernel) rfl rfl rfl (by decide +kernel)
set_option maxRecDepth 65536 in
theorem w_c10 : (Jvm.Cond.code ({ cls := "java/lang/Record", name := "<init>", desc := "()V" } : Jvm.MethodName) jdk_30_method_1_code (1 : Nat) (Option.none : Option Jvm.ClassFile.FieldType)).before args0 about1 = true := code_word (m := ⟨10, 0⟩) (meth := k10m0) (c := k10c0) (by decide +kernel) rfl rfl rfl (by decide +kernel)
set_option maxRecDepth 65536 in
theorem w_c11 : (Jvm.Cond.code ({ cls := "java/util/Objects", name := "requireNonNull", desc := "(Ljava/lang/Object;Ljava/lang/String;)Ljava/lang/Object;" } : Jvm.MethodName) jdk_31_method_11_code (2 : Nat) (Option.some (Jvm.ClassFile.FieldType.object "java/lang/Object"))).before args0 about1 = true := code_word (m := ⟨12, 2⟩) (meth := k12m2) (c := k12c2) (by decide +kernel) rfl rfl rfl (by decide +kernel)
set_option maxRecDepth 65536 in
theorem w_c12 : (Jvm.Cond.code ({ cls := "java/util/List", name := "of", desc := "(Ljava/lang/Object;)Ljava/util/List;" } : Jvm.MethodName) jdk_40_method_37_code (1 : Nat) (Option.some (Jvm.ClassFile.FieldType.object "java/util/List"))).before args0 about1 = true := code_word (m := ⟨16, 2⟩) (meth := k16m2) (c := k16c2) (by decide +kernel) rfl rfl rfl (by decide +kernel)
set_option maxRecDepth 65536 in
theorem w_c13 : (Jvm.Cond.code ({ cls := "java/util/ImmutableCollections$List12", name := "<init>", desc := "(Ljava/lang/Object;)V" } : Jvm.MethodName) jdk_44_method_1_code (2 : Nat) (Option.none : Option Jvm.ClassFile.FieldType)).before args0 about1 = true := code_word (m := ⟨21, 0⟩) (meth := k21m0) (c := k21c0) (by decide +kernel) rfl rfl rfl (by decide +kernel)
set_option maxRecDepth 65536 in
theorem w_c14 : (Jvm.Cond.code ({ cls := "java/util/ImmutableCollections$AbstractImmutableList", name := "<init>", desc := "()V" } : Jvm.MethodName) jdk_46_method_1_code (1 : Nat) (Option.none : Option Jvm.ClassFile.FieldType)).before args0 about1 = true := code_word (m := ⟨20, 0⟩) (meth := k20m0) (c := k20c0) (by decide +kernel) rfl rfl rfl (by decide +kernel)
set_option maxRecDepth 65536 in
theorem w_c15 : (Jvm.Cond.code ({ cls := "java/util/ImmutableCollections$AbstractImmutableCollection", name := "<init>", desc := "()V" } : Jvm.MethodName) jdk_47_method_1_code (1 : Nat) (Option.none : Option Jvm.ClassFile.FieldType)).before args0 about1 = true := code_word (m := ⟨18, 0⟩) (meth := k18m0) (c := k18c0) (by decide +kernel) rfl rfl rfl (by decide +kernel)
set_option maxRecDepth 65536 in
theorem w_c16 : (Jvm.Cond.code ({ cls := "java/util/AbstractCollection", name := "<init>", desc := "()V" } : Jvm.MethodName) jdk_22_method_1_code (1 : Nat) (Option.none : Option Jvm.ClassFile.FieldType)).before args0 about1 = true := code_word (m := ⟨17, 0⟩) (meth := k17m0) (c := k17c0) (by decide +kernel) rfl rfl rfl (by decide +kernel)
set_option maxRecDepth 65536 in
theorem w_c17 : (Jvm.Cond.code ({ cls := "java/util/Objects", name := "requireNonNull", desc := "(Ljava/lang/Object;)Ljava/lang/Object;" } : Jvm.MethodName) jdk_31_method_10_code (1 : Nat) (Option.some (Jvm.ClassFile.FieldType.object "java/lang/Object"))).before args0 about1 = true := code_word (m := ⟨12, 1⟩) (meth := k12m1) (c := k12c1) (by decide +kernel) rfl rfl rfl (by decide +kernel)
set_option maxRecDepth 65536 in
theorem w_c18 : (Jvm.Cond.code ({ cls := "com/example/atomicity/atomicity/model/Ordering", name := "<init>", desc := "(Ljava/util/List;)V" } : Jvm.MethodName) prog_61_method_1_code (2 : Nat) (Option.none : Option Jvm.ClassFile.FieldType)).before args0 about1 = true := code_word (m := ⟨9, 0⟩) (meth := k9m0) (c := k9c0) (by decide +kernel) rfl rfl rfl (by decide +kernel)
set_option maxRecDepth 65536 in
theorem w_c19 : (Jvm.Cond.code ({ cls := "java/util/List", name := "copyOf", desc := "(Ljava/util/Collection;)Ljava/util/List;" } : Jvm.MethodName) jdk_40_method_48_code (1 : Nat) (Option.some (Jvm.ClassFile.FieldType.object "java/util/List"))).before args0 about1 = true := code_word (m := ⟨16, 3⟩) (meth := k16m3) (c := k16c3) (by decide +kernel) rfl rfl rfl (by decide +kernel)
set_option maxRecDepth 65536 in
theorem w_c20 : (Jvm.Cond.code ({ cls := "java/util/ImmutableCollections", name := "listCopy", desc := "(Ljava/util/Collection;)Ljava/util/List;" } : Jvm.MethodName) jdk_56_method_3_code (2 : Nat) (Option.some (Jvm.ClassFile.FieldType.object "java/util/List"))).before args0 about1 = true := code_word (m := ⟨22, 1⟩) (meth := k22m1) (c := k22c1) (by decide +kernel) rfl rfl rfl (by decide +kernel)
set_option maxRecDepth 65536 in
theorem w_c21 : (Jvm.Cond.code ({ cls := "com/example/atomicity/atomicity/model/Ordering", name := "keys", desc := "()Ljava/util/List;" } : Jvm.MethodName) prog_61_method_6_code (1 : Nat) (Option.some (Jvm.ClassFile.FieldType.object "java/util/List"))).before args0 about1 = true := code_word (m := ⟨9, 2⟩) (meth := k9m2) (c := k9c2) (by decide +kernel) rfl rfl rfl (by decide +kernel)
set_option maxRecDepth 65536 in
theorem w_c22 : (Jvm.Cond.code ({ cls := "java/util/ImmutableCollections$List12", name := "size", desc := "()I" } : Jvm.MethodName) jdk_44_method_3_code (1 : Nat) (Option.some Jvm.ClassFile.FieldType.int)).before args0 about1 = true := code_word (m := ⟨21, 1⟩) (meth := k21m1) (c := k21c1) (by decide +kernel) rfl rfl rfl (by decide +kernel)
set_option maxRecDepth 65536 in
theorem w_c23 : (Jvm.Cond.code ({ cls := "java/util/ImmutableCollections$List12", name := "get", desc := "(I)Ljava/lang/Object;" } : Jvm.MethodName) jdk_44_method_5_code (2 : Nat) (Option.some (Jvm.ClassFile.FieldType.object "java/lang/Object"))).before args0 about1 = true := code_word (m := ⟨21, 2⟩) (meth := k21m2) (c := k21c2) (by decide +kernel) rfl rfl rfl (by decide +kernel)
set_option maxRecDepth 65536 in
theorem w_c24 : (Jvm.Cond.code ({ cls := "com/example/atomicity/atomicity/model/Ordering$Key", name := "property", desc := "()Ljava/lang/String;" } : Jvm.MethodName) prog_62_method_5_code (1 : Nat) (Option.some (Jvm.ClassFile.FieldType.object "java/lang/String"))).before args0 about1 = true := code_word (m := ⟨11, 1⟩) (meth := k11m1) (c := k11c1) (by decide +kernel) rfl rfl rfl (by decide +kernel)
set_option maxRecDepth 65536 in
theorem w_c25 : (Jvm.Cond.code ({ cls := "java/lang/String", name := "equals", desc := "(Ljava/lang/Object;)Z" } : Jvm.MethodName) jdk_42_method_66_code (3 : Nat) (Option.some Jvm.ClassFile.FieldType.boolean)).before args0 about1 = true := code_word (m := ⟨7, 3⟩) (meth := k7m3) (c := k7c3) (by decide +kernel) rfl rfl rfl (by decide +kernel)
set_option maxRecDepth 65536 in
theorem w_c26 : (Jvm.Cond.code ({ cls := "java/lang/String", name := "length", desc := "()I" } : Jvm.MethodName) jdk_42_method_54_code (1 : Nat) (Option.some Jvm.ClassFile.FieldType.int)).before args0 about1 = true := code_word (m := ⟨7, 2⟩) (meth := k7m2) (c := k7c2) (by decide +kernel) rfl rfl rfl (by decide +kernel)
set_option maxRecDepth 65536 in
theorem w_c27 : (Jvm.Cond.code ({ cls := "java/lang/String", name := "coder", desc := "()B" } : Jvm.MethodName) jdk_42_method_152_code (1 : Nat) (Option.some Jvm.ClassFile.FieldType.byte)).before args0 about1 = true := code_word (m := ⟨7, 5⟩) (meth := k7m5) (c := k7c5) (by decide +kernel) rfl rfl rfl (by decide +kernel)
set_option maxRecDepth 65536 in
theorem w_c28 : (Jvm.Cond.code ({ cls := "com/example/atomicity/atomicity/model/Ordering$Key", name := "descending", desc := "()Z" } : Jvm.MethodName) prog_62_method_6_code (1 : Nat) (Option.some Jvm.ClassFile.FieldType.boolean)).before args0 about1 = true := code_word (m := ⟨11, 2⟩) (meth := k11m2) (c := k11c2) (by decide +kernel) rfl rfl rfl (by decide +kernel)
def codes1 : List Jvm.Cond := [Jvm.Cond.code x code maxLocals ret, Jvm.Cond.code ({ cls := "com/example/atomicity/atomicity/model/OrderingAscendingPinLaw", name := "drawn", desc := "(IIII)Ljava/lang/String;" } : Jvm.MethodName) method_2_code (8 : Nat) (Option.some (Jvm.ClassFile.FieldType.object "java/lang/String")), Jvm.Cond.code ({ cls := "java/lang/String", name := "<init>", desc := "([C)V" } : Jvm.MethodName) jdk_42_method_3_code (2 : Nat) (Option.none : Option Jvm.ClassFile.FieldType), Jvm.Cond.code ({ cls := "java/lang/String", name := "<init>", desc := "([CIILjava/lang/Void;)V" } : Jvm.MethodName) jdk_42_method_149_code (6 : Nat) (Option.none : Option Jvm.ClassFile.FieldType), Jvm.Cond.code ({ cls := "java/lang/Object", name := "<init>", desc := "()V" } : Jvm.MethodName) object_method_1_code (1 : Nat) (Option.none : Option Jvm.ClassFile.FieldType), Jvm.Cond.code ({ cls := "java/lang/StringUTF16", name := "compress", desc := "([CII)[B" } : Jvm.MethodName) jdk_52_method_16_code (6 : Nat) (Option.some (Jvm.ClassFile.FieldType.array Jvm.ClassFile.FieldType.byte)), Jvm.Cond.code ({ cls := "java/lang/StringUTF16", name := "compress", desc := "([CI[BII)I" } : Jvm.MethodName) jdk_52_method_21_code (7 : Nat) (Option.some Jvm.ClassFile.FieldType.int), Jvm.Cond.code ({ cls := "java/lang/StringUTF16", name := "coderFromArrayLen", desc := "([BI)B" } : Jvm.MethodName) jdk_52_method_15_code (2 : Nat) (Option.some Jvm.ClassFile.FieldType.byte), Jvm.Cond.code ({ cls := "com/example/atomicity/atomicity/model/Ordering", name := "ascending", desc := "(Ljava/lang/String;)Lcom/example/atomicity/atomicity/model/Ordering;" } : Jvm.MethodName) prog_61_method_2_code (1 : Nat) (Option.some (Jvm.ClassFile.FieldType.object "com/example/atomicity/atomicity/model/Ordering")), Jvm.Cond.code ({ cls := "com/example/atomicity/atomicity/model/Ordering$Key", name := "<init>", desc := "(Ljava/lang/String;Z)V" } : Jvm.MethodName) prog_62_method_1_code (3 : Nat) (Option.none : Option Jvm.ClassFile.FieldType), Jvm.Cond.code ({ cls := "java/lang/Record", name := "<init>", desc := "()V" } : Jvm.MethodName) jdk_30_method_1_code (1 : Nat) (Option.none : Option Jvm.ClassFile.FieldType), Jvm.Cond.code ({ cls := "java/util/Objects", name := "requireNonNull", desc := "(Ljava/lang/Object;Ljava/lang/String;)Ljava/lang/Object;" } : Jvm.MethodName) jdk_31_method_11_code (2 : Nat) (Option.some (Jvm.ClassFile.FieldType.object "java/lang/Object")), Jvm.Cond.code ({ cls := "java/util/List", name := "of", desc := "(Ljava/lang/Object;)Ljava/util/List;" } : Jvm.MethodName) jdk_40_method_37_code (1 : Nat) (Option.some (Jvm.ClassFile.FieldType.object "java/util/List")), Jvm.Cond.code ({ cls := "java/util/ImmutableCollections$List12", name := "<init>", desc := "(Ljava/lang/Object;)V" } : Jvm.MethodName) jdk_44_method_1_code (2 : Nat) (Option.none : Option Jvm.ClassFile.FieldType), Jvm.Cond.code ({ cls := "java/util/ImmutableCollections$AbstractImmutableList", name := "<init>", desc := "()V" } : Jvm.MethodName) jdk_46_method_1_code (1 : Nat) (Option.none : Option Jvm.ClassFile.FieldType), Jvm.Cond.code ({ cls := "java/util/ImmutableCollections$AbstractImmutableCollection", name := "<init>", desc := "()V" } : Jvm.MethodName) jdk_47_method_1_code (1 : Nat) (Option.none : Option Jvm.ClassFile.FieldType), Jvm.Cond.code ({ cls := "java/util/AbstractCollection", name := "<init>", desc := "()V" } : Jvm.MethodName) jdk_22_method_1_code (1 : Nat) (Option.none : Option Jvm.ClassFile.FieldType), Jvm.Cond.code ({ cls := "java/util/Objects", name := "requireNonNull", desc := "(Ljava/lang/Object;)Ljava/lang/Object;" } : Jvm.MethodName) jdk_31_method_10_code (1 : Nat) (Option.some (Jvm.ClassFile.FieldType.object "java/lang/Object")), Jvm.Cond.code ({ cls := "com/example/atomicity/atomicity/model/Ordering", name := "<init>", desc := "(Ljava/util/List;)V" } : Jvm.MethodName) prog_61_method_1_code (2 : Nat) (Option.none : Option Jvm.ClassFile.FieldType), Jvm.Cond.code ({ cls := "java/util/List", name := "copyOf", desc := "(Ljava/util/Collection;)Ljava/util/List;" } : Jvm.MethodName) jdk_40_method_48_code (1 : Nat) (Option.some (Jvm.ClassFile.FieldType.object "java/util/List")), Jvm.Cond.code ({ cls := "java/util/ImmutableCollections", name := "listCopy", desc := "(Ljava/util/Collection;)Ljava/util/List;" } : Jvm.MethodName) jdk_56_method_3_code (2 : Nat) (Option.some (Jvm.ClassFile.FieldType.object "java/util/List")), Jvm.Cond.code ({ cls := "com/example/atomicity/atomicity/model/Ordering", name := "keys", desc := "()Ljava/util/List;" } : Jvm.MethodName) prog_61_method_6_code (1 : Nat) (Option.some (Jvm.ClassFile.FieldType.object "java/util/List")), Jvm.Cond.code ({ cls := "java/util/ImmutableCollections$List12", name := "size", desc := "()I" } : Jvm.MethodName) jdk_44_method_3_code (1 : Nat) (Option.some Jvm.ClassFile.FieldType.int), Jvm.Cond.code ({ cls := "java/util/ImmutableCollections$List12", name := "get", desc := "(I)Ljava/lang/Object;" } : Jvm.MethodName) jdk_44_method_5_code (2 : Nat) (Option.some (Jvm.ClassFile.FieldType.object "java/lang/Object")), Jvm.Cond.code ({ cls := "com/example/atomicity/atomicity/model/Ordering$Key", name := "property", desc := "()Ljava/lang/String;" } : Jvm.MethodName) prog_62_method_5_code (1 : Nat) (Option.some (Jvm.ClassFile.FieldType.object "java/lang/String")), Jvm.Cond.code ({ cls := "java/lang/String", name := "equals", desc := "(Ljava/lang/Object;)Z" } : Jvm.MethodName) jdk_42_method_66_code (3 : Nat) (Option.some Jvm.ClassFile.FieldType.boolean), Jvm.Cond.code ({ cls := "java/lang/String", name := "length", desc := "()I" } : Jvm.MethodName) jdk_42_method_54_code (1 : Nat) (Option.some Jvm.ClassFile.FieldType.int), Jvm.Cond.code ({ cls := "java/lang/String", name := "coder", desc := "()B" } : Jvm.MethodName) jdk_42_method_152_code (1 : Nat) (Option.some Jvm.ClassFile.FieldType.byte), Jvm.Cond.code ({ cls := "com/example/atomicity/atomicity/model/Ordering$Key", name := "descending", desc := "()Z" } : Jvm.MethodName) prog_62_method_6_code (1 : Nat) (Option.some Jvm.ClassFile.FieldType.boolean)]
set_option maxRecDepth 65536 in
theorem codes_eq : words1.filter isCode = codes1 := rfl
theorem w_codes : ∀ c ∈ words1.filter isCode, c.before args0 about1 = true := by
  rw [codes_eq]
  intro c hc
  simp only [codes1, List.mem_cons, List.not_mem_nil, or_false] at hc
  rcases hc with rfl | rfl | rfl | rfl | rfl | rfl | rfl | rfl | rfl | rfl | rfl | rfl | rfl | rfl | rfl | rfl | rfl | rfl | rfl | rfl | rfl | rfl | rfl | rfl | rfl | rfl | rfl | rfl | rfl
  · exact w_c0
  · exact w_c1
  · exact w_c2
  · exact w_c3
  · exact w_c4
  · exact w_c5
  · exact w_c6
  · exact w_c7
  · exact w_c8
  · exact w_c9
  · exact w_c10
  · exact w_c11
  · exact w_c12
  · exact w_c13
  · exact w_c14
  · exact w_c15
  · exact w_c16
  · exact w_c17
  · exact w_c18
  · exact w_c19
  · exact w_c20
  · exact w_c21
  · exact w_c22
  · exact w_c23
  · exact w_c24
  · exact w_c25
  · exact w_c26
  · exact w_c27
  · exact w_c28
set_option maxRecDepth 65536 in
theorem w_t1 : (words1.take 24).all (fun c => isCode c || c.before args0 about1) = true := by decide +kernel
set_option maxRecDepth 65536 in
theorem w_t2 : ((words1.drop 24).take 24).all (fun c => isCode c || c.before args0 about1) = true := by decide +kernel
set_option maxRecDepth 65536 in
theorem w_t3 : (((words1.drop 24).drop 24).take 24).all (fun c => isCode c || c.before args0 about1) = true := by decide +kernel
set_option maxRecDepth 65536 in
theorem w_t4 : ((((words1.drop 24).drop 24).drop 24).take 24).all (fun c => isCode c || c.before args0 about1) = true := by decide +kernel
set_option maxRecDepth 65536 in
theorem w_t5 : (((((words1.drop 24).drop 24).drop 24).drop 24).take 24).all (fun c => isCode c || c.before args0 about1) = true := by decide +kernel
set_option maxRecDepth 65536 in
theorem w_t6 : ((((((words1.drop 24).drop 24).drop 24).drop 24).drop 24).take 24).all (fun c => isCode c || c.before args0 about1) = true := by decide +kernel
set_option maxRecDepth 65536 in
theorem w_t7 : ((((((words1.drop 24).drop 24).drop 24).drop 24).drop 24).drop 24).all (fun c => isCode c || c.before args0 about1) = true := by decide +kernel
theorem w_tables : (allAtoms (Jvm.Cond.code x code maxLocals ret :: tables_1)).before args0 about1 = true := by
  rw [allAtoms_all]
  show words1.all (fun c => c.before args0 about1) = true
  refine all_split ?_ w_codes
  rw [← List.take_append_drop 24 words1, List.all_append, w_t1, ← List.take_append_drop 24 (words1.drop 24), List.all_append, w_t2, ← List.take_append_drop 24 ((words1.drop 24).drop 24), List.all_append, w_t3, ← List.take_append_drop 24 (((words1.drop 24).drop 24).drop 24), List.all_append, w_t4, ← List.take_append_drop 24 ((((words1.drop 24).drop 24).drop 24).drop 24), List.all_append, w_t5, ← List.take_append_drop 24 (((((words1.drop 24).drop 24).drop 24).drop 24).drop 24), List.all_append, w_t6, w_t7]
  rfl
set_option maxRecDepth 65536 in
theorem w_rest : rest_1_c.before args0 about1 = true := by decide +kernel
set_option maxRecDepth 65536 in
theorem w_case : (Jvm.Cond.and given_1 narrow_1).before args0 about1 = true := by decide +kernel
set_option maxRecDepth 65536 in
theorem w_consts : constsHeld consts_1 about1 := Jvm.Lit.constsHeldB_iff.mp (by decide +kernel)
theorem w_applies : (headSpec (Jvm.Cond.code x code maxLocals ret :: tables_1) room_1).applies x e0.platform about1 = true :=
  (Spec.applies_iff w_frames).mpr ⟨w_running, w_runnable, w_alone, w_named, w_hears, w_ripe, w_room, w_tables⟩
theorem atStart : AtStart classFile x code maxLocals ret World_1 tables_1 room_1 Calls_1 rest_1 Pre_1 launch0 p0 e0 about1 theMethod args0 below0 :=
  ⟨lists_1, trivial, launch0.admits_env _ _ _, launch0.least_env, fairChoices_fair.cas, fairChoices_fair.clock, w_frames, w_args, w_heap, w_applies, ⟨w_consts, trivial⟩, w_rest, w_case⟩
end start1
theorem witness_1 : WitnessClaimed_1 := ⟨start1.p0, start1.e0, start1.about1, start1.theMethod, start1.args0, start1.below0, start1.atStart⟩
end Jvm.Pilot.@@N@@
