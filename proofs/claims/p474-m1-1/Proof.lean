import JvmDerived
import JvmDerived.Pilot.@@N@@Statement
import JvmDerived.Pilot.@@N@@Code
set_option linter.unusedVariables false
set_option linter.unusedSimpArgs false
namespace Jvm.OwnGo
open Jvm Jvm.ClassFile Sem Op Lib Jvm.Free Jvm.Stand Jvm.LawKit Jvm.RoadKit Bundle
/-! THE GO KIT: a walk of a body told backwards: 'Go k h os cells slots pc Ls st': from pc with these locals and this stack, over the heap h, the body comes to its end as its contract says. -/
abbrev QT : Type := Option Value → Heap → List Addr → Prop
abbrev KT : Type := Program × Launch × Env × Room × State × MethodId × Array Value × List Frame × Method × Code × State × List (String × Nat) × Bool × List Addr × QT
def Own (Z : State) (h0 : Heap) (EL : List (String × Nat)) (wr : List Addr) (vm : Vm) (h : Heap) (x : Addr) : Prop :=
  Safe Z EL vm h x ∧ Z.heap.size ≤ x ∧ x < h.size ∧ (x ∈ wr ∨ h0.size ≤ x)
def Done (Z : State) (EL : List (String × Nat)) (wd : Bool) (R : Room) (wr : List Addr) (Q : QT) (s : State) (o : Outcome) (s' : State) : Prop :=
  ∃ v L os, o = .returned v ∧ Q v s'.heap os ∧ (∀ x ∈ os, Safe Z EL s'.vm s'.heap x ∧ s.heap.size ≤ x ∧ x < s'.heap.size) ∧ Keep s.heap s'.heap wr ∧ Fr Z.heap.size L ∧
    CHr Z EL s.vm s.heap s'.vm s'.heap ∧ ReturnedEndW s o s' L R.cells R.slots ∧ (wd = false → FrameEnd s o s' L R.cells R.slots)
def Fen (p : Program) (e : Env) (below : List Frame) (P : Outcome → State → Prop) (A : State) : Prop :=
  ∃ s' o, Steps p.tables e below A s' ∧ s'.status = .running ∧ Ended s' below o ∧ P o s'
theorem Fen.of {p : Program} {e : Env} {below : List Frame} {P : Outcome → State → Prop} {A B : State} (st : ∀ t, Steps p.tables e below B t → Steps p.tables e below A t) (F : Fen p e below P B) : Fen p e below P A := by
  obtain ⟨s', o, h1, h2⟩ := F
  exact ⟨s', o, st _ h1, h2⟩
def Go : KT → Heap → List Addr → Nat → Nat → Nat → Array Slot → List Value → Prop :=
  fun ⟨p, l, e, R, s, m, args, below, meth, c, Z, EL, wd, wr, Q⟩ h os cells slots pc Ls st =>
    ∀ (T : State) (locs : List Loc) (vm : Vm), Stand p l e R (s.setVm vm) m args below meth c T locs cells slots → T.heap = h → Fr Z.heap.size locs → s.Since vm h.size → (wd = false → s.WarmedH vm) →
      CHr Z EL s.vm s.heap vm h → Keep s.heap h wr → (∀ x ∈ os, Own Z s.heap EL wr vm h x) → Fen p e below (Done Z EL wd R wr Q s) (T.setTop (mkF m pc Ls st))
def Ctx (k : KT) (l : Launch) (y : MethodName) (bytes : ByteArray) (maxL : Nat) (ret : Option FieldType) (R : Room) (Z : State) (a0 : Array Value) (EL : List (String × Nat)) (wd : Bool) (wr : List Addr) (h0 : Heap) (Q : QT) : Prop :=
  match k with
  | ⟨p, l', e, R', s, m, args, below, meth, c, Z', EL', wd', wr', Q'⟩ => (l' = l ∧ R' = R ∧ Z' = Z ∧ EL' = EL ∧ wd' = wd ∧ wr' = wr ∧ Q' = Q ∧ s.heap = h0) ∧ p.tables.exec = Jvm.exec ∧ c.code = bytes ∧ c.maxLocals = maxL ∧ meth.sig.returnType = ret ∧
      meth.locks = false ∧ meth.name = y.name ∧ Z'.Warmed39 s.vm ∧ s.vm.findClass y.cls = some m.cls ∧ EW Z' a0 EL' ∧ Ext Z'.heap s.heap ∧ (∀ x ∈ wr, Z'.heap.size ≤ x)
/-- a body's contract -/
def Con (l : Launch) (Z : State) (EL : List (String × Nat)) (wd : Bool) (y : MethodName) (bytes : ByteArray) (maxL : Nat) (ret : Option FieldType) (rm : Room) (ws : List Jvm.Cond) (as' : Array Value) (h : Heap) (wr : List Addr) (Q : QT) : Prop :=
  MetFree l y (head1 (Cond.code y bytes maxL ret :: ws) rm) (fun a U => a = as' ∧ Z.Warmed39 U.vm ∧ U.heap = h ∧ CHv Z EL U.vm h ∧ Ext Z.heap h ∧ ∀ x ∈ wr, Safe Z EL U.vm h x ∧ Z.heap.size ≤ x ∧ x < h.size) (fun _ _ _ _ _ => True)
    (fun _ U o U' => Done Z EL wd rm wr Q U o U')
section Base
variable {p : Program} {l : Launch} {e : Env} {R : Room} {s : State} {m : MethodId} {args : Array Value} {below : List Frame} {meth : Method} {c : Code} {T T' : State} {locs locs' : List Loc} {cells slots cells' slots' : Nat}
variable {Z : State} {a0 : Array Value} {EL : List (String × Nat)} {wd : Bool} {wr ws os : List Addr} {h h' h0 : Heap} {vm vm' : Vm} {Q : QT}
theorem Since.up {n n' : Nat} (S : s.Since vm n) (q : n ≤ n') : s.Since vm n' := ⟨S.1, fun j p hj hp => ⟨(S.2 j p hj hp).1, Nat.lt_of_lt_of_le (S.2 j p hj hp).2 q⟩⟩
theorem Own.chr {x : Addr} (O : Own Z h0 EL wr vm h x) (A : CHr Z EL vm h vm' h') : Own Z h0 EL wr vm' h' x := ⟨A.safe O.2.2.1 O.1, O.2.1, Nat.lt_of_lt_of_le O.2.2.1 A.2.1, O.2.2.2⟩
theorem keepOs (K : Keep h0 h wr) (K' : Keep h h' ws) (ow : ∀ x ∈ os, Own Z h0 EL wr vm h x) (q : ∀ x ∈ ws, x ∈ os) : Keep h0 h' wr := K.trans K' fun x hx => (ow x (q x hx)).2.2.2
theorem Keep.ofExt (E : Ext h h') : Keep h h' ws := (Keep.refl h ws).ext E
theorem safeOs (ow : ∀ x ∈ os, Own Z h0 EL wr vm h x) (q : ∀ x ∈ ws, x ∈ os) : ∀ x ∈ ws, Safe Z EL vm h x := fun x hx => (ow x (q x hx)).1
end Base
/-! decode facts -/
def De (b : ByteArray) (pc : Nat) (i : Instr) (n pc' : Nat) : Prop := decode b pc = .ok (i, n) ∧ pc' = pc + n
def DeJ (b : ByteArray) (pc : Nat) (i : Int → Instr) (pc' pcT : Nat) : Prop := ∃ o : Int, decode b pc = .ok (i o, 3) ∧ pc' = pc + 3 ∧ 0 ≤ (pc : Int) + o ∧ ((pc : Int) + o).toNat = pcT
/-! facts of the heap: an object by its fields, an array by its values -/
abbrev FL : Type := List (String × String × String)
def Obj (Z : State) (h : Heap) (a : Addr) (C : String) (F : FL) (vs : List Value) : Prop := Exa Z h a C ∧ F.length = vs.length ∧ ∀ (i : Nat) (q : String × String × String) (v : Value), F[i]? = some q → vs[i]? = some v → Fld Z h a q.1 q.2.1 q.2.2 v
def Av (Z : State) (h : Heap) (a : Addr) (ty : FieldType) (vs : List Value) : Prop := ∃ (k : ClassId) (z : Int32), Arv Z h a k ty z vs (defaultValue ty) ∧ z.toNatClampNeg = vs.length ∧ (ty.isReference = false → Z.vm.findClass ("[" ++ ty.toString) = some k)
def LaidL (Z : State) (a0 : Array Value) (C : String) : FL → Prop
  | [] => True
  | q :: r => (Laid Z a0 C q.1 q.2.1 q.2.2 ∧ ∃ t, parseFieldDescriptor q.2.2 = some t) ∧ LaidL Z a0 C r
section Facts
variable {Z : State} {a0 : Array Value} {h h' : Heap} {a b : Addr} {C : String} {F : FL} {vs : List Value} {ws : List Addr} {ty : FieldType}
theorem LaidL.at {q : String × String × String} : ∀ {F : FL}, LaidL Z a0 C F → q ∈ F → Laid Z a0 C q.1 q.2.1 q.2.2 ∧ ∃ t, parseFieldDescriptor q.2.2 = some t
  | [], _, hq => nomatch hq
  | x :: r, L, hq => by
    rcases List.mem_cons.mp hq with rfl | hq
    · exact L.1
    · exact LaidL.at L.2 hq
theorem Obj.lt (O : Obj Z h a C F vs) : a < h.size := O.1.lt
theorem Obj.keep (O : Obj Z h a C F vs) (K : Keep h h' ws) (q : a ∉ ws) : Obj Z h' a C F vs := ⟨O.1.keep K, O.2.1, fun i p v h1 h2 => (O.2.2 i p v h1 h2).keep K q⟩
theorem Obj.k0 (O : Obj Z h a C F vs) (K : Keep h h' []) : Obj Z h' a C F vs := O.keep K nin0
theorem Obj.k1 (O : Obj Z h a C F vs) (K : Keep h h' [b]) (q : a ≠ b) : Obj Z h' a C F vs := O.keep K (ninS q nin0)
theorem Av.lt (O : Av Z h a ty vs) : a < h.size := by obtain ⟨k, z, A, -⟩ := O; exact A.lt
theorem Av.keep (O : Av Z h a ty vs) (K : Keep h h' ws) (q : a ∉ ws) : Av Z h' a ty vs := by obtain ⟨k, z, A, e⟩ := O; exact ⟨k, z, A.keep K q, e⟩
theorem Av.k0 (O : Av Z h a ty vs) (K : Keep h h' []) : Av Z h' a ty vs := O.keep K nin0
theorem Av.k1 (O : Av Z h a ty vs) (K : Keep h h' [b]) (q : a ≠ b) : Av Z h' a ty vs := O.keep K (ninS q nin0)
theorem Obj.new {A : Exa Z h a C} (D : ∀ {O nm d : String} {ty : FieldType}, Laid Z a0 C O nm d → parseFieldDescriptor d = some ty → Fld Z h a O nm d (defaultValue ty)) (L : LaidL Z a0 C F) (dv : F.map (fun q => (parseFieldDescriptor q.2.2).map defaultValue) = vs.map some) : Obj Z h a C F vs := by
  refine ⟨A, by simpa using congrArg List.length dv, fun i q v h1 h2 => ?_⟩
  obtain ⟨l1, t, l2⟩ := L.at (List.mem_of_getElem? h1)
  have e := congrArg (fun l => l[i]?) dv
  simp only [List.getElem?_map, h1, h2, Option.map_some, l2, Option.some.injEq] at e
  rw [← e]; exact D l1 l2
theorem nodup_ne {α : Type} : ∀ {l : List α} {i j : Nat} {x y : α}, l.Nodup → l[i]? = some x → l[j]? = some y → i ≠ j → x ≠ y := fun {l i j x y} hn h1 h2 hij e => by
  subst e
  obtain ⟨hi, e1⟩ := List.getElem?_eq_some_iff.mp h1
  obtain ⟨hj, e2⟩ := List.getElem?_eq_some_iff.mp h2
  exact hij ((List.getElem_inj hn).mp (e1.trans e2.symm))
theorem Obj.put {q : String × String × String} {v : Value} {i : Nat} (O : Obj Z h a C F vs) (W : Wr h h' a (RoadKit.slotOf Z q.1 q.2.1 q.2.2) v) (hq : F[i]? = some q) (L : LaidL Z a0 C F) (nd : (F.map (fun q => q.2.1)).Nodup) : Obj Z h' a C F (vs.set i v) := by
  refine ⟨O.1.wr W, by simpa using O.2.1, fun j p w h1 h2 => ?_⟩
  obtain ⟨l1, t, l2⟩ := L.at (List.mem_of_getElem? hq)
  obtain ⟨m1, u, m2⟩ := L.at (List.mem_of_getElem? h1)
  have hj : j < vs.length := by rw [← O.2.1]; exact (List.getElem?_eq_some_iff.mp h1).1
  by_cases e : i = j
  · subst e
    rw [hq] at h1; cases h1
    simp [hj] at h2; subst h2
    exact (O.2.2 i q _ hq (List.getElem?_eq_getElem hj)).same W
  · rw [List.getElem?_set_ne e] at h2
    refine (O.2.2 j p w h1 h2).other W (Or.inr ?_)
    have hn : p.2.1 ≠ q.2.1 := nodup_ne nd (i := j) (j := i) (by simp [h1]) (by simp [hq]) (fun z => e z.symm)
    exact slot_ne m1 l1 hn m2 l2
theorem Av.len (V : Av Z h a ty vs) : vs.length < 2147483648 := by
  obtain ⟨k, z, ⟨c, A, r1, r2, r3, H, G⟩, e, -⟩ := V
  rw [← e]; exact (back32 r3).2
theorem Av.lenI {bs : List Int32} (V : Av Z h a ty (List.map Value.int bs)) : bs.length < 2147483648 := by have := V.len; rwa [List.length_map] at this
theorem Av.new {k : ClassId} {z : Int32} (A : Arr Z h a (newA k ty z) ty) (q : ¬ z < 0) {n : Nat} (hn : z.toNatClampNeg = n) (hfc : ty.isReference = false → Z.vm.findClass ("[" ++ ty.toString) = some k) : Av Z h a ty (List.replicate n (defaultValue ty)) :=
  ⟨k, z, by have := (Arv.new A q).pad (pad_rep [] (defaultValue ty) n); simpa using this, by simpa using hn, hfc⟩
end Facts
/-- a Latin-1 String: its object a, its bytes at t -/
def fStr : FL := [("java/lang/String", "value", "[B"), ("java/lang/String", "coder", "B")]
def Str (Z : State) (h : Heap) (a t : Addr) (bs : List Int32) : Prop := Obj Z h a "java/lang/String" fStr [.ref t, .int 0] ∧ Av Z h t .byte (bs.map .int)
section StrFacts
variable {Z : State} {h h' : Heap} {a t : Addr} {bs : List Int32} {ws : List Addr}
theorem Str.exa (S : Str Z h a t bs) : Exa Z h a "java/lang/String" := S.1.1
theorem Str.lt (S : Str Z h a t bs) : a < h.size := S.1.lt
theorem Str.lt1 (S : Str Z h a t bs) : t < h.size := S.2.lt
theorem Str.keep (S : Str Z h a t bs) (K : Keep h h' ws) (q1 : a ∉ ws) (q2 : t ∉ ws) : Str Z h' a t bs := ⟨S.1.keep K q1, S.2.keep K q2⟩
theorem Str.k0 (S : Str Z h a t bs) (K : Keep h h' []) : Str Z h' a t bs := S.keep K nin0 nin0
theorem Fld.det {Z : State} {h : Heap} {a : Addr} {C n d : String} {v w : Value} (F : Fld Z h a C n d v) (G : Fld Z h a C n d w) : v = w := Decidable.byContradiction fun q => Fld.ne F G q rfl
theorem Av.det {Z : State} {h : Heap} {a : Addr} {ty : FieldType} {vs vs' : List Value} (V : Av Z h a ty vs) (V' : Av Z h a ty vs') : vs = vs' := by
  obtain ⟨k, z, ⟨c, A, r1, r2, r3, H, G⟩, e, -⟩ := V
  obtain ⟨k', z', ⟨c', A', r1', r2', r3', H', G'⟩, e', -⟩ := V'
  cases A.1.symm.trans A'.1
  have hl : vs.length = vs'.length := by rw [← e, ← e', ← r2, ← r2']
  refine List.ext_getElem hl fun i h1 h2 => ?_
  have a1 := H i (by rw [r2, e]; exact h1)
  have a2 := H' i (by rw [r2', e']; exact h2)
  rw [a1] at a2
  simpa [List.getD_eq_getElem?_getD, h1, h2] using a2
theorem map_int_inj {xs ys : List Int32} (q : xs.map Value.int = ys.map Value.int) : xs = ys := (List.map_inj_right (fun _ _ z => Value.int.inj z)).mp q
theorem Str.det {bs' : List Int32} {t' : Addr} (S : Str Z h a t bs) (S' : Str Z h a t' bs') : t = t' ∧ bs = bs' := by
  have e : (Value.ref t) = .ref t' := Fld.det (S.1.2.2 0 _ _ rfl rfl) (S'.1.2.2 0 _ _ rfl rfl)
  cases e
  exact ⟨rfl, map_int_inj (Av.det S.2 S'.2)⟩
end StrFacts
/-- an array of references, whose class's components are C's -/
def Avr (Z : State) (h : Heap) (a : Addr) (C : String) (vs : List Value) : Prop := ∃ (k : ClassId) (z : Int32), Arv Z h a k (.object C) z vs .null ∧ z.toNatClampNeg = vs.length ∧ Ovr Z k C
theorem Avr.av {Z : State} {h : Heap} {a : Addr} {C : String} {vs : List Value} (V : Avr Z h a C vs) : Av Z h a (.object C) vs := by obtain ⟨k, z, A, e, -⟩ := V; exact ⟨k, z, A, e, fun q => by cases q⟩
theorem Avr.lt {Z : State} {h : Heap} {a : Addr} {C : String} {vs : List Value} (V : Avr Z h a C vs) : a < h.size := V.av.lt
theorem Avr.keep {Z : State} {h h' : Heap} {a : Addr} {C : String} {vs : List Value} {ws : List Addr} (V : Avr Z h a C vs) (K : Keep h h' ws) (q : a ∉ ws) : Avr Z h' a C vs := by obtain ⟨k, z, A, e, O⟩ := V; exact ⟨k, z, A.keep K q, e, O⟩
theorem Avr.k0 {Z : State} {h h' : Heap} {a : Addr} {C : String} {vs : List Value} (V : Avr Z h a C vs) (K : Keep h h' []) : Avr Z h' a C vs := V.keep K nin0
/-- a local that holds nothing or one word -/
def Sl (s : Slot) : Prop := s = .unset ∨ ∃ v, s = .val v ∧ v.category = 1
theorem Sl.u : Sl .unset := Or.inl rfl
theorem Sl.val {v : Value} (q : v.category = 1) : Sl (.val v) := Or.inr ⟨v, rfl, q⟩
theorem sto1 {Ls Ls' : Array Slot} {n : Nat} {v : Value} {s : Slot} (hold : Ls[n]? = some s) (hs : Sl s) (hv : v.category = 1) (e : Ls.setIfInBounds n (.val v) = Ls') : storeLocals Ls n v = some Ls' := e ▸ XS.store1 hold hs hv
section Small
theorem nI_int {n : Nat} (q : n < 2147483648) : (Int32.ofNat n).toInt = n := Int32.toInt_ofNat_of_lt q
theorem nI_nat {n : Nat} (q : n < 2147483648) : (Int32.ofNat n).toNatClampNeg = n := by rw [Int32.toNatClampNeg, nI_int q]; rfl
theorem nI_nn {n : Nat} (q : n < 2147483648) : ¬ Int32.ofNat n < 0 := by rw [Int32.lt_iff_toInt_lt, nI_int q]; show ¬ (n : Int) < 0; omega
theorem nI_lt {i n : Nat} (q1 : i < 2147483648) (q2 : n < 2147483648) : Int32.ofNat i < Int32.ofNat n ↔ i < n := by rw [Int32.lt_iff_toInt_lt, nI_int q1, nI_int q2]; omega
theorem nI_eq {i n : Nat} (q1 : i < 2147483648) (q2 : n < 2147483648) : Int32.ofNat i = Int32.ofNat n ↔ i = n := by rw [← Int32.toInt_inj, nI_int q1, nI_int q2]; omega
theorem nI_succ (i : Nat) : Int32.ofNat i + Int32.ofInt 1 = Int32.ofNat (i + 1) := by rw [Int32.ofNat_add]; rfl
end Small
section Steps
variable {l : Launch} {y : MethodName} {bytes : ByteArray} {maxL : Nat} {ret : Option FieldType} {R : Room} {Z : State} {a0 : Array Value} {EL : List (String × Nat)} {wd : Bool} {wr : List Addr} {h0 : Heap} {Q : QT} {h : Heap} {os : List Addr} {cells slots : Nat} {Ls : Array Slot} {st : List Value}
theorem Go.pure {k : KT} (C : Ctx k l y bytes maxL ret R Z a0 EL wd wr h0 Q) {pc pc' : Nat} {Ls' : Array Slot} {st' : List Value}
    (hs : ∀ {p : Program} {e : Env} {below : List Frame} {T target : State} {m : MethodId} {c : Code}, p.tables.exec = Jvm.exec → c.code = bytes → At T m c below → Steps p.tables e below (T.setTop (mkF m pc' Ls' st')) target → Steps p.tables e below (T.setTop (mkF m pc Ls st)) target)
    (K : Go k h os cells slots pc' Ls' st') : Go k h os cells slots pc Ls st := by
  obtain ⟨p, l', e, R', s, m, args, below, meth, c, Z', EL', wd', wr', Q'⟩ := k
  obtain ⟨-, hx, hc, -⟩ := C
  intro T locs vm X e0 N S w A Kp ow
  exact Fen.of (fun t kt => hs hx hc X.here kt) (K T locs vm X e0 N S w A Kp ow)
theorem Go.iload {k : KT} (C : Ctx k l y bytes maxL ret R Z a0 EL wd wr h0 Q) {pc pc' : Nat} {n : Nat} {x : Int32} (hd : De bytes pc (.iload n) 2 pc') (hl : Ls[n]? = some (.val (.int x))) (K : Go k h os cells slots pc' Ls (.int x :: st)) : Go k h os cells slots pc Ls (st) :=
  Go.pure C (fun hx hc X kt => by obtain ⟨h1, rfl⟩ := hd; exact XS.iload X hx rfl (hb hc h1) hl kt) K
theorem Go.iloadN {k : KT} (C : Ctx k l y bytes maxL ret R Z a0 EL wd wr h0 Q) {pc pc' : Nat} {n : Fin 4} {x : Int32} (hd : De bytes pc (.iload_n n) 1 pc') (hl : Ls[n.val]? = some (.val (.int x))) (K : Go k h os cells slots pc' Ls (.int x :: st)) : Go k h os cells slots pc Ls (st) :=
  Go.pure C (fun hx hc X kt => by obtain ⟨h1, rfl⟩ := hd; exact XS.iloadN X hx rfl (hb hc h1) hl kt) K
theorem Go.lload {k : KT} (C : Ctx k l y bytes maxL ret R Z a0 EL wd wr h0 Q) {pc pc' : Nat} {n : Nat} {x : Int64} (hd : De bytes pc (.lload n) 2 pc') (hl : Ls[n]? = some (.val (.long x))) (K : Go k h os cells slots pc' Ls (.long x :: st)) : Go k h os cells slots pc Ls (st) :=
  Go.pure C (fun hx hc X kt => by obtain ⟨h1, rfl⟩ := hd; exact XS.lload X hx rfl (hb hc h1) hl kt) K
theorem Go.lloadN {k : KT} (C : Ctx k l y bytes maxL ret R Z a0 EL wd wr h0 Q) {pc pc' : Nat} {n : Fin 4} {x : Int64} (hd : De bytes pc (.lload_n n) 1 pc') (hl : Ls[n.val]? = some (.val (.long x))) (K : Go k h os cells slots pc' Ls (.long x :: st)) : Go k h os cells slots pc Ls (st) :=
  Go.pure C (fun hx hc X kt => by obtain ⟨h1, rfl⟩ := hd; exact XS.lloadN X hx rfl (hb hc h1) hl kt) K
theorem Go.aload {k : KT} (C : Ctx k l y bytes maxL ret R Z a0 EL wd wr h0 Q) {pc pc' : Nat} {n : Nat} {v : Value} (hd : De bytes pc (.aload n) 2 pc') (hl : Ls[n]? = some (.val v)) (hv : v.isRef = true) (K : Go k h os cells slots pc' Ls (v :: st)) : Go k h os cells slots pc Ls (st) :=
  Go.pure C (fun hx hc X kt => by obtain ⟨h1, rfl⟩ := hd; exact XS.aload X hx rfl (hb hc h1) hl hv kt) K
theorem Go.aloadN {k : KT} (C : Ctx k l y bytes maxL ret R Z a0 EL wd wr h0 Q) {pc pc' : Nat} {n : Fin 4} {v : Value} (hd : De bytes pc (.aload_n n) 1 pc') (hl : Ls[n.val]? = some (.val v)) (hv : v.isRef = true) (K : Go k h os cells slots pc' Ls (v :: st)) : Go k h os cells slots pc Ls (st) :=
  Go.pure C (fun hx hc X kt => by obtain ⟨h1, rfl⟩ := hd; exact XS.aloadN X hx rfl (hb hc h1) hl hv kt) K
theorem Go.istore {k : KT} (C : Ctx k l y bytes maxL ret R Z a0 EL wd wr h0 Q) {pc pc' : Nat} {n : Nat} {x : Int32} {Ls' : Array Slot} (hd : De bytes pc (.istore n) 2 pc') (hl : storeLocals Ls n (.int x) = some Ls') (K : Go k h os cells slots pc' Ls' (st)) : Go k h os cells slots pc Ls (.int x :: st) :=
  Go.pure C (fun hx hc X kt => by obtain ⟨h1, rfl⟩ := hd; exact XS.istore X hx rfl (hb hc h1) rfl hl kt) K
theorem Go.istoreN {k : KT} (C : Ctx k l y bytes maxL ret R Z a0 EL wd wr h0 Q) {pc pc' : Nat} {n : Fin 4} {x : Int32} {Ls' : Array Slot} (hd : De bytes pc (.istore_n n) 1 pc') (hl : storeLocals Ls n.val (.int x) = some Ls') (K : Go k h os cells slots pc' Ls' (st)) : Go k h os cells slots pc Ls (.int x :: st) :=
  Go.pure C (fun hx hc X kt => by obtain ⟨h1, rfl⟩ := hd; exact XS.istoreN X hx rfl (hb hc h1) rfl hl kt) K
theorem Go.lstore {k : KT} (C : Ctx k l y bytes maxL ret R Z a0 EL wd wr h0 Q) {pc pc' : Nat} {n : Nat} {x : Int64} {Ls' : Array Slot} (hd : De bytes pc (.lstore n) 2 pc') (hl : storeLocals Ls n (.long x) = some Ls') (K : Go k h os cells slots pc' Ls' (st)) : Go k h os cells slots pc Ls (.long x :: st) :=
  Go.pure C (fun hx hc X kt => by obtain ⟨h1, rfl⟩ := hd; exact XS.lstore X hx rfl (hb hc h1) rfl hl kt) K
theorem Go.lstoreN {k : KT} (C : Ctx k l y bytes maxL ret R Z a0 EL wd wr h0 Q) {pc pc' : Nat} {n : Fin 4} {x : Int64} {Ls' : Array Slot} (hd : De bytes pc (.lstore_n n) 1 pc') (hl : storeLocals Ls n.val (.long x) = some Ls') (K : Go k h os cells slots pc' Ls' (st)) : Go k h os cells slots pc Ls (.long x :: st) :=
  Go.pure C (fun hx hc X kt => by obtain ⟨h1, rfl⟩ := hd; exact XS.lstoreN X hx rfl (hb hc h1) rfl hl kt) K
theorem Go.astore {k : KT} (C : Ctx k l y bytes maxL ret R Z a0 EL wd wr h0 Q) {pc pc' : Nat} {n : Nat} {v : Value} {Ls' : Array Slot} (hd : De bytes pc (.astore n) 2 pc') (hv : v.isRef = true) (hl : storeLocals Ls n v = some Ls') (K : Go k h os cells slots pc' Ls' (st)) : Go k h os cells slots pc Ls (v :: st) :=
  Go.pure C (fun hx hc X kt => by obtain ⟨h1, rfl⟩ := hd; exact XS.astore X hx rfl (hb hc h1) rfl hv hl kt) K
theorem Go.astoreN {k : KT} (C : Ctx k l y bytes maxL ret R Z a0 EL wd wr h0 Q) {pc pc' : Nat} {n : Fin 4} {v : Value} {Ls' : Array Slot} (hd : De bytes pc (.astore_n n) 1 pc') (hv : v.isRef = true) (hl : storeLocals Ls n.val v = some Ls') (K : Go k h os cells slots pc' Ls' (st)) : Go k h os cells slots pc Ls (v :: st) :=
  Go.pure C (fun hx hc X kt => by obtain ⟨h1, rfl⟩ := hd; exact XS.astoreN X hx rfl (hb hc h1) rfl hv hl kt) K
theorem Go.iinc {k : KT} (C : Ctx k l y bytes maxL ret R Z a0 EL wd wr h0 Q) {pc pc' : Nat} {n : Nat} {cst : Int} {x : Int32} (x' : Int32) {Ls' : Array Slot} (hd : De bytes pc (.iinc n cst) 3 pc') (hl : Ls[n]? = some (.val (.int x))) (hx' : x + Int32.ofInt cst = x') (hl' : storeLocals Ls n (.int x') = some Ls') (K : Go k h os cells slots pc' Ls' (st)) : Go k h os cells slots pc Ls (st) :=
  Go.pure C (fun hx hc X kt => by obtain ⟨h1, rfl⟩ := hd; exact XS.iinc X hx rfl (hb hc h1) hl (by rw [hx']; exact hl') kt) K
theorem Go.iconst {k : KT} (C : Ctx k l y bytes maxL ret R Z a0 EL wd wr h0 Q) {pc pc' : Nat} {i : Int} (v : Int32) (hd : De bytes pc (.iconst i) 1 pc') (hv : Int32.ofInt i = v) (K : Go k h os cells slots pc' Ls (.int v :: st)) : Go k h os cells slots pc Ls (st) :=
  Go.pure C (fun hx hc X kt => by obtain ⟨h1, rfl⟩ := hd; exact XS.iconst X hx rfl (hb hc h1) (by rw [hv]; exact kt)) K
theorem Go.bipush {k : KT} (C : Ctx k l y bytes maxL ret R Z a0 EL wd wr h0 Q) {pc pc' : Nat} {i : Int} (v : Int32) (hd : De bytes pc (.bipush i) 2 pc') (hv : (Int8.ofInt i).toInt32 = v) (K : Go k h os cells slots pc' Ls (.int v :: st)) : Go k h os cells slots pc Ls (st) :=
  Go.pure C (fun hx hc X kt => by obtain ⟨h1, rfl⟩ := hd; exact XS.bipush X hx rfl (hb hc h1) (by rw [hv]; exact kt)) K
theorem Go.sipush {k : KT} (C : Ctx k l y bytes maxL ret R Z a0 EL wd wr h0 Q) {pc pc' : Nat} {i : Int} (v : Int32) (hd : De bytes pc (.sipush i) 3 pc') (hv : (Int16.ofInt i).toInt32 = v) (K : Go k h os cells slots pc' Ls (.int v :: st)) : Go k h os cells slots pc Ls (st) :=
  Go.pure C (fun hx hc X kt => by obtain ⟨h1, rfl⟩ := hd; exact XS.sipush X hx rfl (hb hc h1) (by rw [hv]; exact kt)) K
theorem Go.lconst {k : KT} (C : Ctx k l y bytes maxL ret R Z a0 EL wd wr h0 Q) {pc pc' : Nat} {i : Fin 2} (v : Int64) (hd : De bytes pc (.lconst i) 1 pc') (hv : Int64.ofNat i = v) (K : Go k h os cells slots pc' Ls (.long v :: st)) : Go k h os cells slots pc Ls (st) :=
  Go.pure C (fun hx hc X kt => by obtain ⟨h1, rfl⟩ := hd; exact XS.lconst X hx rfl (hb hc h1) (by rw [hv]; exact kt)) K
theorem Go.aconstNull {k : KT} (C : Ctx k l y bytes maxL ret R Z a0 EL wd wr h0 Q) {pc pc' : Nat}  (hd : De bytes pc (.aconst_null) 1 pc') (K : Go k h os cells slots pc' Ls (.null :: st)) : Go k h os cells slots pc Ls (st) :=
  Go.pure C (fun hx hc X kt => by obtain ⟨h1, rfl⟩ := hd; exact XS.aconstNull X hx rfl (hb hc h1) kt) K
theorem Go.iadd {k : KT} (C : Ctx k l y bytes maxL ret R Z a0 EL wd wr h0 Q) {pc pc' : Nat} {x y' : Int32} (hd : De bytes pc (.iadd) 1 pc') (K : Go k h os cells slots pc' Ls (.int (x + y') :: st)) : Go k h os cells slots pc Ls (.int y' :: .int x :: st) :=
  Go.pure C (fun hx hc X kt => by obtain ⟨h1, rfl⟩ := hd; exact XS.iadd X hx rfl (hb hc h1) rfl kt) K
theorem Go.isub {k : KT} (C : Ctx k l y bytes maxL ret R Z a0 EL wd wr h0 Q) {pc pc' : Nat} {x y' : Int32} (hd : De bytes pc (.isub) 1 pc') (K : Go k h os cells slots pc' Ls (.int (x - y') :: st)) : Go k h os cells slots pc Ls (.int y' :: .int x :: st) :=
  Go.pure C (fun hx hc X kt => by obtain ⟨h1, rfl⟩ := hd; exact XS.isub X hx rfl (hb hc h1) rfl kt) K
theorem Go.imul {k : KT} (C : Ctx k l y bytes maxL ret R Z a0 EL wd wr h0 Q) {pc pc' : Nat} {x y' : Int32} (hd : De bytes pc (.imul) 1 pc') (K : Go k h os cells slots pc' Ls (.int (x * y') :: st)) : Go k h os cells slots pc Ls (.int y' :: .int x :: st) :=
  Go.pure C (fun hx hc X kt => by obtain ⟨h1, rfl⟩ := hd; exact XS.imul X hx rfl (hb hc h1) rfl kt) K
theorem Go.iand {k : KT} (C : Ctx k l y bytes maxL ret R Z a0 EL wd wr h0 Q) {pc pc' : Nat} {x y' : Int32} (hd : De bytes pc (.iand) 1 pc') (K : Go k h os cells slots pc' Ls (.int (x &&& y') :: st)) : Go k h os cells slots pc Ls (.int y' :: .int x :: st) :=
  Go.pure C (fun hx hc X kt => by obtain ⟨h1, rfl⟩ := hd; exact XS.iand X hx rfl (hb hc h1) rfl kt) K
theorem Go.ior {k : KT} (C : Ctx k l y bytes maxL ret R Z a0 EL wd wr h0 Q) {pc pc' : Nat} {x y' : Int32} (hd : De bytes pc (.ior) 1 pc') (K : Go k h os cells slots pc' Ls (.int (x ||| y') :: st)) : Go k h os cells slots pc Ls (.int y' :: .int x :: st) :=
  Go.pure C (fun hx hc X kt => by obtain ⟨h1, rfl⟩ := hd; exact XS.ior X hx rfl (hb hc h1) rfl kt) K
theorem Go.ixor {k : KT} (C : Ctx k l y bytes maxL ret R Z a0 EL wd wr h0 Q) {pc pc' : Nat} {x y' : Int32} (hd : De bytes pc (.ixor) 1 pc') (K : Go k h os cells slots pc' Ls (.int (x ^^^ y') :: st)) : Go k h os cells slots pc Ls (.int y' :: .int x :: st) :=
  Go.pure C (fun hx hc X kt => by obtain ⟨h1, rfl⟩ := hd; exact XS.ixor X hx rfl (hb hc h1) rfl kt) K
theorem Go.ishl {k : KT} (C : Ctx k l y bytes maxL ret R Z a0 EL wd wr h0 Q) {pc pc' : Nat} {x y' : Int32} (hd : De bytes pc (.ishl) 1 pc') (K : Go k h os cells slots pc' Ls (.int (x <<< (y' &&& 31)) :: st)) : Go k h os cells slots pc Ls (.int y' :: .int x :: st) :=
  Go.pure C (fun hx hc X kt => by obtain ⟨h1, rfl⟩ := hd; exact XS.ishl X hx rfl (hb hc h1) rfl kt) K
theorem Go.ishr {k : KT} (C : Ctx k l y bytes maxL ret R Z a0 EL wd wr h0 Q) {pc pc' : Nat} {x y' : Int32} (hd : De bytes pc (.ishr) 1 pc') (K : Go k h os cells slots pc' Ls (.int (x >>> (y' &&& 31)) :: st)) : Go k h os cells slots pc Ls (.int y' :: .int x :: st) :=
  Go.pure C (fun hx hc X kt => by obtain ⟨h1, rfl⟩ := hd; exact XS.ishr X hx rfl (hb hc h1) rfl kt) K
theorem Go.iushr {k : KT} (C : Ctx k l y bytes maxL ret R Z a0 EL wd wr h0 Q) {pc pc' : Nat} {x y' : Int32} (hd : De bytes pc (.iushr) 1 pc') (K : Go k h os cells slots pc' Ls (.int ((x.toUInt32 >>> (y' &&& 31).toUInt32).toInt32) :: st)) : Go k h os cells slots pc Ls (.int y' :: .int x :: st) :=
  Go.pure C (fun hx hc X kt => by obtain ⟨h1, rfl⟩ := hd; exact XS.iushr X hx rfl (hb hc h1) rfl kt) K
theorem Go.ladd {k : KT} (C : Ctx k l y bytes maxL ret R Z a0 EL wd wr h0 Q) {pc pc' : Nat} {x y' : Int64} (hd : De bytes pc (.ladd) 1 pc') (K : Go k h os cells slots pc' Ls (.long (x + y') :: st)) : Go k h os cells slots pc Ls (.long y' :: .long x :: st) :=
  Go.pure C (fun hx hc X kt => by obtain ⟨h1, rfl⟩ := hd; exact XS.ladd X hx rfl (hb hc h1) rfl kt) K
theorem Go.land {k : KT} (C : Ctx k l y bytes maxL ret R Z a0 EL wd wr h0 Q) {pc pc' : Nat} {x y' : Int64} (hd : De bytes pc (.land) 1 pc') (K : Go k h os cells slots pc' Ls (.long (x &&& y') :: st)) : Go k h os cells slots pc Ls (.long y' :: .long x :: st) :=
  Go.pure C (fun hx hc X kt => by obtain ⟨h1, rfl⟩ := hd; exact XS.land X hx rfl (hb hc h1) rfl kt) K
theorem Go.lshl {k : KT} (C : Ctx k l y bytes maxL ret R Z a0 EL wd wr h0 Q) {pc pc' : Nat} {x : Int64} {y' : Int32} (hd : De bytes pc (.lshl) 1 pc') (K : Go k h os cells slots pc' Ls (.long (x <<< (y' &&& 0x3f).toInt64) :: st)) : Go k h os cells slots pc Ls (.int y' :: .long x :: st) :=
  Go.pure C (fun hx hc X kt => by obtain ⟨h1, rfl⟩ := hd; exact XS.lshl X hx rfl (hb hc h1) rfl kt) K
theorem Go.lshr {k : KT} (C : Ctx k l y bytes maxL ret R Z a0 EL wd wr h0 Q) {pc pc' : Nat} {x : Int64} {y' : Int32} (hd : De bytes pc (.lshr) 1 pc') (K : Go k h os cells slots pc' Ls (.long (x >>> (y' &&& 0x3f).toInt64) :: st)) : Go k h os cells slots pc Ls (.int y' :: .long x :: st) :=
  Go.pure C (fun hx hc X kt => by obtain ⟨h1, rfl⟩ := hd; exact XS.lshr X hx rfl (hb hc h1) rfl kt) K
theorem Go.lushr {k : KT} (C : Ctx k l y bytes maxL ret R Z a0 EL wd wr h0 Q) {pc pc' : Nat} {x : Int64} {y' : Int32} (hd : De bytes pc (.lushr) 1 pc') (K : Go k h os cells slots pc' Ls (.long ((x.toUInt64 >>> (y' &&& 0x3f).toInt64.toUInt64).toInt64) :: st)) : Go k h os cells slots pc Ls (.int y' :: .long x :: st) :=
  Go.pure C (fun hx hc X kt => by obtain ⟨h1, rfl⟩ := hd; exact XS.lushr X hx rfl (hb hc h1) rfl kt) K
theorem Go.idiv {k : KT} (C : Ctx k l y bytes maxL ret R Z a0 EL wd wr h0 Q) {pc pc' : Nat} {x y' : Int32} (hd : De bytes pc (.idiv) 1 pc') (hy : y' ≠ 0) (K : Go k h os cells slots pc' Ls (.int (x / y') :: st)) : Go k h os cells slots pc Ls (.int y' :: .int x :: st) :=
  Go.pure C (fun hx hc X kt => by obtain ⟨h1, rfl⟩ := hd; exact XS.idiv X hx rfl (hb hc h1) rfl hy kt) K
theorem Go.irem {k : KT} (C : Ctx k l y bytes maxL ret R Z a0 EL wd wr h0 Q) {pc pc' : Nat} {x y' : Int32} (hd : De bytes pc (.irem) 1 pc') (hy : y' ≠ 0) (K : Go k h os cells slots pc' Ls (.int (x % y') :: st)) : Go k h os cells slots pc Ls (.int y' :: .int x :: st) :=
  Go.pure C (fun hx hc X kt => by obtain ⟨h1, rfl⟩ := hd; exact XS.irem X hx rfl (hb hc h1) rfl hy (by rw [irem_eq_mod x y']; exact kt)) K
theorem Go.ldiv {k : KT} (C : Ctx k l y bytes maxL ret R Z a0 EL wd wr h0 Q) {pc pc' : Nat} {x y' : Int64} (hd : De bytes pc (.ldiv) 1 pc') (hy : y' ≠ 0) (K : Go k h os cells slots pc' Ls (.long (x / y') :: st)) : Go k h os cells slots pc Ls (.long y' :: .long x :: st) :=
  Go.pure C (fun hx hc X kt => by obtain ⟨h1, rfl⟩ := hd; exact XS.ldiv X hx rfl (hb hc h1) rfl hy kt) K
theorem Go.lcmp {k : KT} (C : Ctx k l y bytes maxL ret R Z a0 EL wd wr h0 Q) {pc pc' : Nat} {x y' : Int64} (hd : De bytes pc (.lcmp) 1 pc') (K : Go k h os cells slots pc' Ls (.int (lcmpW x y') :: st)) : Go k h os cells slots pc Ls (.long y' :: .long x :: st) :=
  Go.pure C (fun hx hc X kt => by obtain ⟨h1, rfl⟩ := hd; exact XS.lcmp X hx rfl (hb hc h1) rfl kt) K
theorem Go.ineg {k : KT} (C : Ctx k l y bytes maxL ret R Z a0 EL wd wr h0 Q) {pc pc' : Nat} {x : Int32} (hd : De bytes pc (.ineg) 1 pc') (K : Go k h os cells slots pc' Ls (.int (-x) :: st)) : Go k h os cells slots pc Ls (.int x :: st) :=
  Go.pure C (fun hx hc X kt => by obtain ⟨h1, rfl⟩ := hd; exact XS.ineg X hx rfl (hb hc h1) rfl kt) K
theorem Go.lneg {k : KT} (C : Ctx k l y bytes maxL ret R Z a0 EL wd wr h0 Q) {pc pc' : Nat} {x : Int64} (hd : De bytes pc (.lneg) 1 pc') (K : Go k h os cells slots pc' Ls (.long (-x) :: st)) : Go k h os cells slots pc Ls (.long x :: st) :=
  Go.pure C (fun hx hc X kt => by obtain ⟨h1, rfl⟩ := hd; exact XS.lneg X hx rfl (hb hc h1) rfl kt) K
theorem Go.i2l {k : KT} (C : Ctx k l y bytes maxL ret R Z a0 EL wd wr h0 Q) {pc pc' : Nat} {x : Int32} (hd : De bytes pc (.i2l) 1 pc') (K : Go k h os cells slots pc' Ls (.long (x.toInt64) :: st)) : Go k h os cells slots pc Ls (.int x :: st) :=
  Go.pure C (fun hx hc X kt => by obtain ⟨h1, rfl⟩ := hd; exact XS.i2l X hx rfl (hb hc h1) rfl kt) K
theorem Go.l2i {k : KT} (C : Ctx k l y bytes maxL ret R Z a0 EL wd wr h0 Q) {pc pc' : Nat} {x : Int64} (hd : De bytes pc (.l2i) 1 pc') (K : Go k h os cells slots pc' Ls (.int (x.toInt32) :: st)) : Go k h os cells slots pc Ls (.long x :: st) :=
  Go.pure C (fun hx hc X kt => by obtain ⟨h1, rfl⟩ := hd; exact XS.l2i X hx rfl (hb hc h1) rfl kt) K
theorem Go.i2b {k : KT} (C : Ctx k l y bytes maxL ret R Z a0 EL wd wr h0 Q) {pc pc' : Nat} {x : Int32} (hd : De bytes pc (.i2b) 1 pc') (K : Go k h os cells slots pc' Ls (.int (x.toInt8.toInt32) :: st)) : Go k h os cells slots pc Ls (.int x :: st) :=
  Go.pure C (fun hx hc X kt => by obtain ⟨h1, rfl⟩ := hd; exact XS.i2b X hx rfl (hb hc h1) rfl kt) K
theorem Go.i2c {k : KT} (C : Ctx k l y bytes maxL ret R Z a0 EL wd wr h0 Q) {pc pc' : Nat} {x : Int32} (hd : De bytes pc (.i2c) 1 pc') (K : Go k h os cells slots pc' Ls (.int (x.toUInt32.toUInt16.toUInt32.toInt32) :: st)) : Go k h os cells slots pc Ls (.int x :: st) :=
  Go.pure C (fun hx hc X kt => by obtain ⟨h1, rfl⟩ := hd; exact XS.i2c X hx rfl (hb hc h1) rfl kt) K
theorem Go.dup {k : KT} (C : Ctx k l y bytes maxL ret R Z a0 EL wd wr h0 Q) {pc pc' : Nat} {v : Value} (hd : De bytes pc (.dup) 1 pc') (hv : v.category = 1) (K : Go k h os cells slots pc' Ls (v :: v :: st)) : Go k h os cells slots pc Ls (v :: st) :=
  Go.pure C (fun hx hc X kt => by obtain ⟨h1, rfl⟩ := hd; exact XS.dup X hx rfl (hb hc h1) rfl hv kt) K
theorem Go.pop {k : KT} (C : Ctx k l y bytes maxL ret R Z a0 EL wd wr h0 Q) {pc pc' : Nat} {v : Value} (hd : De bytes pc (.pop) 1 pc') (hv : v.category = 1) (K : Go k h os cells slots pc' Ls (st)) : Go k h os cells slots pc Ls (v :: st) :=
  Go.pure C (fun hx hc X kt => by obtain ⟨h1, rfl⟩ := hd; exact XS.pop X hx rfl (hb hc h1) rfl hv kt) K
theorem Go.goto {k : KT} (C : Ctx k l y bytes maxL ret R Z a0 EL wd wr h0 Q) {pc pc' pcT : Nat} (hd : DeJ bytes pc .goto pc' pcT) (K : Go k h os cells slots pcT Ls st) : Go k h os cells slots pc Ls st :=
  Go.pure C (fun hx hc X kt => by obtain ⟨o, h1, -, h2, h3⟩ := hd; exact XS.goto X hx rfl rfl (hb hc h1) h2 h3 kt) K
theorem Go.ifeq {k : KT} (C : Ctx k l y bytes maxL ret R Z a0 EL wd wr h0 Q) {pc pc' pcT : Nat} {x : Int32} (hd : DeJ bytes pc (.ifCond .eq) pc' pcT) (KT : (x = 0) → Go k h os cells slots pcT Ls st) (KF : ¬ (x = 0) → Go k h os cells slots pc' Ls st) : Go k h os cells slots pc Ls (.int x :: st) := by
  obtain ⟨o, h1, rfl, h2, h3⟩ := hd
  by_cases q : (x = 0)
  · exact Go.pure C (fun hx hc X kt => XS.ifYes X hx rfl rfl (hb hc h1) rfl ((if0 _ _).trans (teq q).1) h2 h3 kt) (KT q)
  · exact Go.pure C (fun hx hc X kt => XS.ifNo X hx rfl (hb hc h1) rfl ((if0 _ _).trans (feq q).1) kt) (KF q)
theorem Go.icmpeq {k : KT} (C : Ctx k l y bytes maxL ret R Z a0 EL wd wr h0 Q) {pc pc' pcT : Nat} {x z : Int32} (hd : DeJ bytes pc (.if_icmp .eq) pc' pcT) (KT : (x = z) → Go k h os cells slots pcT Ls st) (KF : ¬ (x = z) → Go k h os cells slots pc' Ls st) : Go k h os cells slots pc Ls (.int z :: .int x :: st) := by
  obtain ⟨o, h1, rfl, h2, h3⟩ := hd
  by_cases q : (x = z)
  · exact Go.pure C (fun hx hc X kt => XS.icmpYes X hx rfl rfl (hb hc h1) rfl (teq q).1 h2 h3 kt) (KT q)
  · exact Go.pure C (fun hx hc X kt => XS.icmpNo X hx rfl (hb hc h1) rfl (feq q).1 kt) (KF q)
theorem Go.ifne {k : KT} (C : Ctx k l y bytes maxL ret R Z a0 EL wd wr h0 Q) {pc pc' pcT : Nat} {x : Int32} (hd : DeJ bytes pc (.ifCond .ne) pc' pcT) (KT : ¬ (x = 0) → Go k h os cells slots pcT Ls st) (KF : (x = 0) → Go k h os cells slots pc' Ls st) : Go k h os cells slots pc Ls (.int x :: st) := by
  obtain ⟨o, h1, rfl, h2, h3⟩ := hd
  by_cases q : ¬ (x = 0)
  · exact Go.pure C (fun hx hc X kt => XS.ifYes X hx rfl rfl (hb hc h1) rfl ((if0 _ _).trans (feq q).2) h2 h3 kt) (KT q)
  · have q := Decidable.not_not.mp q
    exact Go.pure C (fun hx hc X kt => XS.ifNo X hx rfl (hb hc h1) rfl ((if0 _ _).trans (teq q).2) kt) (KF q)
theorem Go.icmpne {k : KT} (C : Ctx k l y bytes maxL ret R Z a0 EL wd wr h0 Q) {pc pc' pcT : Nat} {x z : Int32} (hd : DeJ bytes pc (.if_icmp .ne) pc' pcT) (KT : ¬ (x = z) → Go k h os cells slots pcT Ls st) (KF : (x = z) → Go k h os cells slots pc' Ls st) : Go k h os cells slots pc Ls (.int z :: .int x :: st) := by
  obtain ⟨o, h1, rfl, h2, h3⟩ := hd
  by_cases q : ¬ (x = z)
  · exact Go.pure C (fun hx hc X kt => XS.icmpYes X hx rfl rfl (hb hc h1) rfl (feq q).2 h2 h3 kt) (KT q)
  · have q := Decidable.not_not.mp q
    exact Go.pure C (fun hx hc X kt => XS.icmpNo X hx rfl (hb hc h1) rfl (teq q).2 kt) (KF q)
theorem Go.iflt {k : KT} (C : Ctx k l y bytes maxL ret R Z a0 EL wd wr h0 Q) {pc pc' pcT : Nat} {x : Int32} (hd : DeJ bytes pc (.ifCond .lt) pc' pcT) (KT : (x < 0) → Go k h os cells slots pcT Ls st) (KF : ¬ (x < 0) → Go k h os cells slots pc' Ls st) : Go k h os cells slots pc Ls (.int x :: st) := by
  obtain ⟨o, h1, rfl, h2, h3⟩ := hd
  by_cases q : (x < 0)
  · exact Go.pure C (fun hx hc X kt => XS.ifYes X hx rfl rfl (hb hc h1) rfl ((if0 _ _).trans (tlt q).1) h2 h3 kt) (KT q)
  · exact Go.pure C (fun hx hc X kt => XS.ifNo X hx rfl (hb hc h1) rfl ((if0 _ _).trans (flt q).1) kt) (KF q)
theorem Go.icmplt {k : KT} (C : Ctx k l y bytes maxL ret R Z a0 EL wd wr h0 Q) {pc pc' pcT : Nat} {x z : Int32} (hd : DeJ bytes pc (.if_icmp .lt) pc' pcT) (KT : (x < z) → Go k h os cells slots pcT Ls st) (KF : ¬ (x < z) → Go k h os cells slots pc' Ls st) : Go k h os cells slots pc Ls (.int z :: .int x :: st) := by
  obtain ⟨o, h1, rfl, h2, h3⟩ := hd
  by_cases q : (x < z)
  · exact Go.pure C (fun hx hc X kt => XS.icmpYes X hx rfl rfl (hb hc h1) rfl (tlt q).1 h2 h3 kt) (KT q)
  · exact Go.pure C (fun hx hc X kt => XS.icmpNo X hx rfl (hb hc h1) rfl (flt q).1 kt) (KF q)
theorem Go.ifge {k : KT} (C : Ctx k l y bytes maxL ret R Z a0 EL wd wr h0 Q) {pc pc' pcT : Nat} {x : Int32} (hd : DeJ bytes pc (.ifCond .ge) pc' pcT) (KT : ¬ (x < 0) → Go k h os cells slots pcT Ls st) (KF : (x < 0) → Go k h os cells slots pc' Ls st) : Go k h os cells slots pc Ls (.int x :: st) := by
  obtain ⟨o, h1, rfl, h2, h3⟩ := hd
  by_cases q : ¬ (x < 0)
  · exact Go.pure C (fun hx hc X kt => XS.ifYes X hx rfl rfl (hb hc h1) rfl ((if0 _ _).trans (flt q).2.1) h2 h3 kt) (KT q)
  · have q := Decidable.not_not.mp q
    exact Go.pure C (fun hx hc X kt => XS.ifNo X hx rfl (hb hc h1) rfl ((if0 _ _).trans (tlt q).2.1) kt) (KF q)
theorem Go.icmpge {k : KT} (C : Ctx k l y bytes maxL ret R Z a0 EL wd wr h0 Q) {pc pc' pcT : Nat} {x z : Int32} (hd : DeJ bytes pc (.if_icmp .ge) pc' pcT) (KT : ¬ (x < z) → Go k h os cells slots pcT Ls st) (KF : (x < z) → Go k h os cells slots pc' Ls st) : Go k h os cells slots pc Ls (.int z :: .int x :: st) := by
  obtain ⟨o, h1, rfl, h2, h3⟩ := hd
  by_cases q : ¬ (x < z)
  · exact Go.pure C (fun hx hc X kt => XS.icmpYes X hx rfl rfl (hb hc h1) rfl (flt q).2.1 h2 h3 kt) (KT q)
  · have q := Decidable.not_not.mp q
    exact Go.pure C (fun hx hc X kt => XS.icmpNo X hx rfl (hb hc h1) rfl (tlt q).2.1 kt) (KF q)
theorem Go.ifgt {k : KT} (C : Ctx k l y bytes maxL ret R Z a0 EL wd wr h0 Q) {pc pc' pcT : Nat} {x : Int32} (hd : DeJ bytes pc (.ifCond .gt) pc' pcT) (KT : (0 < x) → Go k h os cells slots pcT Ls st) (KF : ¬ (0 < x) → Go k h os cells slots pc' Ls st) : Go k h os cells slots pc Ls (.int x :: st) := by
  obtain ⟨o, h1, rfl, h2, h3⟩ := hd
  by_cases q : (0 < x)
  · exact Go.pure C (fun hx hc X kt => XS.ifYes X hx rfl rfl (hb hc h1) rfl ((if0 _ _).trans (tlt q).2.2.1) h2 h3 kt) (KT q)
  · exact Go.pure C (fun hx hc X kt => XS.ifNo X hx rfl (hb hc h1) rfl ((if0 _ _).trans (flt q).2.2.1) kt) (KF q)
theorem Go.icmpgt {k : KT} (C : Ctx k l y bytes maxL ret R Z a0 EL wd wr h0 Q) {pc pc' pcT : Nat} {x z : Int32} (hd : DeJ bytes pc (.if_icmp .gt) pc' pcT) (KT : (z < x) → Go k h os cells slots pcT Ls st) (KF : ¬ (z < x) → Go k h os cells slots pc' Ls st) : Go k h os cells slots pc Ls (.int z :: .int x :: st) := by
  obtain ⟨o, h1, rfl, h2, h3⟩ := hd
  by_cases q : (z < x)
  · exact Go.pure C (fun hx hc X kt => XS.icmpYes X hx rfl rfl (hb hc h1) rfl (tlt q).2.2.1 h2 h3 kt) (KT q)
  · exact Go.pure C (fun hx hc X kt => XS.icmpNo X hx rfl (hb hc h1) rfl (flt q).2.2.1 kt) (KF q)
theorem Go.icmple {k : KT} (C : Ctx k l y bytes maxL ret R Z a0 EL wd wr h0 Q) {pc pc' pcT : Nat} {x z : Int32} (hd : DeJ bytes pc (.if_icmp .le) pc' pcT) (KT : ¬ (z < x) → Go k h os cells slots pcT Ls st) (KF : (z < x) → Go k h os cells slots pc' Ls st) : Go k h os cells slots pc Ls (.int z :: .int x :: st) := by
  obtain ⟨o, h1, rfl, h2, h3⟩ := hd
  by_cases q : ¬ (z < x)
  · exact Go.pure C (fun hx hc X kt => XS.icmpYes X hx rfl rfl (hb hc h1) rfl (flt q).2.2.2 h2 h3 kt) (KT q)
  · have q := Decidable.not_not.mp q
    exact Go.pure C (fun hx hc X kt => XS.icmpNo X hx rfl (hb hc h1) rfl (tlt q).2.2.2 kt) (KF q)
theorem Go.ifnonnullY {k : KT} (C : Ctx k l y bytes maxL ret R Z a0 EL wd wr h0 Q) {pc pc' pcT : Nat} {b : Addr} (hd : DeJ bytes pc .ifnonnull pc' pcT) (K : Go k h os cells slots pcT Ls st) : Go k h os cells slots pc Ls (.ref b :: st) :=
  Go.pure C (fun hx hc X kt => by obtain ⟨o, h1, -, h2, h3⟩ := hd; exact XS.ifnonnullYes X hx rfl rfl (hb hc h1) rfl h2 h3 kt) K
end Steps
section Heapy
variable {l : Launch} {y : MethodName} {bytes : ByteArray} {maxL : Nat} {ret : Option FieldType} {R : Room} {Z : State} {a0 : Array Value} {EL : List (String × Nat)} {wd : Bool} {wr : List Addr} {h0 : Heap} {Q : QT} {h : Heap} {os : List Addr} {cells slots : Nat} {Ls : Array Slot} {st : List Value}
/-- the run moves on: heap, tables and frame at hand -/
theorem mov {p : Program} {e : Env} {s : State} {m : MethodId} {args : Array Value} {below : List Frame} {meth : Method} {c : Code} {T T' : State} {locs' : List Loc} {vm' : Vm} {h' : Heap} {os' : List Addr} {cells' slots' pc pc' : Nat} {Ls' : Array Slot} {st' : List Value}
    (G : Go ⟨p, l, e, R, s, m, args, below, meth, c, Z, EL, wd, wr, Q⟩ h' os' cells' slots' pc' Ls' st') (X' : Stand p l e R (s.setVm vm') m args below meth c T' locs' cells' slots') (e' : T'.heap = h') (N' : Fr Z.heap.size locs') (S' : s.Since vm' h'.size) (w' : wd = false → s.WarmedH vm')
    (A' : CHr Z EL s.vm s.heap vm' h') (K' : Keep s.heap h' wr) (ow' : ∀ x ∈ os', Own Z s.heap EL wr vm' h' x)
    (stp : ∀ target, Steps p.tables e below (T'.setTop (mkF m pc' Ls' st')) target → Steps p.tables e below (T.setTop (mkF m pc Ls st)) target) : Fen p e below (Done Z EL wd R wr Q s) (T.setTop (mkF m pc Ls st)) :=
  Fen.of stp (G T' locs' vm' X' e' N' S' w' A' K' ow')
theorem ext0 {s : State} {h' : Heap} (E : Ext Z.heap s.heap) (K : Keep s.heap h' wr) (q : ∀ x ∈ wr, Z.heap.size ≤ x) : Ext Z.heap h' :=
  ⟨Nat.le_trans E.1 K.1, fun a c r => K.2.1 a c (E.2 a c r) fun hm => absurd (Array.getElem?_eq_some_iff.mp r).1 (Nat.not_lt.mpr (q a hm))⟩
theorem Go.old {k : KT} (C : Ctx k l y bytes maxL ret R Z a0 EL wd wr h0 Q) {pc : Nat} (K : Ext Z.heap h → Go k h os cells slots pc Ls st) : Go k h os cells slots pc Ls st := by
  obtain ⟨p, l', e, R', s, m, args, below, meth, c, Z', EL', wd', wr', Q'⟩ := k
  have C' := C
  obtain ⟨⟨rfl, rfl, rfl, rfl, rfl, rfl, rfl, rfl⟩, hx, hc, hml, hret, hlk, hnm, hZ, hown, hEL, hE, hwr⟩ := C
  intro T locs vm X e0 N S w A Kp ow
  exact K (ext0 hE Kp hwr) T locs vm X e0 N S w A Kp ow
/-- fewer owned, more cells -/
theorem Go.less {k : KT} {pc : Nat} {os' : List Addr} (q : ∀ x ∈ os', x ∈ os) (G : Go k h os' cells slots pc Ls st) : Go k h os cells slots pc Ls st := by
  obtain ⟨p, l', e, R', s, m, args, below, meth, c, Z', EL', wd', wr', Q'⟩ := k
  intro T locs vm X e0 N S w A Kp ow
  exact G T locs vm X e0 N S w A Kp fun x hx => ow x (q x hx)
theorem Go.more {k : KT} {pc cells' slots' : Nat} (q1 : cells ≤ cells') (q2 : slots ≤ slots') (G : Go k h os cells' slots' pc Ls st) : Go k h os cells slots pc Ls st := by
  obtain ⟨p, l', e, R', s, m, args, below, meth, c, Z', EL', wd', wr', Q'⟩ := k
  intro T locs vm X e0 N S w A Kp ow
  exact G T locs vm (X.more q1 q2) e0 N S w A Kp ow
theorem ownPush {s : State} {vm : Vm} {h' : Heap} (E0 : Ext Z.heap s.heap) (A : CHr Z EL s.vm s.heap vm h) (Kp : Keep s.heap h wr) (E : Ext h h') (hlt : h.size < h'.size) (ow : ∀ x ∈ os, Own Z s.heap EL wr vm h x) : ∀ x ∈ h.size :: os, Own Z s.heap EL wr vm h' x := fun x hx => by
  rcases List.mem_cons.mp hx with rfl | hx
  · exact ⟨Safe.ext E A.1 (Safe.new (Nat.le_refl _)), Nat.le_trans E0.1 Kp.1, hlt, Or.inr Kp.1⟩
  · exact (ow x hx).chr (CHr.ext E A.1)
theorem Go.new {k : KT} (C : Ctx k l y bytes maxL ret R Z a0 EL wd wr h0 Q) {pc pc' i n : Nat} {Cn : String} {F : FL} {vs : List Value} (w1 : (Cond.classLink y.cls i Cn).before a0 Z = true) (w2 : (Cond.instantiable Cn n).before a0 Z = true) (w3 : (Cond.initialized Cn).before a0 Z = true)
    (LF : LaidL Z a0 Cn F) (dv : F.map (fun q => (parseFieldDescriptor q.2.2).map defaultValue) = vs.map some) (hd : De bytes pc (.new i) 3 pc') (hc : cells + 1 ≤ R.cells) (hl : slots + n ≤ R.slots)
    (K : ∀ (b : Addr) (h' : Heap), b = h.size → Keep h h' [] → Obj Z h' b Cn F vs → Go k h' (b :: os) (cells + 1) (slots + n) pc' Ls (.ref b :: st)) : Go k h os cells slots pc Ls st := by
  obtain ⟨p, l', e, R', s, m, args, below, meth, c, Z', EL', wd', wr', Q'⟩ := k
  obtain ⟨⟨rfl, rfl, rfl, rfl, rfl, rfl, rfl, rfl⟩, hx, hc', hml, hret, hlk, hnm, hZ, hown, hEL, hE, hwr⟩ := C
  obtain ⟨h1, rfl⟩ := hd
  intro T locs vm X e0 N S w A Kp ow
  have hZ' : Z'.Warmed39 (s.setVm vm).vm := State.Warmed39.trans (t := s) hZ S.1
  have hown' : (s.setVm vm).vm.findClass y.cls = some m.cls := (S.1.alike.findClass _ _).trans hown
  obtain ⟨T', h', X', e', E, Ex, D, -, stp⟩ := newO X hx hZ' hown' w1 w2 w3 e0 (g := mkF m pc Ls st) rfl (hb hc' h1) hc hl
  exact mov (K h.size h' rfl (Keep.ofExt E) (Obj.new (A := Ex) D LF dv)) X' e' N (Since.up S E.1) w (A.trans (CHr.ext E A.1)) (Kp.ext E) (ownPush hE A Kp E Ex.lt ow) stp
theorem Go.newarray {k : KT} (C : Ctx k l y bytes maxL ret R Z a0 EL wd wr h0 Q) {pc pc' : Nat} {aty : ArrayType} {z : Int32} (w1 : (Cond.arrayClass (newarray.typeOf aty)).before a0 Z = true) (hd : De bytes pc (.newarray aty) 2 pc') (hz : ¬ z < 0) (n : Nat) (hn : z.toNatClampNeg = n) {cap : Nat} (hcap : n ≤ cap) (hb8 : cap * 8 ≤ 536870912)
    (hc : cells + 1 ≤ R.cells) (hl : slots + cap ≤ R.slots)
    (K : ∀ (b : Addr) (h' : Heap), b = h.size → Keep h h' [] → Av Z h' b (newarray.typeOf aty) (List.replicate n (defaultValue (newarray.typeOf aty))) → Go k h' (b :: os) (cells + 1) (slots + cap) pc' Ls (.ref b :: st)) : Go k h os cells slots pc Ls (.int z :: st) := by
  obtain ⟨p, l', e, R', s, m, args, below, meth, c, Z', EL', wd', wr', Q'⟩ := k
  obtain ⟨⟨rfl, rfl, rfl, rfl, rfl, rfl, rfl, rfl⟩, hx, hc', hml, hret, hlk, hnm, hZ, hown, hEL, hE, hwr⟩ := C
  obtain ⟨h1, rfl⟩ := hd
  intro T locs vm X e0 N S w A Kp ow
  have hZ' : Z'.Warmed39 (s.setVm vm).vm := State.Warmed39.trans (t := s) hZ S.1
  obtain ⟨T', h', cA, X', e', E, Ar, Ex, stp⟩ := newPE X hx hZ' w1 e0 (g := mkF m pc Ls (.int z :: st)) rfl (hb hc' h1) rfl hz (cap := cap) (by rw [hn]; exact hcap) hb8 hc hl rfl
  have hfc : Z'.vm.findClass ("[" ++ (newarray.typeOf aty).toString) = some cA := by
    obtain ⟨cell, kk, q1, q2, -⟩ := Ex
    cases Ar.1.symm.trans q1; exact q2
  exact mov (K h.size h' rfl (Keep.ofExt E) (Av.new Ar hz hn (fun _ => hfc))) X' e' N (Since.up S E.1) w (A.trans (CHr.ext E A.1)) (Kp.ext E) (ownPush hE A Kp E Ar.lt ow) stp
theorem Go.getF {k : KT} (C : Ctx k l y bytes maxL ret R Z a0 EL wd wr h0 Q) {pc pc' i : Nat} {a : Addr} {Cn R0 host : String} {F : FL} {vs : List Value} {v : Value} {q : String × String × String} (O : Obj Z h a Cn F vs) (j : Nat) (hq : F[j]? = some q) (hv : vs[j]? = some v)
    (w : (Cond.fieldLink y.cls i R0 q.2.1 q.2.2).before a0 Z = true ∨ (Cond.fieldLinkNest y.cls i R0 q.2.1 q.2.2 host).before a0 Z = true) (via : Via Z R0 q.1 q.2.1 q.2.2) (hd : De bytes pc (.getfield i) 3 pc') (K : Go k h os cells slots pc' Ls (v :: st)) : Go k h os cells slots pc Ls (.ref a :: st) := by
  obtain ⟨p, l', e, R', s, m, args, below, meth, c, Z', EL', wd', wr', Q'⟩ := k
  obtain ⟨⟨rfl, rfl, rfl, rfl, rfl, rfl, rfl, rfl⟩, hx, hc', hml, hret, hlk, hnm, hZ, hown, hEL, hE, hwr⟩ := C
  obtain ⟨h1, rfl⟩ := hd
  intro T locs vm X e0 N S w' A Kp ow
  have hZ' : Z'.Warmed39 (s.setVm vm).vm := State.Warmed39.trans (t := s) hZ S.1
  have hown' : (s.setVm vm).vm.findClass y.cls = some m.cls := (S.1.alike.findClass _ _).trans hown
  obtain ⟨T', X', e', stp⟩ := RoadKit.getF X hx hZ' hown' w via e0 (O.2.2 j q v hq hv) (g := mkF m pc Ls (.ref a :: st)) rfl rfl (hb hc' h1)
  exact mov K X' e' N S w' A Kp ow stp
theorem Go.getS {k : KT} (C : Ctx k l y bytes maxL ret R Z a0 EL wd wr h0 Q) {pc pc' i : Nat} {R0 O n d host : String} {v : Value} (F : Sta Z Z.heap O n d v)
    (w : (Cond.fieldLink y.cls i R0 n d).before a0 Z = true ∨ (Cond.fieldLinkNest y.cls i R0 n d host).before a0 Z = true) (via : Via Z R0 O n d) (hd : De bytes pc (.getstatic i) 3 pc') (K : Go k h os cells slots pc' Ls (v :: st)) : Go k h os cells slots pc Ls st := by
  obtain ⟨p, l', e, R', s, m, args, below, meth, c, Z', EL', wd', wr', Q'⟩ := k
  obtain ⟨⟨rfl, rfl, rfl, rfl, rfl, rfl, rfl, rfl⟩, hx, hc', hml, hret, hlk, hnm, hZ, hown, hEL, hE, hwr⟩ := C
  obtain ⟨h1, rfl⟩ := hd
  intro T locs vm X e0 N S w' A Kp ow
  have hZ' : Z'.Warmed39 (s.setVm vm).vm := State.Warmed39.trans (t := s) hZ S.1
  have hown' : (s.setVm vm).vm.findClass y.cls = some m.cls := (S.1.alike.findClass _ _).trans hown
  obtain ⟨T', X', e', stp⟩ := getS2 X hx hZ' hown' w via e0 (F.ext (ext0 hE Kp hwr)) (g := mkF m pc Ls st) rfl (hb hc' h1)
  exact mov K X' e' N S w' A Kp ow stp
theorem Go.putF {k : KT} (C : Ctx k l y bytes maxL ret R Z a0 EL wd wr h0 Q) {pc pc' i kk : Nat} {a : Addr} {Cn R0 : String} {F : FL} {vs vs' : List Value} {v v' : Value} {ty : FieldType} {q : String × String × String} (O : Obj Z h a Cn F vs) (ho : a ∈ os) (j : Nat) (hq : F[j]? = some q)
    (w : (Cond.fieldLink y.cls i R0 q.2.1 q.2.2).before a0 Z = true) (via : Via Z R0 q.1 q.2.1 q.2.2) (Lw : (Cond.lays Cn q.1 q.2.1 q.2.2).before a0 Z = true ∨ ((Cond.laysFinal Cn q.1 q.2.1 q.2.2).before a0 Z = true ∧ y.cls = q.1 ∧ y.name = "<init>")) (wi : (Cond.instantiable Cn kk).before a0 Z = true)
    (LF : LaidL Z a0 Cn F) (nd : (F.map (fun q => q.2.1)).Nodup) (hty : parseFieldDescriptor q.2.2 = some ty) (hn : narrow ty v = v') (hf : fits ty v' = true) (hvs : vs.set j v' = vs') (hd : De bytes pc (.putfield i) 3 pc')
    (K : ∀ h' : Heap, Keep h h' [a] → Obj Z h' a Cn F vs' → Go k h' os cells slots pc' Ls st) : Go k h os cells slots pc Ls (v :: .ref a :: st) := by
  obtain ⟨p, l', e, R', s, m, args, below, meth, c, Z', EL', wd', wr', Q'⟩ := k
  obtain ⟨⟨rfl, rfl, rfl, rfl, rfl, rfl, rfl, rfl⟩, hx, hc', hml, hret, hlk, hnm, hZ, hown, hEL, hE, hwr⟩ := C
  obtain ⟨h1, rfl⟩ := hd
  intro T locs vm X e0 N S w' A Kp ow
  have hZ' : Z'.Warmed39 (s.setVm vm).vm := State.Warmed39.trans (t := s) hZ S.1
  have hown' : (s.setVm vm).vm.findClass y.cls = some m.cls := (S.1.alike.findClass _ _).trans hown
  have hj : j < vs.length := by rw [← O.2.1]; exact (List.getElem?_eq_some_iff.mp hq).1
  obtain ⟨T', h', X', e', W, stp⟩ := putFN X hx hZ' hown' w via e0 (O.2.2 j q _ hq (List.getElem?_eq_getElem hj)) O.1 (Lw.imp id fun z => ⟨z.1, z.2.1, hnm.trans z.2.2⟩) wi hty hn hf (g := mkF m pc Ls (v :: .ref a :: st)) rfl rfl (hb hc' h1)
  have KW := Keep.of_wr W
  have os1 : ∀ x ∈ [a], x ∈ os := fun x hx => by cases List.mem_singleton.mp hx; exact ho
  have Ch := CHr.keep KW (safeOs ow os1) A.1
  subst hvs
  exact mov (K h' KW (O.put W hq LF nd)) X' e' (Fr.snoc X' N (ow a ho).2.1) (Since.up S KW.1) w' (A.trans Ch) (keepOs Kp KW ow os1) (fun x hx => (ow x hx).chr Ch) stp
theorem av_in {a : Addr} {ty : FieldType} {vs : List Value} {c : Cell} {z j : Int32} {i : Nat} (r2 : c.slots.size = z.toNatClampNeg) (e : z.toNatClampNeg = vs.length) (hj : ¬ j < 0) (hi : j.toNatClampNeg = i) (hlt : i < vs.length) : ¬ (j < 0 ∨ c.slots.size ≤ j.toNatClampNeg) := by
  rintro (q | q)
  · exact hj q
  · rw [r2, e, hi] at q; omega
theorem has_at {c : Cell} {vs : List Value} {d : Value} (H : Has c vs d) {i : Nat} {v : Value} (hi : i < c.slots.size) (hv : vs[i]? = some v) : c.slots[i]? = some v := by
  rw [H i hi, List.getD_eq_getElem?_getD, hv]; rfl
theorem Go.arraylength {k : KT} (C : Ctx k l y bytes maxL ret R Z a0 EL wd wr h0 Q) {pc pc' : Nat} {a : Addr} {ty : FieldType} {vs : List Value} (V : Av Z h a ty vs) (v : Int32) (hv : vs.length.toInt32 = v) (hd : De bytes pc .arraylength 1 pc') (K : Go k h os cells slots pc' Ls (.int v :: st)) : Go k h os cells slots pc Ls (.ref a :: st) := by
  obtain ⟨p, l', e, R', s, m, args, below, meth, c, Z', EL', wd', wr', Q'⟩ := k
  obtain ⟨⟨rfl, rfl, rfl, rfl, rfl, rfl, rfl, rfl⟩, hx, hc', hml, hret, hlk, hnm, hZ, hown, hEL, hE, hwr⟩ := C
  obtain ⟨h1, rfl⟩ := hd
  intro T locs vm X e0 N S w' A Kp ow
  have hZ' : Z'.Warmed39 (s.setVm vm).vm := State.Warmed39.trans (t := s) hZ S.1
  obtain ⟨kc, z, ⟨cl, Ar, r1, r2, r3, H, G⟩, ez, efc⟩ := V
  refine Fen.of (fun t kt => X.arraylength hx (by rw [e0]; exact Ar.1) (State.isArrayOf_alike hZ'.alike Ar.2.1) (g := mkF m pc Ls (.ref a :: st)) rfl rfl (hb hc' h1) t ?_) (K T locs vm X e0 N S w' A Kp ow)
  rw [r2, ez, hv]; exact kt
theorem Go.iaload {k : KT} (C : Ctx k l y bytes maxL ret R Z a0 EL wd wr h0 Q) {pc pc' : Nat} {a : Addr} {vs : List Value} {j : Int32} {v : Value} (V : Av Z h a .int vs) (i : Nat) (hj : ¬ j < 0) (hi : j.toNatClampNeg = i) (hv : vs[i]? = some v) (hd : De bytes pc .iaload 1 pc') (K : Go k h os cells slots pc' Ls (v :: st)) : Go k h os cells slots pc Ls (.int j :: .ref a :: st) := by
  obtain ⟨p, l', e, R', s, m, args, below, meth, c, Z', EL', wd', wr', Q'⟩ := k
  obtain ⟨⟨rfl, rfl, rfl, rfl, rfl, rfl, rfl, rfl⟩, hx, hc', hml, hret, hlk, hnm, hZ, hown, hEL, hE, hwr⟩ := C
  obtain ⟨h1, rfl⟩ := hd
  intro T locs vm X e0 N S w' A Kp ow
  have hZ' : Z'.Warmed39 (s.setVm vm).vm := State.Warmed39.trans (t := s) hZ S.1
  obtain ⟨kc, z, ⟨cl, Ar, r1, r2, r3, H, G⟩, ez, efc⟩ := V
  have hlt := (List.getElem?_eq_some_iff.mp hv).1
  refine Fen.of (fun t kt => X.iaload hx (j := j) (v := v) (by rw [e0]; exact Ar.1) (State.isArrayOf_alike hZ'.alike Ar.2.1) Ar.2.2 (av_in (a := a) (ty := .int) (vs := vs) r2 ez hj hi hlt) (by rw [hi]; exact has_at H (by rw [r2, ez]; exact hlt) hv) (g := mkF m pc Ls (.int j :: .ref a :: st)) rfl rfl (hb hc' h1) t kt) (K T locs vm X e0 N S w' A Kp ow)
theorem Go.caload {k : KT} (C : Ctx k l y bytes maxL ret R Z a0 EL wd wr h0 Q) {pc pc' : Nat} {a : Addr} {vs : List Value} {j : Int32} {v : Value} (V : Av Z h a .char vs) (i : Nat) (hj : ¬ j < 0) (hi : j.toNatClampNeg = i) (hv : vs[i]? = some v) (hd : De bytes pc .caload 1 pc') (K : Go k h os cells slots pc' Ls (v :: st)) : Go k h os cells slots pc Ls (.int j :: .ref a :: st) := by
  obtain ⟨p, l', e, R', s, m, args, below, meth, c, Z', EL', wd', wr', Q'⟩ := k
  obtain ⟨⟨rfl, rfl, rfl, rfl, rfl, rfl, rfl, rfl⟩, hx, hc', hml, hret, hlk, hnm, hZ, hown, hEL, hE, hwr⟩ := C
  obtain ⟨h1, rfl⟩ := hd
  intro T locs vm X e0 N S w' A Kp ow
  have hZ' : Z'.Warmed39 (s.setVm vm).vm := State.Warmed39.trans (t := s) hZ S.1
  obtain ⟨kc, z, ⟨cl, Ar, r1, r2, r3, H, G⟩, ez, efc⟩ := V
  have hlt := (List.getElem?_eq_some_iff.mp hv).1
  refine Fen.of (fun t kt => X.caload hx (j := j) (v := v) (by rw [e0]; exact Ar.1) (State.isArrayOf_alike hZ'.alike Ar.2.1) Ar.2.2 (av_in (a := a) (ty := .char) (vs := vs) r2 ez hj hi hlt) (by rw [hi]; exact has_at H (by rw [r2, ez]; exact hlt) hv) (g := mkF m pc Ls (.int j :: .ref a :: st)) rfl rfl (hb hc' h1) t kt) (K T locs vm X e0 N S w' A Kp ow)
theorem Go.baload {k : KT} (C : Ctx k l y bytes maxL ret R Z a0 EL wd wr h0 Q) {pc pc' : Nat} {a : Addr} {vs : List Value} {j : Int32} {v : Value} (V : Av Z h a .byte vs) (i : Nat) (hj : ¬ j < 0) (hi : j.toNatClampNeg = i) (hv : vs[i]? = some v) (hd : De bytes pc .baload 1 pc') (K : Go k h os cells slots pc' Ls (v :: st)) : Go k h os cells slots pc Ls (.int j :: .ref a :: st) := by
  obtain ⟨p, l', e, R', s, m, args, below, meth, c, Z', EL', wd', wr', Q'⟩ := k
  obtain ⟨⟨rfl, rfl, rfl, rfl, rfl, rfl, rfl, rfl⟩, hx, hc', hml, hret, hlk, hnm, hZ, hown, hEL, hE, hwr⟩ := C
  obtain ⟨h1, rfl⟩ := hd
  intro T locs vm X e0 N S w' A Kp ow
  have hZ' : Z'.Warmed39 (s.setVm vm).vm := State.Warmed39.trans (t := s) hZ S.1
  obtain ⟨kc, z, ⟨cl, Ar, r1, r2, r3, H, G⟩, ez, efc⟩ := V
  have hlt := (List.getElem?_eq_some_iff.mp hv).1
  refine Fen.of (fun t kt => X.baloadBytes hx (j := j) (v := v) (by rw [e0]; exact Ar.1) (State.isArrayOf_alike hZ'.alike Ar.2.1) Ar.2.2 (av_in (a := a) (ty := .byte) (vs := vs) r2 ez hj hi hlt) (by rw [hi]; exact has_at H (by rw [r2, ez]; exact hlt) hv) (g := mkF m pc Ls (.int j :: .ref a :: st)) rfl rfl (hb hc' h1) t kt) (K T locs vm X e0 N S w' A Kp ow)
theorem Go.iastore {k : KT} (C : Ctx k l y bytes maxL ret R Z a0 EL wd wr h0 Q) {pc pc' : Nat} {a : Addr} {vs vs' : List Value} {j : Int32} {x : Int32} (V : Av Z h a .int vs) (ho : a ∈ os) (i : Nat) (hj : ¬ j < 0) (hi : j.toNatClampNeg = i) (hlt : i < vs.length) (hvs : vs.set i (.int x) = vs') (hd : De bytes pc .iastore 1 pc')
    (K : ∀ h' : Heap, Keep h h' [a] → Av Z h' a .int vs' → Go k h' os cells slots pc' Ls st) : Go k h os cells slots pc Ls (.int x :: .int j :: .ref a :: st) := by
  obtain ⟨p, l', e, R', s, m, args, below, meth, c, Z', EL', wd', wr', Q'⟩ := k
  obtain ⟨⟨rfl, rfl, rfl, rfl, rfl, rfl, rfl, rfl⟩, hx, hc', hml, hret, hlk, hnm, hZ, hown, hEL, hE, hwr⟩ := C
  obtain ⟨h1, rfl⟩ := hd
  intro T locs vm X e0 N S w' A Kp ow
  have hZ' : Z'.Warmed39 (s.setVm vm).vm := State.Warmed39.trans (t := s) hZ S.1
  obtain ⟨kc, z, ⟨cl, Ar, r1, r2, r3, H, G⟩, ez, efc⟩ := V
  obtain ⟨T', h', X', e', W, stp⟩ := stI X hx hZ' e0 Ar (j := j) (av_in (a := a) (ty := .int) (vs := vs) r2 ez hj hi hlt) (g := mkF m pc Ls (.int x :: .int j :: .ref a :: st)) rfl rfl (hb hc' h1)
  have KW := Keep.of_wr W
  have os1 : ∀ x ∈ [a], x ∈ os := fun x hx => by cases List.mem_singleton.mp hx; exact ho
  have Ch := CHr.keep KW (safeOs ow os1) A.1
  subst hvs
  exact mov (K h' KW ⟨kc, z, Arv.set Ar r1 r2 r3 H G rfl W i hi hlt, by simpa using ez, efc⟩) X' e' (Fr.snoc X' N (ow a ho).2.1) (Since.up S KW.1) w' (A.trans Ch) (keepOs Kp KW ow os1) (fun x hx => (ow x hx).chr Ch) stp
theorem Go.castore {k : KT} (C : Ctx k l y bytes maxL ret R Z a0 EL wd wr h0 Q) {pc pc' : Nat} {a : Addr} {vs vs' : List Value} {j : Int32} {x x' : Int32} (V : Av Z h a .char vs) (ho : a ∈ os) (i : Nat) (hj : ¬ j < 0) (hi : j.toNatClampNeg = i) (hlt : i < vs.length) (hn : nar .char x = x') (hvs : vs.set i (.int x') = vs') (hd : De bytes pc .castore 1 pc')
    (K : ∀ h' : Heap, Keep h h' [a] → Av Z h' a .char vs' → Go k h' os cells slots pc' Ls st) : Go k h os cells slots pc Ls (.int x :: .int j :: .ref a :: st) := by
  obtain ⟨p, l', e, R', s, m, args, below, meth, c, Z', EL', wd', wr', Q'⟩ := k
  obtain ⟨⟨rfl, rfl, rfl, rfl, rfl, rfl, rfl, rfl⟩, hx, hc', hml, hret, hlk, hnm, hZ, hown, hEL, hE, hwr⟩ := C
  obtain ⟨h1, rfl⟩ := hd
  intro T locs vm X e0 N S w' A Kp ow
  have hZ' : Z'.Warmed39 (s.setVm vm).vm := State.Warmed39.trans (t := s) hZ S.1
  obtain ⟨kc, z, ⟨cl, Ar, r1, r2, r3, H, G⟩, ez, efc⟩ := V
  obtain ⟨T', h', X', e', W, stp⟩ := stC X hx hZ' e0 Ar (j := j) (av_in (a := a) (ty := .char) (vs := vs) r2 ez hj hi hlt) (g := mkF m pc Ls (.int x :: .int j :: .ref a :: st)) rfl rfl (hb hc' h1)
  have KW := Keep.of_wr W
  have os1 : ∀ x ∈ [a], x ∈ os := fun x hx => by cases List.mem_singleton.mp hx; exact ho
  have Ch := CHr.keep KW (safeOs ow os1) A.1
  subst hn
  subst hvs
  exact mov (K h' KW ⟨kc, z, Arv.set Ar r1 r2 r3 H G (fits_nar_char x) W i hi hlt, by simpa using ez, efc⟩) X' e' (Fr.snoc X' N (ow a ho).2.1) (Since.up S KW.1) w' (A.trans Ch) (keepOs Kp KW ow os1) (fun x hx => (ow x hx).chr Ch) stp
theorem Go.bastore {k : KT} (C : Ctx k l y bytes maxL ret R Z a0 EL wd wr h0 Q) {pc pc' : Nat} {a : Addr} {vs vs' : List Value} {j : Int32} {x x' : Int32} (V : Av Z h a .byte vs) (ho : a ∈ os) (i : Nat) (hj : ¬ j < 0) (hi : j.toNatClampNeg = i) (hlt : i < vs.length) (hn : nar .byte x = x') (hvs : vs.set i (.int x') = vs') (hd : De bytes pc .bastore 1 pc')
    (K : ∀ h' : Heap, Keep h h' [a] → Av Z h' a .byte vs' → Go k h' os cells slots pc' Ls st) : Go k h os cells slots pc Ls (.int x :: .int j :: .ref a :: st) := by
  obtain ⟨p, l', e, R', s, m, args, below, meth, c, Z', EL', wd', wr', Q'⟩ := k
  obtain ⟨⟨rfl, rfl, rfl, rfl, rfl, rfl, rfl, rfl⟩, hx, hc', hml, hret, hlk, hnm, hZ, hown, hEL, hE, hwr⟩ := C
  obtain ⟨h1, rfl⟩ := hd
  intro T locs vm X e0 N S w' A Kp ow
  have hZ' : Z'.Warmed39 (s.setVm vm).vm := State.Warmed39.trans (t := s) hZ S.1
  obtain ⟨kc, z, ⟨cl, Ar, r1, r2, r3, H, G⟩, ez, efc⟩ := V
  obtain ⟨T', h', X', e', W, stp⟩ := stB X hx hZ' e0 Ar (j := j) (av_in (a := a) (ty := .byte) (vs := vs) r2 ez hj hi hlt) (g := mkF m pc Ls (.int x :: .int j :: .ref a :: st)) rfl rfl (hb hc' h1)
  have KW := Keep.of_wr W
  have os1 : ∀ x ∈ [a], x ∈ os := fun x hx => by cases List.mem_singleton.mp hx; exact ho
  have Ch := CHr.keep KW (safeOs ow os1) A.1
  subst hn
  subst hvs
  exact mov (K h' KW ⟨kc, z, Arv.set Ar r1 r2 r3 H G (fits_nar_byte x) W i hi hlt, by simpa using ez, efc⟩) X' e' (Fr.snoc X' N (ow a ho).2.1) (Since.up S KW.1) w' (A.trans Ch) (keepOs Kp KW ow os1) (fun x hx => (ow x hx).chr Ch) stp
theorem Go.ldcO {k : KT} (C : Ctx k l y bytes maxL ret R Z a0 EL true wr h0 Q) {pc pc' i : Nat} {text : String} (w : (Cond.stringLink y.cls i text).before a0 Z = true) (wS : ∀ a ∈ Bundle.stringAtoms, a.before a0 Z = true) (hd : De bytes pc (.ldc i) 2 pc') {n : Nat} (hn : 4 * text.toList.length ≤ n) (hbig : n ≤ 536870912) (hc : cells + 2 ≤ R.cells) (hl : slots + (n + 4) ≤ R.slots)
    (K : ∀ (a : Addr) (h' : Heap), Keep h h' [] → Go k h' os (cells + 2) (slots + (n + 4)) pc' Ls (.ref a :: st)) : Go k h os cells slots pc Ls st := by
  obtain ⟨p, l', e, R', s, m, args, below, meth, c, Z', EL', wd', wr', Q'⟩ := k
  obtain ⟨⟨rfl, rfl, rfl, rfl, rfl, rfl, rfl, rfl⟩, hx, hc', hml, hret, hlk, hnm, hZ, hown, hEL, hE, hwr⟩ := C
  obtain ⟨h1, rfl⟩ := hd
  intro T locs vm X e0 N S w' A Kp ow
  have hZ' : Z'.Warmed39 vm := State.Warmed39.trans (t := s) hZ S.1
  have hown' : vm.findClass y.cls = some m.cls := (S.1.alike.findClass _ _).trans hown
  obtain ⟨a, T', h', k1, X', e', E, S', hk1, -, -, Ch, -, stp⟩ := ldcOH X hx hZ' hown' w wS e0 S (Nat.le_refl _) hEL A.1 (g := mkF m pc Ls st) rfl (hb hc' h1) hn hbig hc hl
  refine mov (K a h' (Keep.ofExt E)) X' e' N (Since.up S' hk1) (fun q => Bool.noConfusion q) (A.trans Ch) (Kp.ext E) (fun x hx => (ow x hx).chr Ch) stp
theorem Go.checkcast {k : KT} (C : Ctx k l y bytes maxL ret R Z a0 EL wd wr h0 Q) {pc pc' i : Nat} {a : Addr} {Kn : String} (I : Ins Z h a Kn true) (w : (Cond.classLink y.cls i Kn).before a0 Z = true) (hd : De bytes pc (.checkcast i) 3 pc') (K : Go k h os cells slots pc' Ls (.ref a :: st)) : Go k h os cells slots pc Ls (.ref a :: st) := by
  obtain ⟨p, l', e, R', s, m, args, below, meth, c, Z', EL', wd', wr', Q'⟩ := k
  obtain ⟨⟨rfl, rfl, rfl, rfl, rfl, rfl, rfl, rfl⟩, hx, hc', hml, hret, hlk, hnm, hZ, hown, hEL, hE, hwr⟩ := C
  obtain ⟨h1, rfl⟩ := hd
  intro T locs vm X e0 N S w' A Kp ow
  have hZ' : Z'.Warmed39 (s.setVm vm).vm := State.Warmed39.trans (t := s) hZ S.1
  have hown' : (s.setVm vm).vm.findClass y.cls = some m.cls := (S.1.alike.findClass _ _).trans hown
  obtain ⟨T', X', e', stp⟩ := castY X hx hZ' hown' w e0 I (g := mkF m pc Ls (.ref a :: st)) rfl rfl (hb hc' h1)
  exact mov K X' e' N S w' A Kp ow stp
theorem Go.initO {k : KT} (C : Ctx k l y bytes maxL ret R Z a0 EL wd wr h0 Q) {pc pc' i : Nat} {a : Addr} (w1 : (Cond.methodLink y.cls i Lib.objectInit).before a0 Z = true) (w2 : (Cond.instanceMethod Lib.objectInit).before a0 Z = true) (w3 : (Cond.code Lib.objectInit ⟨#[0xb1]⟩ 1 none).before a0 Z = true)
    (hd : De bytes pc (.invokespecial i) 3 pc') (hs : Ls.size = maxL) (hf : 1 ≤ R.frames) (hl : (st.map fun v => v.category).sum + 12 ≤ R.locals) (K : Go k h os cells slots pc' Ls st) : Go k h os cells slots pc Ls (.ref a :: st) := by
  obtain ⟨p, l', e, R', s, m, args, below, meth, c, Z', EL', wd', wr', Q'⟩ := k
  obtain ⟨⟨rfl, rfl, rfl, rfl, rfl, rfl, rfl, rfl⟩, hx, hc', hml, hret, hlk, hnm, hZ, hown, hEL, hE, hwr⟩ := C
  obtain ⟨h1, rfl⟩ := hd
  intro T locs vm X e0 N S w' A Kp ow
  have hZ' : Z'.Warmed39 (s.setVm vm).vm := State.Warmed39.trans (t := s) hZ S.1
  have hown' : (s.setVm vm).vm.findClass y.cls = some m.cls := (S.1.alike.findClass _ _).trans hown
  obtain ⟨T', X', e', stp⟩ := RoadKit.initO X hx hZ' hown' w1 w2 w3 e0 (g := mkF m pc Ls (.ref a :: st)) rfl (hs.trans hml.symm) rfl (hb hc' h1) hf (W := (st.map fun v => v.category).sum) (by show 2 * 0 + _ ≤ _; omega) hl
  exact mov K X' e' N S w' A Kp ow stp
theorem Go.acmp {k : KT} (C : Ctx k l y bytes maxL ret R Z a0 EL wd wr h0 Q) {pc pc' pcT : Nat} {cd : ACond} {u v : Value} (same : Bool) (hd : DeJ bytes pc (.if_acmp cd) pc' pcT) (h1 : u.isRef = true) (h2 : v.isRef = true) (hq : decide (u = v) = same) {pcN : Nat} (hp : pcN = if acV cd same = true then pcT else pc') (K : Go k h os cells slots pcN Ls st) : Go k h os cells slots pc Ls (v :: u :: st) := by
  obtain ⟨p, l', e, R', s, m, args, below, meth, c, Z', EL', wd', wr', Q'⟩ := k
  obtain ⟨⟨rfl, rfl, rfl, rfl, rfl, rfl, rfl, rfl⟩, hx, hc', hml, hret, hlk, hnm, hZ, hown, hEL, hE, hwr⟩ := C
  obtain ⟨o, g1, rfl, g2, g3⟩ := hd
  intro T locs vm X e0 N S w' A Kp ow
  refine Fen.of (fun t kt => RoadKit.acmp X hx (g := mkF m pc Ls (v :: u :: st)) rfl h1 h2 (pc0 := pc) (pc' := pcN) (same := same) rfl (hb hc' g1) rfl hq g2 (by rw [hp, g3]) kt) (K T locs vm X e0 N S w' A Kp ow)
theorem Go.eqI {k : KT} {pc : Nat} {x x' : Int32} (e : x = x') (K : Go k h os cells slots pc Ls (.int x' :: st)) : Go k h os cells slots pc Ls (.int x :: st) := e ▸ K
theorem Go.eqJ {k : KT} {pc : Nat} {x x' : Int64} (e : x = x') (K : Go k h os cells slots pc Ls (.long x' :: st)) : Go k h os cells slots pc Ls (.long x :: st) := e ▸ K
theorem ne_lt {a b n : Nat} (q : a < n) (e : n ≤ b) : a ≠ b := Nat.ne_of_lt (Nat.lt_of_lt_of_le q e)
theorem ge_of {b n : Nat} (e : b = n) : n ≤ b := Nat.le_of_eq e.symm
theorem Go.ldcI {k : KT} (C : Ctx k l y bytes maxL ret R Z a0 EL wd wr h0 Q) {pc pc' i : Nat} {v : Int32} (w : (Cond.constant y.cls i v).before a0 Z = true) (hd : De bytes pc (.ldc i) 2 pc') (K : Go k h os cells slots pc' Ls (.int v :: st)) : Go k h os cells slots pc Ls st := by
  obtain ⟨p, l', e, R', s, m, args, below, meth, c, Z', EL', wd', wr', Q'⟩ := k
  obtain ⟨⟨rfl, rfl, rfl, rfl, rfl, rfl, rfl, rfl⟩, hx, hc', hml, hret, hlk, hnm, hZ, hown, hEL, hE, hwr⟩ := C
  obtain ⟨h1, rfl⟩ := hd
  intro T locs vm X e0 N S w' A Kp ow
  have hZ' : Z'.Warmed39 (s.setVm vm).vm := State.Warmed39.trans (t := s) hZ S.1
  have hown' : (s.setVm vm).vm.findClass y.cls = some m.cls := (S.1.alike.findClass _ _).trans hown
  exact mov K X e0 N S w' A Kp ow (X.ldcInt hx hown' (mvT hZ' w) (g := mkF m pc Ls st) rfl (hb hc' h1))
theorem Go.ldcWI {k : KT} (C : Ctx k l y bytes maxL ret R Z a0 EL wd wr h0 Q) {pc pc' i : Nat} {v : Int32} (w : (Cond.constant y.cls i v).before a0 Z = true) (hd : De bytes pc (.ldc_w i) 3 pc') (K : Go k h os cells slots pc' Ls (.int v :: st)) : Go k h os cells slots pc Ls st := by
  obtain ⟨p, l', e, R', s, m, args, below, meth, c, Z', EL', wd', wr', Q'⟩ := k
  obtain ⟨⟨rfl, rfl, rfl, rfl, rfl, rfl, rfl, rfl⟩, hx, hc', hml, hret, hlk, hnm, hZ, hown, hEL, hE, hwr⟩ := C
  obtain ⟨h1, rfl⟩ := hd
  intro T locs vm X e0 N S w' A Kp ow
  have hZ' : Z'.Warmed39 (s.setVm vm).vm := State.Warmed39.trans (t := s) hZ S.1
  have hown' : (s.setVm vm).vm.findClass y.cls = some m.cls := (S.1.alike.findClass _ _).trans hown
  exact mov K X e0 N S w' A Kp ow (X.ldcwInt hx hown' (mvT hZ' w) (g := mkF m pc Ls st) rfl (hb hc' h1))
theorem Go.ownd {k : KT} (C : Ctx k l y bytes maxL ret R Z a0 EL wd wr h0 Q) {pc : Nat} (K : (∀ x ∈ os, Z.heap.size ≤ x) → Go k h os cells slots pc Ls st) : Go k h os cells slots pc Ls st := by
  obtain ⟨p, l', e, R', s, m, args, below, meth, c, Z', EL', wd', wr', Q'⟩ := k
  obtain ⟨⟨rfl, rfl, rfl, rfl, rfl, rfl, rfl, rfl⟩, -⟩ := C
  intro T locs vm X e0 N S w A Kp ow
  exact K (fun x hx => (ow x hx).2.1) T locs vm X e0 N S w A Kp ow
theorem Go.ldcJ {k : KT} (C : Ctx k l y bytes maxL ret R Z a0 EL wd wr h0 Q) {pc pc' i : Nat} {v : Int64} (w : (Cond.constantLong y.cls i v).before a0 Z = true) (hd : De bytes pc (.ldc2_w i) 3 pc') (K : Go k h os cells slots pc' Ls (.long v :: st)) : Go k h os cells slots pc Ls st := by
  obtain ⟨p, l', e, R', s, m, args, below, meth, c, Z', EL', wd', wr', Q'⟩ := k
  obtain ⟨⟨rfl, rfl, rfl, rfl, rfl, rfl, rfl, rfl⟩, hx, hc', hml, hret, hlk, hnm, hZ, hown, hEL, hE, hwr⟩ := C
  obtain ⟨h1, rfl⟩ := hd
  intro T locs vm X e0 N S w' A Kp ow
  have hZ' : Z'.Warmed39 (s.setVm vm).vm := State.Warmed39.trans (t := s) hZ S.1
  have hown' : (s.setVm vm).vm.findClass y.cls = some m.cls := (S.1.alike.findClass _ _).trans hown
  exact mov K X e0 N S w' A Kp ow (X.ldc2Long hx hown' (mvT hZ' w) (g := mkF m pc Ls st) rfl (hb hc' h1))
def Mr (Z : State) (C : String) (mr : Addr) : Prop := ∃ (c : ClassId) (k : Class), Z.vm.findClass C = some c ∧ Z.vm.classes[c]? = some k ∧ k.mirror = some mr
theorem Go.gcls {k : KT} (C : Ctx k l y bytes maxL ret R Z a0 EL wd wr h0 Q) {pc pc' i : Nat} {a mr : Addr} {Cn : String} (Ex : Exa Z h a Cn) (M : Mr Z Cn mr)
    (w1 : (Cond.methodLink y.cls i ⟨"java/lang/Object", "getClass", "()Ljava/lang/Class;"⟩).before a0 Z = true) (w2 : (Cond.declares ⟨"java/lang/Object", "getClass", "()Ljava/lang/Class;"⟩).before a0 Z = true) (w4 : (Cond.selects Cn ⟨"java/lang/Object", "getClass", "()Ljava/lang/Class;"⟩ ⟨"java/lang/Object", "getClass", "()Ljava/lang/Class;"⟩).before a0 Z = true) (w5 : (Cond.instanceMethod ⟨"java/lang/Object", "getClass", "()Ljava/lang/Class;"⟩).before a0 Z = true) (w6 : (Cond.native ⟨"java/lang/Object", "getClass", "()Ljava/lang/Class;"⟩).before a0 Z = true)
    (hd : De bytes pc (.invokevirtual i) 3 pc') (hsz : Ls.size = maxL) (hf : 1 ≤ R.frames) (hlo : (st.map fun v => v.category).sum + (nativeFrameWords "java/lang/Object" "getClass" 1 + 11) ≤ R.locals) (K : Go k h os cells slots pc' Ls (.ref mr :: st)) : Go k h os cells slots pc Ls (.ref a :: st) := by
  obtain ⟨p, l', e, R', s, m, args, below, meth, c, Z', EL', wd', wr', Q'⟩ := k
  obtain ⟨⟨rfl, rfl, rfl, rfl, rfl, rfl, rfl, rfl⟩, hx, hc', hml, hret, hlk, hnm, hZ, hown, hEL, hE, hwr⟩ := C
  obtain ⟨h1, rfl⟩ := hd
  intro T locs vm X e0 N S w A Kp ow
  have hZ' : Z'.Warmed39 (s.setVm vm).vm := State.Warmed39.trans (t := s) hZ S.1
  have hown' : (s.setVm vm).vm.findClass y.cls = some m.cls := (S.1.alike.findClass _ _).trans hown
  obtain ⟨cB, kB, i1, i2, i3⟩ := isOf hZ' e0 Ex
  obtain ⟨cc, kc, m1, m2, m3⟩ := M
  rw [hZ'.alike.findClass] at i1
  cases i1.symm.trans m1
  obtain ⟨k', q, ek⟩ := hZ'.alike.2.2 _ _ m2
  obtain ⟨vm', X', stp⟩ := X.getClassOf hx hown' (mvT hZ' w1) (mvT hZ' w2) (notFace_of_selects (args := #[]) (mvT hZ' w4)) (mvT hZ' w4) (mvT hZ' w5) (mvT hZ' w6) (by rw [hZ'.alike.findClass]; exact m1) i3 q (by rw [ek]; exact m3) (g := mkF m pc Ls (.ref a :: st)) rfl (hsz.trans hml.symm) rfl (hb hc' h1) hf (by show 2 * 0 + _ + _ ≤ _; omega)
  exact mov K X' (show (T.setVm vm').heap = h from e0) N S w A Kp ow stp
theorem Go.ldcCls {k : KT} (C : Ctx k l y bytes maxL ret R Z a0 EL wd wr h0 Q) {pc pc' i : Nat} {mr : Addr} {Cn : String} (M : Mr Z Cn mr) (w1 : (Cond.classLink y.cls i Cn).before a0 Z = true) (hd : De bytes pc (.ldc i) 2 pc') (K : Go k h os cells slots pc' Ls (.ref mr :: st)) : Go k h os cells slots pc Ls st := by
  obtain ⟨p, l', e, R', s, m, args, below, meth, c, Z', EL', wd', wr', Q'⟩ := k
  obtain ⟨⟨rfl, rfl, rfl, rfl, rfl, rfl, rfl, rfl⟩, hx, hc', hml, hret, hlk, hnm, hZ, hown, hEL, hE, hwr⟩ := C
  obtain ⟨h1, rfl⟩ := hd
  intro T locs vm X e0 N S w A Kp ow
  have hZ' : Z'.Warmed39 (s.setVm vm).vm := State.Warmed39.trans (t := s) hZ S.1
  have hown' : (s.setVm vm).vm.findClass y.cls = some m.cls := (S.1.alike.findClass _ _).trans hown
  obtain ⟨cc, kc, m1, m2, m3⟩ := M
  obtain ⟨k', q, ek⟩ := hZ'.alike.2.2 _ _ m2
  have hm : k'.mirror = some mr := by rw [ek]; exact m3
  have hf : (s.setVm vm).vm.findClass Cn = some cc := by rw [hZ'.alike.findClass]; exact m1
  have hf' : vm.findClass Cn = some cc := hf
  have q' : vm.classes[cc]? = some k' := q
  have hev : (Term.mirror Cn).eval args (s.setVm vm) none [] (s.setVm vm) = some (.ref mr) := by simp [Term.eval, hf', q', hm]
  obtain ⟨vm', X', stp⟩ := X.ldcMirror hx hown' (mvT hZ' w1) hev (g := mkF m pc Ls st) rfl (hb hc' h1)
  exact mov K X' (show (T.setVm vm').heap = h from e0) N S w A Kp ow stp
theorem Av.exa {Z : State} {h : Heap} {a : Addr} {ty : FieldType} {vs : List Value} (V : Av Z h a ty vs) (q : ty.isReference = false) : Exa Z h a ("[" ++ ty.toString) := by
  obtain ⟨k, z, ⟨c, A, r1, -⟩, -, e⟩ := V
  obtain ⟨h1, ⟨hs, kk, h2, comp, h3⟩, -⟩ := A
  refine ⟨c, kk, h1, by rw [r1]; exact e q, h2, ?_, fun w => by rw [h3] at w; cases w⟩
  cases hv : c.vm <;> first | rfl | exact absurd hv (hs _)
theorem Go.clone {k : KT} (C : Ctx k l y bytes maxL ret R Z a0 EL wd wr h0 Q) {pc pc' i : Nat} {a : Addr} {ty : FieldType} {vs : List Value} (V : Av Z h a ty vs) (hty : ty.isReference = false) {ad : String} (had : "[" ++ ty.toString = ad)
    (w1 : (Cond.methodLink y.cls i ⟨ad, "clone", "()Ljava/lang/Object;"⟩).before a0 Z = true) (w2 : (Cond.sameMethod ad "java/lang/Object" "clone" "()Ljava/lang/Object;").before a0 Z = true) (w3 : (Cond.native ⟨"java/lang/Object", "clone", "()Ljava/lang/Object;"⟩).before a0 Z = true) (w4 : (Cond.instanceMethod ⟨"java/lang/Object", "clone", "()Ljava/lang/Object;"⟩).before a0 Z = true) (w5 : (Cond.selects ad ⟨ad, "clone", "()Ljava/lang/Object;"⟩ ⟨"java/lang/Object", "clone", "()Ljava/lang/Object;"⟩).before a0 Z = true) (w6 : (Cond.castable ad "java/lang/Cloneable").before a0 Z = true)
    (hd : De bytes pc (.invokevirtual i) 3 pc') (hsz : Ls.size = maxL) (hf : 1 ≤ R.frames) (hlo : (st.map fun v => v.category).sum + 14 ≤ R.locals) {cap : Nat} (hcap : vs.length ≤ cap) (hc : cells + 1 ≤ R.cells) (hl : slots + cap ≤ R.slots)
    (K : ∀ (b : Addr) (h' : Heap), b = h.size → Keep h h' [] → Av Z h' b ty vs → Go k h' (b :: os) (cells + 1) (slots + cap) pc' Ls (.ref b :: st)) : Go k h os cells slots pc Ls (.ref a :: st) := by
  obtain ⟨p, l', e, R', s, m, args, below, meth, c, Z', EL', wd', wr', Q'⟩ := k
  obtain ⟨⟨rfl, rfl, rfl, rfl, rfl, rfl, rfl, rfl⟩, hx, hc', hml, hret, hlk, hnm, hZ, hown, hEL, hE, hwr⟩ := C
  obtain ⟨h1, rfl⟩ := hd
  intro T locs vm X e0 N S w A Kp ow
  have hZ' : Z'.Warmed39 (s.setVm vm).vm := State.Warmed39.trans (t := s) hZ S.1
  have hown' : (s.setVm vm).vm.findClass y.cls = some m.cls := (S.1.alike.findClass _ _).trans hown
  have Ex := V.exa hty
  rw [had] at Ex
  obtain ⟨kc, z, ⟨cl, Ar, r1, r2, r3, H, G⟩, ez, efc⟩ := V
  have FC : FitC Z' cl := fitC_of Ar fun i hi v hv => by rw [H i hi] at hv; cases hv; exact G i hi
  obtain ⟨T', h', X', e', E, A', E', stp⟩ := cloneA X hx hZ' hown' w1 w2 w3 w4 w5 w6 e0 Ar Ex FC (g := mkF m pc Ls (.ref a :: st)) rfl (hsz.trans hml.symm) rfl (hb hc' h1) hf (W := (st.map fun v => v.category).sum) (by show 2 * 0 + _ ≤ _; exact Nat.le_of_eq (Nat.zero_add _)) hlo (by rw [r2, ez]; exact hcap) hc hl
  exact mov (K h.size h' rfl (Keep.ofExt E) ⟨kc, z, ⟨cloneOf cl, A', r1, r2, r3, H, G⟩, ez, efc⟩) X' e' N (Since.up S E.1) w (A.trans (CHr.ext E A.1)) (Kp.ext E) (ownPush hE A Kp E A'.lt ow) stp
/-- a callee with an exception table that returns, under the wide frame: from its promise to what a caller needs -/
theorem backH {l : Launch} {R : Room} {p : Program} {e : Env} {below : List Frame} {s : State} {sargs : Array Value} {y : MethodName} {len W : Nat} {Pre : Pt → Array Value → Prop} {Post : Pt → Array Value → Option Value → Pt → Prop} {S : Spec} {P : Array Value → State → Prop} {Q : Array Value → State → Outcome → State → Prop} {bytes : ByteArray} {maxL : Nat} {ret : Option FieldType} {hs : List (Nat × Nat × Nat × Nat)}
    (hM : MetFree l y S P (fun _ _ _ _ _ => True) Q) (hfr : S.room.frames + 1 ≤ R.frames) (hlo : W + (maxL + 11) + S.room.locals ≤ R.locals)
    (hpre : ∀ m meth c (A : Pt) a, Stand p l e R s m sargs below meth c A.U A.locs A.cells A.slots → Pre A a → S.pre.before a A.U = true ∧ (Cond.codeWith y bytes maxL ret hs).before a A.U = true ∧ (Cond.initialized y.cls).before a A.U = true ∧ A.cells + S.room.cells ≤ R.cells ∧ A.slots + S.room.slots ≤ R.slots)
    (hP : ∀ m meth c (A : Pt) a (g : JFrame) mk, Stand p l e R s m sargs below meth c A.U A.locs A.cells A.slots → Pre A a → P a (A.U.calling g mk a))
    (hQ : ∀ m meth c (A : Pt) a (g : JFrame) mk o t, Stand p l e R s m sargs below meth c A.U A.locs A.cells A.slots → Pre A a → Q a (A.U.calling g mk a) o t → ∃ v L k n, o = .returned v ∧ ReturnedEndW (A.U.calling g mk a) o t L k n ∧ Post A a v ⟨(({ A.U with heap := t.heap, slotsUsed := t.slotsUsed } : State).setVm t.vm), A.locs ++ L, A.cells + k, A.slots + n⟩) :
    BackS l R p e below s sargs y len W Pre Post := by
  intro m meth c A g ig mk a X hg hsz hd hW hn hp
  obtain ⟨p1, p2, p3, p4, p5⟩ := hpre m meth c A a X hp
  obtain ⟨mk', mY, cY, hn', hmY, hcY, -, hl, -⟩ := Cond.codeWith_spec p2
  cases hn.symm.trans hn'
  obtain ⟨kY, hkY, -⟩ := className_of_methodNamed hn
  have here : At A.U g.method c below := hg ▸ X.here
  obtain ⟨mid, hmid⟩ := here.above
  have hfs : (A.U.setTop g).frames = (.java g :: mid) ++ below := by rw [State.frames_setTop' g here.top, hmid]; rfl
  obtain ⟨o, t, run, -, fin, q⟩ := Steps.callFree hM p X.admits X.cas X.clock (acts := []) hfs
    (Spec.appliesLoose_calling (g := g) here hd hn hkY (Cond.initialized_spec (findClass_of_methodNamed hn) hkY p3) (X.room_calling (g := g) (R' := S.room) hsz hmY hcY hfr (by rw [hl]; omega) p4 p5) p1) (hP m meth c A a g mk X hp) trivial
  obtain ⟨v, L, k, n, rfl, ⟨-, hw, hb', same⟩, post⟩ := hQ m meth c A a g mk o t X hp q
  obtain ⟨U, Ls, c0, s0⟩ := A
  dsimp only [Pt.U, Pt.locs, Pt.cells, Pt.slots] at *
  have hw' : U.Warmed39 t.vm := hw
  rw [State.frames_setTop' g here.top] at fin
  obtain ⟨c2, i2, n2, hc2, hd2, hf2⟩ := fin
  have ec : t.code? g.method = U.code? g.method := by rw [State.code?_eq, State.code?_eq, hw'.alike.method?]
  cases Option.some.inj (hc2.symm.trans (ec.trans here.code))
  cases (Except.ok.inj (hd.symm.trans hd2))
  obtain ⟨same1, q2, q3, q4, q5, q6⟩ := id same
  have et : t = ({ (U.calling g mk a).setFrames t.frames with heap := t.heap, slotsUsed := t.slotsUsed } : State).setVm t.vm := by
    have u : t = ({ t with vm := (U.calling g mk a).vm } : State).setVm t.vm := rfl
    rw [same1] at u; exact u
  obtain ⟨g0, hg0⟩ := Option.isSome_iff_exists.mp here.top
  obtain ⟨r, hr⟩ := State.topJava?_eq_some.mp hg0
  have fin' : t = (({ U with heap := t.heap, slotsUsed := t.slotsUsed } : State).setVm t.vm).setTop { g with pc := g.pc + len, stack := v.toList ++ g.stack } := by
    have hr' : (({ U with heap := t.heap, slotsUsed := t.slotsUsed } : State).setVm t.vm).frames = .java g0 :: r := hr
    refine et.trans ?_
    rw [hf2, State.calling_eq here.top, State.setFrames_setFrames, State.setTop_of_frames _ hr', hr]; rfl
  have news : U.sameButNew ({ U with heap := t.heap, slotsUsed := t.slotsUsed } : State) L k n := by
    obtain ⟨th, hth, -⟩ := State.frames_cons hr
    exact ⟨by show ({ U with heap := t.heap, slotsUsed := t.slotsUsed } : State) = { U.setFrames U.frames with heap := t.heap, slotsUsed := t.slotsUsed }; rw [State.setFrames_self hth], q2, q3, q4, q5, q6⟩
  subst hg
  obtain ⟨X', since⟩ := X.movedW (T₂ := ({ U with heap := t.heap, slotsUsed := t.slotsUsed } : State).setVm t.vm) ((X.here.setHeapUsed t.heap t.slotsUsed).setVm hw'.alike) X.tail rfl rfl hw' hb' news
  exact ⟨v, ⟨({ U with heap := t.heap, slotsUsed := t.slotsUsed } : State).setVm t.vm, Ls ++ L, c0 + k, s0 + n⟩, X', since, q2, post, fin' ▸ run⟩
/-- a callee's contract, as its caller takes it -/
theorem conBack {p : Program} {e : Env} {s : State} {args : Array Value} {below : List Frame} {z : MethodName} {bz : ByteArray} {mz : Nat} {rz : Option FieldType} {rm : Room} {as' : Array Value} {wr' : List Addr} {Q' : QT} {vm : Vm} {len W : Nat}
    (M : Con l Z EL wd z bz mz rz rm [] as' h wr' Q') (hZ : Z.Warmed39 vm) (wc : (Cond.code z bz mz rz).before a0 Z = true) (wz : (Cond.initialized z.cls).before a0 Z = true) (hf : rm.frames + 1 ≤ R.frames) (hl : W + (mz + 11) + rm.locals ≤ R.locals) (hEL : EW Z a0 EL) (H : CHv Z EL vm h) (hE : Ext Z.heap h) (hs : ∀ x ∈ wr', Safe Z EL vm h x ∧ Z.heap.size ≤ x ∧ x < h.size) :
    BackS l R p e below (s.setVm vm) args z len W (fun A a => a = as' ∧ A.U.heap = h ∧ A.cells + rm.cells ≤ R.cells ∧ A.slots + rm.slots ≤ R.slots)
      (fun A _ v B => ∃ L os, Q' v B.U.heap os ∧ (∀ x ∈ os, Safe Z EL B.U.vm B.U.heap x ∧ h.size ≤ x ∧ x < B.U.heap.size) ∧ Keep h B.U.heap wr' ∧ Fr Z.heap.size L ∧ CHr Z EL vm h B.U.vm B.U.heap ∧ (wd = false → (s.setVm vm).WarmedH B.U.vm) ∧ B.locs = A.locs ++ L ∧ B.cells = A.cells + rm.cells ∧ B.slots = A.slots + rm.slots) :=
  BackS.of_freeW (bytes := bz) (maxL := mz) (ret := rz) (E := fun _ first o t L k n => k = rm.cells ∧ n = rm.slots ∧ (∃ v os, o = .returned v ∧ Q' v t.heap os ∧ (∀ x ∈ os, Safe Z EL t.vm t.heap x ∧ first.heap.size ≤ x ∧ x < t.heap.size) ∧ Keep first.heap t.heap wr' ∧ Fr Z.heap.size L) ∧ CHr Z EL first.vm first.heap t.vm t.heap ∧ (wd = false → first.WarmedH t.vm)) M hf hl
    (fun m meth c A a Y hp => have hU : Z.Warmed39 A.U.vm := wtrans (s := s.setVm vm) hZ Y.warmed
      ⟨by show (Cond.and _ .tt).before a A.U = true; rw [Cond.before_and, mv hU wc]; rfl, mv hU wc, mv hU wz, hp.2.2.1, hp.2.2.2⟩)
    (fun m meth c A a g mk Y hp => ⟨hp.1, wtrans (s := s.setVm vm) hZ Y.warmed, hp.2.1, (CHv.at Y hZ hEL H).1, hE, fun x hx => ⟨(CHv.at Y hZ hEL H).safe (hs x hx).2.2 (hs x hx).1, (hs x hx).2⟩⟩) (fun _ _ _ _ _ _ _ _ _ => trivial)
    (fun _ _ _ _ ⟨v, L, os, h1, h2, h3, h4, h5, h6, h7, h8⟩ => ⟨L, _, _, h7, rfl, rfl, ⟨v, os, h1, h2, h3, h4, h5⟩, h6, fun q => (h8 q).2.1⟩)
    (fun m meth c A a g mk v t L k n Y hp _ _ ⟨e1, e2, ⟨v', os, e3, e4, e5, e6, e7⟩, e8, e9⟩ => by
      cases e3; subst e1 e2
      have eh : (A.U.calling g mk a).heap = h := hp.2.1
      rw [eh] at e6 e8
      refine ⟨L, os, e4, fun x hx => ?_, e6, e7, (CHv.at Y hZ hEL H).trans e8, fun q => State.WarmedH.trans Y.warmed (e9 q), rfl, rfl, rfl⟩
      have := e5 x hx
      rw [eh] at this; exact this)
def ConH (l : Launch) (Z : State) (EL : List (String × Nat)) (wd : Bool) (y : MethodName) (bytes : ByteArray) (maxL : Nat) (ret : Option FieldType) (hh : List (Nat × Nat × Nat × Nat)) (rm : Room) (as' : Array Value) (h : Heap) (wr : List Addr) (Q : QT) : Prop :=
  MetFree l y (head1 [Cond.codeWith y bytes maxL ret hh] rm) (fun a U => a = as' ∧ Z.Warmed39 U.vm ∧ U.heap = h ∧ CHv Z EL U.vm h ∧ Ext Z.heap h ∧ ∀ x ∈ wr, Safe Z EL U.vm h x ∧ Z.heap.size ≤ x ∧ x < h.size) (fun _ _ _ _ _ => True)
    (fun _ U o U' => Done Z EL wd rm wr Q U o U')
theorem conBackH {p : Program} {e : Env} {s : State} {args : Array Value} {below : List Frame} {z : MethodName} {bz : ByteArray} {mz : Nat} {rz : Option FieldType} {hh : List (Nat × Nat × Nat × Nat)} {rm : Room} {as' : Array Value} {wr' : List Addr} {Q' : QT} {vm : Vm} {len W : Nat}
    (M : ConH l Z EL wd z bz mz rz hh rm as' h wr' Q') (hZ : Z.Warmed39 vm) (wc : (Cond.codeWith z bz mz rz hh).before a0 Z = true) (wz : (Cond.initialized z.cls).before a0 Z = true) (hf : rm.frames + 1 ≤ R.frames) (hl : W + (mz + 11) + rm.locals ≤ R.locals) (hEL : EW Z a0 EL) (H : CHv Z EL vm h) (hE : Ext Z.heap h) (hs : ∀ x ∈ wr', Safe Z EL vm h x ∧ Z.heap.size ≤ x ∧ x < h.size) :
    BackS l R p e below (s.setVm vm) args z len W (fun A a => a = as' ∧ A.U.heap = h ∧ A.cells + rm.cells ≤ R.cells ∧ A.slots + rm.slots ≤ R.slots)
      (fun A _ v B => ∃ L os, Q' v B.U.heap os ∧ (∀ x ∈ os, Safe Z EL B.U.vm B.U.heap x ∧ h.size ≤ x ∧ x < B.U.heap.size) ∧ Keep h B.U.heap wr' ∧ Fr Z.heap.size L ∧ CHr Z EL vm h B.U.vm B.U.heap ∧ (wd = false → (s.setVm vm).WarmedH B.U.vm) ∧ B.locs = A.locs ++ L ∧ B.cells = A.cells + rm.cells ∧ B.slots = A.slots + rm.slots) :=
  backH (bytes := bz) (maxL := mz) (ret := rz) (hs := hh) M hf hl
    (fun m meth c A a Y hp => have hU : Z.Warmed39 A.U.vm := wtrans (s := s.setVm vm) hZ Y.warmed
      ⟨by show (Cond.and _ .tt).before a A.U = true; rw [Cond.before_and, mv hU wc]; rfl, mv hU wc, mv hU wz, hp.2.2.1, hp.2.2.2⟩)
    (fun m meth c A a g mk Y hp => ⟨hp.1, wtrans (s := s.setVm vm) hZ Y.warmed, hp.2.1, (CHv.at Y hZ hEL H).1, hE, fun x hx => ⟨(CHv.at Y hZ hEL H).safe (hs x hx).2.2 (hs x hx).1, (hs x hx).2⟩⟩)
    (fun m meth c A a g mk o t Y hp ⟨v, L, os, h1, h2, h3, h4, h5, h6, h7, h8⟩ => by
      have eh : (A.U.calling g mk a).heap = h := hp.2.1
      rw [eh] at h4 h6
      refine ⟨v, L, rm.cells, rm.slots, h1, h7, L, os, h2, fun x hx => ?_, h4, h5, (CHv.at Y hZ hEL H).trans h6, fun q => State.WarmedH.trans Y.warmed (h8 q).2.1, rfl, rfl, rfl⟩
      have := h3 x hx
      rw [eh] at this; exact this)
theorem afterCall {p : Program} {e : Env} {s : State} {m : MethodId} {args : Array Value} {below : List Frame} {meth : Method} {c : Code} {T : State} {locs : List Loc} {vm : Vm} {rm : Room} {wr' : List Addr} {Q' : QT} {pc pc' : Nat} {st0 : List Value} {v : Option Value} {B : Pt} {L : List Loc} {os' : List Addr}
    (N : Fr Z.heap.size locs) (S : s.Since vm h.size) (w : wd = false → s.WarmedH vm) (A : CHr Z EL s.vm s.heap vm h) (Kp : Keep s.heap h wr) (hE : Ext Z.heap s.heap) (ow : ∀ x ∈ os, Own Z s.heap EL wr vm h x) (how : ∀ x ∈ wr', x ∈ os)
    (K : Go ⟨p, l, e, R, s, m, args, below, meth, c, Z, EL, wd, wr, Q⟩ B.U.heap (os' ++ os) (cells + rm.cells) (slots + rm.slots) pc' Ls (v.toList ++ st))
    (X' : Stand p l e R ((s.setVm vm).setVm B.U.vm) m args below meth c B.U B.locs B.cells B.slots) (hS : (s.setVm vm).Since B.U.vm B.U.heap.size) (hgr : h.size ≤ B.U.heap.size)
    (q2 : ∀ x ∈ os', Safe Z EL B.U.vm B.U.heap x ∧ h.size ≤ x ∧ x < B.U.heap.size) (q3 : Keep h B.U.heap wr') (q4 : Fr Z.heap.size L) (q5 : CHr Z EL vm h B.U.vm B.U.heap) (q6 : wd = false → (s.setVm vm).WarmedH B.U.vm) (q7 : B.locs = locs ++ L) (q8 : B.cells = cells + rm.cells) (q9 : B.slots = slots + rm.slots)
    (stp : Steps p.tables e below (T.setTop (mkF m pc Ls st0)) (B.U.setTop (mkF m pc' Ls (v.toList ++ st)))) : Fen p e below (Done Z EL wd R wr Q s) (T.setTop (mkF m pc Ls st0)) := by
  rw [q7, q8, q9] at X'
  refine mov (vm' := B.U.vm) K X' rfl (N.app q4) (S.trans hS hgr) (fun q => State.WarmedH.trans (w q) (q6 q)) (A.trans q5) (keepOs Kp q3 ow how) (fun x hx => ?_) (fun t kt => stp.trans kt)
  rcases List.mem_append.mp hx with hx | hx
  · obtain ⟨z1, z2, z3⟩ := q2 x hx
    exact ⟨z1, Nat.le_trans hE.1 (Nat.le_trans Kp.1 z2), z3, Or.inr (Nat.le_trans Kp.1 z2)⟩
  · exact (ow x hx).chr q5
theorem Go.callS {k : KT} (C : Ctx k l y bytes maxL ret R Z a0 EL wd wr h0 Q) {pc pc' : Nat} {i : Nat} {z : MethodName} {bz : ByteArray} {mz : Nat} {rz : Option FieldType} {rm : Room} {wr' : List Addr} {Q' : QT} {argsL : List Value} {ps : List FieldType} {rr : Option FieldType}
    (M : Con l Z EL wd z bz mz rz rm [] argsL.toArray h wr' Q') (w1 : (Cond.methodLink y.cls i z).before a0 Z = true) (w2 : (Cond.static z).before a0 Z = true) (w3 : (Cond.initialized z.cls).before a0 Z = true) (w4 : (Cond.code z bz mz rz).before a0 Z = true) (hd : De bytes pc (.invokestatic i) 3 pc') (hpd : parseMethodDescriptor z.desc = some ⟨ps, rr⟩) (hln : argsL.length = ps.length) (hmh : z.cls ≠ "java/lang/invoke/MethodHandle" ∧ z.cls ≠ "java/lang/invoke/VarHandle") (hsz : Ls.size = maxL) {st0 : List Value} (hst : st0 = argsL.reverse ++ st) (hfr : rm.frames + 1 ≤ R.frames) (hlo : (st.map fun v => v.category).sum + (mz + 11) + rm.locals ≤ R.locals) (hce : cells + rm.cells ≤ R.cells) (hsl : slots + rm.slots ≤ R.slots) (how : ∀ x ∈ wr', x ∈ os)
    (K : ∀ (v : Option Value) (h' : Heap) (os' : List Addr), Q' v h' os' → Keep h h' wr' → (∀ x ∈ os', h.size ≤ x ∧ x < h'.size) → Go k h' (os' ++ os) (cells + rm.cells) (slots + rm.slots) pc' Ls (v.toList ++ st)) : Go k h os cells slots pc Ls st0 := by
  obtain ⟨p, l', e, R', s, m, args, below, meth, c, Z', EL', wd', wr', Q'⟩ := k
  obtain ⟨⟨rfl, rfl, rfl, rfl, rfl, rfl, rfl, rfl⟩, hx, hc', hml, hret, hlk, hnm, hZ, hown, hEL, hE, hwr⟩ := C
  obtain ⟨h1, rfl⟩ := hd
  intro T locs vm X e0 N S w' A Kp ow
  have hZ' : Z'.Warmed39 (s.setVm vm).vm := State.Warmed39.trans (t := s) hZ S.1
  have hown' : (s.setVm vm).vm.findClass y.cls = some m.cls := (S.1.alike.findClass _ _).trans hown
  subst hst
  obtain ⟨v, vm₁, B, -, X', hS, hgr, hpost, stp⟩ := callSS X hx hown' (mvT hZ' w1) (mvT hZ' w2) (mvT hZ' w3) (mvT hZ' w4) hmh (conBack (p := p) (e := e) (below := below) (s := s) (args := args) M hZ' w4 w3 hfr hlo hEL A.1 (ext0 hE Kp hwr) (fun x hx => ⟨(ow x (how x hx)).1, (ow x (how x hx)).2.1, (ow x (how x hx)).2.2.1⟩)) (g := mkF m pc Ls (argsL.reverse ++ st)) rfl (hsz.trans hml.symm) (argsL := argsL) (rest := st) (lenOf hpd hln) rfl (by show 2 * 0 + _ ≤ _; exact Nat.le_of_eq (Nat.zero_add _)) (hb hc' h1) (fun _ _ => ⟨rfl, e0, hce, hsl⟩)
  obtain ⟨L, os', q1, q2, q3, q4, q5, q6, q7, q8, q9⟩ := hpost
  exact afterCall (Q' := Q') (rm := rm) N S w' A Kp hE ow how (K v B.U.heap os' q1 q3 fun x hx => (q2 x hx).2) X' hS (e0 ▸ hgr) q2 q3 q4 q5 q6 q7 q8 q9 stp
theorem Go.callI {k : KT} (C : Ctx k l y bytes maxL ret R Z a0 EL wd wr h0 Q) {pc pc' : Nat} {i : Nat} {a : Addr} {z : MethodName} {bz : ByteArray} {mz : Nat} {rm : Room} {wr' : List Addr} {Q' : QT} {argsL : List Value} {ps : List FieldType} {rr : Option FieldType}
    (M : Con l Z EL wd z bz mz none rm [] (.ref a :: argsL).toArray h wr' Q') (hin : z.name = "<init>") (w1 : (Cond.methodLink y.cls i z).before a0 Z = true) (w2 : (Cond.instanceMethod z).before a0 Z = true) (w3 : (Cond.initialized z.cls).before a0 Z = true) (w4 : (Cond.code z bz mz none).before a0 Z = true) (hd : De bytes pc (.invokespecial i) 3 pc') (hpd : parseMethodDescriptor z.desc = some ⟨ps, rr⟩) (hln : argsL.length = ps.length) (hmh : z.cls ≠ "java/lang/invoke/MethodHandle" ∧ z.cls ≠ "java/lang/invoke/VarHandle") (hsz : Ls.size = maxL) {st0 : List Value} (hst : st0 = argsL.reverse ++ .ref a :: st) (hfr : rm.frames + 1 ≤ R.frames) (hlo : (st.map fun v => v.category).sum + (mz + 11) + rm.locals ≤ R.locals) (hce : cells + rm.cells ≤ R.cells) (hsl : slots + rm.slots ≤ R.slots) (how : ∀ x ∈ wr', x ∈ os)
    (K : ∀ (v : Option Value) (h' : Heap) (os' : List Addr), Q' v h' os' → Keep h h' wr' → (∀ x ∈ os', h.size ≤ x ∧ x < h'.size) → Go k h' (os' ++ os) (cells + rm.cells) (slots + rm.slots) pc' Ls (v.toList ++ st)) : Go k h os cells slots pc Ls st0 := by
  obtain ⟨p, l', e, R', s, m, args, below, meth, c, Z', EL', wd', wr', Q'⟩ := k
  obtain ⟨⟨rfl, rfl, rfl, rfl, rfl, rfl, rfl, rfl⟩, hx, hc', hml, hret, hlk, hnm, hZ, hown, hEL, hE, hwr⟩ := C
  obtain ⟨h1, rfl⟩ := hd
  intro T locs vm X e0 N S w' A Kp ow
  have hZ' : Z'.Warmed39 (s.setVm vm).vm := State.Warmed39.trans (t := s) hZ S.1
  have hown' : (s.setVm vm).vm.findClass y.cls = some m.cls := (S.1.alike.findClass _ _).trans hown
  subst hst
  obtain ⟨v, vm₁, B, -, X', hS, hgr, hpost, stp⟩ := X.specialBackS hx hin hown' (mvT hZ' w1) (mvT hZ' w2) (mvT hZ' w4) hmh (conBack (p := p) (e := e) (below := below) (s := s) (args := args) M hZ' w4 w3 hfr hlo hEL A.1 (ext0 hE Kp hwr) (fun x hx => ⟨(ow x (how x hx)).1, (ow x (how x hx)).2.1, (ow x (how x hx)).2.2.1⟩)) (g := mkF m pc Ls (argsL.reverse ++ .ref a :: st)) rfl (hsz.trans hml.symm) (Steps.refl _) (a := a) (argsL := argsL) (rest := st) (lenOf hpd hln) rfl (by show 2 * 0 + _ ≤ _; exact Nat.le_of_eq (Nat.zero_add _)) (hb hc' h1) (fun _ _ => ⟨rfl, e0, hce, hsl⟩)
  obtain ⟨L, os', q1, q2, q3, q4, q5, q6, q7, q8, q9⟩ := hpost
  exact afterCall (Q' := Q') (rm := rm) N S w' A Kp hE ow how (K v B.U.heap os' q1 q3 fun x hx => (q2 x hx).2) X' hS (e0 ▸ hgr) q2 q3 q4 q5 q6 q7 q8 q9 stp
theorem Go.callV {k : KT} (C : Ctx k l y bytes maxL ret R Z a0 EL wd wr h0 Q) {pc pc' : Nat} {i : Nat} {a : Addr} {Cn : String} {zr : MethodName} {z : MethodName} {bz : ByteArray} {mz : Nat} {rz : Option FieldType} {rm : Room} {wr' : List Addr} {Q' : QT} {argsL : List Value} {ps : List FieldType} {rr : Option FieldType}
    (M : Con l Z EL wd z bz mz rz rm [] (.ref a :: argsL).toArray h wr' Q') (Ex : Exa Z h a Cn) (w1 : (Cond.methodLink y.cls i zr).before a0 Z = true) (wd1 : (Cond.declares zr).before a0 Z = true) (nf : ∀ {s : State}, Z.Warmed39 s.vm → NotFace s zr) (ws : (Cond.selects Cn zr z).before a0 Z = true) (w2 : (Cond.instanceMethod z).before a0 Z = true) (w3 : (Cond.initialized z.cls).before a0 Z = true) (w4 : (Cond.code z bz mz rz).before a0 Z = true) (hd : De bytes pc (.invokevirtual i) 3 pc') (hpd : parseMethodDescriptor zr.desc = some ⟨ps, rr⟩) (hln : argsL.length = ps.length) (hmh : zr.cls ≠ "java/lang/invoke/MethodHandle" ∧ zr.cls ≠ "java/lang/invoke/VarHandle") (hsz : Ls.size = maxL) {st0 : List Value} (hst : st0 = argsL.reverse ++ .ref a :: st) (hfr : rm.frames + 1 ≤ R.frames) (hlo : (st.map fun v => v.category).sum + (mz + 11) + rm.locals ≤ R.locals) (hce : cells + rm.cells ≤ R.cells) (hsl : slots + rm.slots ≤ R.slots) (how : ∀ x ∈ wr', x ∈ os)
    (K : ∀ (v : Option Value) (h' : Heap) (os' : List Addr), Q' v h' os' → Keep h h' wr' → (∀ x ∈ os', h.size ≤ x ∧ x < h'.size) → Go k h' (os' ++ os) (cells + rm.cells) (slots + rm.slots) pc' Ls (v.toList ++ st)) : Go k h os cells slots pc Ls st0 := by
  obtain ⟨p, l', e, R', s, m, args, below, meth, c, Z', EL', wd', wr', Q'⟩ := k
  obtain ⟨⟨rfl, rfl, rfl, rfl, rfl, rfl, rfl, rfl⟩, hx, hc', hml, hret, hlk, hnm, hZ, hown, hEL, hE, hwr⟩ := C
  obtain ⟨h1, rfl⟩ := hd
  intro T locs vm X e0 N S w' A Kp ow
  have hZ' : Z'.Warmed39 (s.setVm vm).vm := State.Warmed39.trans (t := s) hZ S.1
  have hown' : (s.setVm vm).vm.findClass y.cls = some m.cls := (S.1.alike.findClass _ _).trans hown
  subst hst
  obtain ⟨cq, kq, q1a, q1b, q1c⟩ := isOf hZ' e0 Ex
  obtain ⟨v, vm₁, B, -, X', hS, hgr, hpost, stp⟩ := X.virtualBackS hx hown' (mvT hZ' w1) (mvT hZ' wd1) (nf hZ') (mvT hZ' ws) (mvT hZ' w2) hmh (conBack (p := p) (e := e) (below := below) (s := s) (args := args) M hZ' w4 w3 hfr hlo hEL A.1 (ext0 hE Kp hwr) (fun x hx => ⟨(ow x (how x hx)).1, (ow x (how x hx)).2.1, (ow x (how x hx)).2.2.1⟩)) q1a q1c (g := mkF m pc Ls (argsL.reverse ++ .ref a :: st)) rfl (hsz.trans hml.symm) (Steps.refl _) (argsL := argsL) (rest := st) (lenOf hpd hln) rfl (by show 2 * 0 + _ ≤ _; exact Nat.le_of_eq (Nat.zero_add _)) (hb hc' h1) (fun _ _ => ⟨rfl, e0, hce, hsl⟩)
  obtain ⟨L, os', q1, q2, q3, q4, q5, q6, q7, q8, q9⟩ := hpost
  exact afterCall (Q' := Q') (rm := rm) N S w' A Kp hE ow how (K v B.U.heap os' q1 q3 fun x hx => (q2 x hx).2) X' hS (e0 ▸ hgr) q2 q3 q4 q5 q6 q7 q8 q9 stp
theorem Go.callVH {k : KT} (C : Ctx k l y bytes maxL ret R Z a0 EL wd wr h0 Q) {pc pc' : Nat} {i : Nat} {a : Addr} {Cn : String} {zr : MethodName} {z : MethodName} {bz : ByteArray} {mz : Nat} {rz : Option FieldType} {hh : List (Nat × Nat × Nat × Nat)} {rm : Room} {wr' : List Addr} {Q' : QT} {argsL : List Value} {ps : List FieldType} {rr : Option FieldType}
    (M : ConH l Z EL wd z bz mz rz hh rm (.ref a :: argsL).toArray h wr' Q') (Ex : Exa Z h a Cn) (w1 : (Cond.methodLink y.cls i zr).before a0 Z = true) (wd1 : (Cond.declares zr).before a0 Z = true) (nf : ∀ {s : State}, Z.Warmed39 s.vm → NotFace s zr) (ws : (Cond.selects Cn zr z).before a0 Z = true) (w2 : (Cond.instanceMethod z).before a0 Z = true) (w3 : (Cond.initialized z.cls).before a0 Z = true) (w4 : (Cond.codeWith z bz mz rz hh).before a0 Z = true) (hd : De bytes pc (.invokevirtual i) 3 pc') (hpd : parseMethodDescriptor zr.desc = some ⟨ps, rr⟩) (hln : argsL.length = ps.length) (hmh : zr.cls ≠ "java/lang/invoke/MethodHandle" ∧ zr.cls ≠ "java/lang/invoke/VarHandle") (hsz : Ls.size = maxL) {st0 : List Value} (hst : st0 = argsL.reverse ++ .ref a :: st) (hfr : rm.frames + 1 ≤ R.frames) (hlo : (st.map fun v => v.category).sum + (mz + 11) + rm.locals ≤ R.locals) (hce : cells + rm.cells ≤ R.cells) (hsl : slots + rm.slots ≤ R.slots) (how : ∀ x ∈ wr', x ∈ os)
    (K : ∀ (v : Option Value) (h' : Heap) (os' : List Addr), Q' v h' os' → Keep h h' wr' → (∀ x ∈ os', h.size ≤ x ∧ x < h'.size) → Go k h' (os' ++ os) (cells + rm.cells) (slots + rm.slots) pc' Ls (v.toList ++ st)) : Go k h os cells slots pc Ls st0 := by
  obtain ⟨p, l', e, R', s, m, args, below, meth, c, Z', EL', wd', wr', Q'⟩ := k
  obtain ⟨⟨rfl, rfl, rfl, rfl, rfl, rfl, rfl, rfl⟩, hx, hc', hml, hret, hlk, hnm, hZ, hown, hEL, hE, hwr⟩ := C
  obtain ⟨h1, rfl⟩ := hd
  intro T locs vm X e0 N S w' A Kp ow
  have hZ' : Z'.Warmed39 (s.setVm vm).vm := State.Warmed39.trans (t := s) hZ S.1
  have hown' : (s.setVm vm).vm.findClass y.cls = some m.cls := (S.1.alike.findClass _ _).trans hown
  subst hst
  obtain ⟨cq, kq, q1a, q1b, q1c⟩ := isOf hZ' e0 Ex
  obtain ⟨v, vm₁, B, -, X', hS, hgr, hpost, stp⟩ := X.virtualBackS hx hown' (mvT hZ' w1) (mvT hZ' wd1) (nf hZ') (mvT hZ' ws) (mvT hZ' w2) hmh (conBackH (p := p) (e := e) (below := below) (s := s) (args := args) M hZ' w4 w3 hfr hlo hEL A.1 (ext0 hE Kp hwr) (fun x hx => ⟨(ow x (how x hx)).1, (ow x (how x hx)).2.1, (ow x (how x hx)).2.2.1⟩)) q1a q1c (g := mkF m pc Ls (argsL.reverse ++ .ref a :: st)) rfl (hsz.trans hml.symm) (Steps.refl _) (argsL := argsL) (rest := st) (lenOf hpd hln) rfl (by show 2 * 0 + _ ≤ _; exact Nat.le_of_eq (Nat.zero_add _)) (hb hc' h1) (fun _ _ => ⟨rfl, e0, hce, hsl⟩)
  obtain ⟨L, os', q1, q2, q3, q4, q5, q6, q7, q8, q9⟩ := hpost
  exact afterCall (Q' := Q') (rm := rm) N S w' A Kp hE ow how (K v B.U.heap os' q1 q3 fun x hx => (q2 x hx).2) X' hS (e0 ▸ hgr) q2 q3 q4 q5 q6 q7 q8 q9 stp
theorem Go.callP {k : KT} (C : Ctx k l y bytes maxL ret R Z a0 EL wd wr h0 Q) {pc pc' : Nat} {i : Nat} {a : Addr} {Cn : String} {z : MethodName} {bz : ByteArray} {mz : Nat} {rz : Option FieldType} {rm : Room} {wr' : List Addr} {Q' : QT} {argsL : List Value} {ps : List FieldType} {rr : Option FieldType}
    (M : Con l Z EL wd z bz mz rz rm [] (.ref a :: argsL).toArray h wr' Q') (Ex : Exa Z h a Cn) (w1 : (Cond.methodLink y.cls i z).before a0 Z = true) (w2 : (Cond.instanceMethod z).before a0 Z = true) (ws : (Cond.selects z.cls z z).before a0 Z = true) (wp : (Cond.privateMethod z).before a0 Z = true) (w3 : (Cond.initialized z.cls).before a0 Z = true) (w4 : (Cond.code z bz mz rz).before a0 Z = true) (hd : De bytes pc (.invokevirtual i) 3 pc') (hpd : parseMethodDescriptor z.desc = some ⟨ps, rr⟩) (hln : argsL.length = ps.length) (hmh : z.cls ≠ "java/lang/invoke/MethodHandle" ∧ z.cls ≠ "java/lang/invoke/VarHandle") (hsz : Ls.size = maxL) {st0 : List Value} (hst : st0 = argsL.reverse ++ .ref a :: st) (hfr : rm.frames + 1 ≤ R.frames) (hlo : (st.map fun v => v.category).sum + (mz + 11) + rm.locals ≤ R.locals) (hce : cells + rm.cells ≤ R.cells) (hsl : slots + rm.slots ≤ R.slots) (how : ∀ x ∈ wr', x ∈ os)
    (K : ∀ (v : Option Value) (h' : Heap) (os' : List Addr), Q' v h' os' → Keep h h' wr' → (∀ x ∈ os', h.size ≤ x ∧ x < h'.size) → Go k h' (os' ++ os) (cells + rm.cells) (slots + rm.slots) pc' Ls (v.toList ++ st)) : Go k h os cells slots pc Ls st0 := by
  obtain ⟨p, l', e, R', s, m, args, below, meth, c, Z', EL', wd', wr', Q'⟩ := k
  obtain ⟨⟨rfl, rfl, rfl, rfl, rfl, rfl, rfl, rfl⟩, hx, hc', hml, hret, hlk, hnm, hZ, hown, hEL, hE, hwr⟩ := C
  obtain ⟨h1, rfl⟩ := hd
  intro T locs vm X e0 N S w' A Kp ow
  have hZ' : Z'.Warmed39 (s.setVm vm).vm := State.Warmed39.trans (t := s) hZ S.1
  have hown' : (s.setVm vm).vm.findClass y.cls = some m.cls := (S.1.alike.findClass _ _).trans hown
  subst hst
  obtain ⟨cq, q1a, q1b⟩ := Ex.cell
  obtain ⟨v, vm₁, B, -, X', hS, hgr, hpost, stp⟩ := X.privateBackS hx hown' (mvT hZ' w1) (mvT hZ' w2) (mvT hZ' ws) (Cond.privateMethod_at (mvP hZ' wp (args := #[]))) (mvT hZ' w4) hmh (conBack (p := p) (e := e) (below := below) (s := s) (args := args) M hZ' w4 w3 hfr hlo hEL A.1 (ext0 hE Kp hwr) (fun x hx => ⟨(ow x (how x hx)).1, (ow x (how x hx)).2.1, (ow x (how x hx)).2.2.1⟩)) (g := mkF m pc Ls (argsL.reverse ++ .ref a :: st)) rfl (hsz.trans hml.symm) (Steps.refl _) (a := a) (by rw [e0]; exact q1a) q1b (argsL := argsL) (rest := st) (lenOf hpd hln) rfl (by show 2 * 0 + _ ≤ _; exact Nat.le_of_eq (Nat.zero_add _)) (hb hc' h1) (fun _ _ => ⟨rfl, e0, hce, hsl⟩)
  obtain ⟨L, os', q1, q2, q3, q4, q5, q6, q7, q8, q9⟩ := hpost
  exact afterCall (Q' := Q') (rm := rm) N S w' A Kp hE ow how (K v B.U.heap os' q1 q3 fun x hx => (q2 x hx).2) X' hS (e0 ▸ hgr) q2 q3 q4 q5 q6 q7 q8 q9 stp
theorem Go.ireturn {k : KT} {x x' : Int32} {t : FieldType} (C : Ctx k l y bytes maxL (some t) R Z a0 EL wd wr h0 Q) {pc pc' : Nat} (hd : De bytes pc .ireturn 1 pc') (hce : cells ≤ R.cells) (hsl : slots ≤ R.slots) (ht : t = .int ∨ t = .boolean ∨ t = .byte ∨ t = .char ∨ t = .short) (hn : nar t x = x') (os' : List Addr) (ho : ∀ x ∈ os', x ∈ os ∧ h0.size ≤ x) (q : Q (some (.int x')) h os') : Go k h os cells slots pc Ls (.int x :: st) := by
  obtain ⟨p, l', e, R', s, m, args, below, meth, c, Z', EL', wd', wr', Q'⟩ := k
  obtain ⟨⟨rfl, rfl, rfl, rfl, rfl, rfl, rfl, rfl⟩, hx, hc', hml, hret, hlk, hnm, hZ, hown, hEL, hE, hwr⟩ := C
  obtain ⟨h1, rfl⟩ := hd
  intro T locs vm X e0 N S w' A Kp ow
  have hZ' : Z'.Warmed39 (s.setVm vm).vm := State.Warmed39.trans (t := s) hZ S.1
  obtain ⟨fs, hr, g1, g2, hW, hs0⟩ := X.leave (v := (some (.int x'))) (fun h => by rw [hret] at h; cases h) hlk
  obtain ⟨r1, r2, r3⟩ := S.ended (U := T.setFrames fs) hW (Nat.le_of_eq (by rw [← e0]; rfl)) hs0
  have Ch := A.trans (CHv.at X hZ' hEL A.1)
  refine ⟨T.setFrames fs, _, ?_, g1, g2, (some (.int x')), locs, os', rfl, ?_, ?_, ?_, N, ?_, ⟨⟨_, rfl⟩, r1, r2, r3.mono hce hsl⟩, fun q => ⟨⟨_, rfl⟩, State.WarmedH.trans (w' q) hW, r3.mono hce hsl⟩⟩
  · subst hn
    rcases ht with rfl | ht
    · exact retOut X hx hret rfl (Or.inl ⟨rfl, Or.inl rfl, _, rfl⟩) (hb hc' h1) hr
    · exact retN X hx hret ht (hb hc' h1) hr
  · show Q' _ T.heap os'
    rw [e0]; exact q
  · intro x hx
    obtain ⟨z1, z2⟩ := ho x hx
    obtain ⟨o1, o2, o3, o4⟩ := ow x z1
    show Safe Z' EL' T.vm T.heap x ∧ s.heap.size ≤ x ∧ x < T.heap.size
    rw [e0]
    exact ⟨(CHv.at X hZ' hEL A.1).safe o3 o1, z2, o3⟩
  · show Keep s.heap T.heap wr'
    rw [e0]; exact Kp
  · show CHr Z' EL' s.vm s.heap T.vm T.heap
    rw [e0]; exact Ch
theorem Go.lreturn {k : KT} {x : Int64} (C : Ctx k l y bytes maxL (some .long) R Z a0 EL wd wr h0 Q) {pc pc' : Nat} (hd : De bytes pc .lreturn 1 pc') (hce : cells ≤ R.cells) (hsl : slots ≤ R.slots) (os' : List Addr) (ho : ∀ x ∈ os', x ∈ os ∧ h0.size ≤ x) (q : Q (some (.long x)) h os') : Go k h os cells slots pc Ls (.long x :: st) := by
  obtain ⟨p, l', e, R', s, m, args, below, meth, c, Z', EL', wd', wr', Q'⟩ := k
  obtain ⟨⟨rfl, rfl, rfl, rfl, rfl, rfl, rfl, rfl⟩, hx, hc', hml, hret, hlk, hnm, hZ, hown, hEL, hE, hwr⟩ := C
  obtain ⟨h1, rfl⟩ := hd
  intro T locs vm X e0 N S w' A Kp ow
  have hZ' : Z'.Warmed39 (s.setVm vm).vm := State.Warmed39.trans (t := s) hZ S.1
  obtain ⟨fs, hr, g1, g2, hW, hs0⟩ := X.leave (v := (some (.long x))) (fun h => by rw [hret] at h; cases h) hlk
  obtain ⟨r1, r2, r3⟩ := S.ended (U := T.setFrames fs) hW (Nat.le_of_eq (by rw [← e0]; rfl)) hs0
  have Ch := A.trans (CHv.at X hZ' hEL A.1)
  refine ⟨T.setFrames fs, _, ?_, g1, g2, (some (.long x)), locs, os', rfl, ?_, ?_, ?_, N, ?_, ⟨⟨_, rfl⟩, r1, r2, r3.mono hce hsl⟩, fun q => ⟨⟨_, rfl⟩, State.WarmedH.trans (w' q) hW, r3.mono hce hsl⟩⟩
  · exact retOut X hx hret rfl (Or.inr (Or.inl ⟨rfl, rfl, _, rfl⟩)) (hb hc' h1) hr
  · show Q' _ T.heap os'
    rw [e0]; exact q
  · intro x hx
    obtain ⟨z1, z2⟩ := ho x hx
    obtain ⟨o1, o2, o3, o4⟩ := ow x z1
    show Safe Z' EL' T.vm T.heap x ∧ s.heap.size ≤ x ∧ x < T.heap.size
    rw [e0]
    exact ⟨(CHv.at X hZ' hEL A.1).safe o3 o1, z2, o3⟩
  · show Keep s.heap T.heap wr'
    rw [e0]; exact Kp
  · show CHr Z' EL' s.vm s.heap T.vm T.heap
    rw [e0]; exact Ch
theorem Go.areturn {k : KT} {v : Value} {t : FieldType} (C : Ctx k l y bytes maxL (some t) R Z a0 EL wd wr h0 Q) {pc pc' : Nat} (hd : De bytes pc .areturn 1 pc') (hce : cells ≤ R.cells) (hsl : slots ≤ R.slots) (ht : t.isReference = true) (hvr : v.isRef = true) (os' : List Addr) (ho : ∀ x ∈ os', x ∈ os ∧ h0.size ≤ x) (q : Q (some v) h os') : Go k h os cells slots pc Ls (v :: st) := by
  obtain ⟨p, l', e, R', s, m, args, below, meth, c, Z', EL', wd', wr', Q'⟩ := k
  obtain ⟨⟨rfl, rfl, rfl, rfl, rfl, rfl, rfl, rfl⟩, hx, hc', hml, hret, hlk, hnm, hZ, hown, hEL, hE, hwr⟩ := C
  obtain ⟨h1, rfl⟩ := hd
  intro T locs vm X e0 N S w' A Kp ow
  have hZ' : Z'.Warmed39 (s.setVm vm).vm := State.Warmed39.trans (t := s) hZ S.1
  obtain ⟨fs, hr, g1, g2, hW, hs0⟩ := X.leave (v := (some v)) (fun h => by rw [hret] at h; cases h) hlk
  obtain ⟨r1, r2, r3⟩ := S.ended (U := T.setFrames fs) hW (Nat.le_of_eq (by rw [← e0]; rfl)) hs0
  have Ch := A.trans (CHv.at X hZ' hEL A.1)
  refine ⟨T.setFrames fs, _, ?_, g1, g2, (some v), locs, os', rfl, ?_, ?_, ?_, N, ?_, ⟨⟨_, rfl⟩, r1, r2, r3.mono hce hsl⟩, fun q => ⟨⟨_, rfl⟩, State.WarmedH.trans (w' q) hW, r3.mono hce hsl⟩⟩
  · exact retOut X hx hret (by cases t <;> first | rfl | cases ht) (Or.inr (Or.inr (Or.inr (Or.inr ⟨rfl, ht, hvr⟩)))) (hb hc' h1) hr
  · show Q' _ T.heap os'
    rw [e0]; exact q
  · intro x hx
    obtain ⟨z1, z2⟩ := ho x hx
    obtain ⟨o1, o2, o3, o4⟩ := ow x z1
    show Safe Z' EL' T.vm T.heap x ∧ s.heap.size ≤ x ∧ x < T.heap.size
    rw [e0]
    exact ⟨(CHv.at X hZ' hEL A.1).safe o3 o1, z2, o3⟩
  · show Keep s.heap T.heap wr'
    rw [e0]; exact Kp
  · show CHr Z' EL' s.vm s.heap T.vm T.heap
    rw [e0]; exact Ch
theorem Go.retV {k : KT}  (C : Ctx k l y bytes maxL none R Z a0 EL wd wr h0 Q) {pc pc' : Nat} (hd : De bytes pc .return_ 1 pc') (hce : cells ≤ R.cells) (hsl : slots ≤ R.slots) (os' : List Addr) (ho : ∀ x ∈ os', x ∈ os ∧ h0.size ≤ x) (q : Q none h os') : Go k h os cells slots pc Ls (([] : List Value)) := by
  obtain ⟨p, l', e, R', s, m, args, below, meth, c, Z', EL', wd', wr', Q'⟩ := k
  obtain ⟨⟨rfl, rfl, rfl, rfl, rfl, rfl, rfl, rfl⟩, hx, hc', hml, hret, hlk, hnm, hZ, hown, hEL, hE, hwr⟩ := C
  obtain ⟨h1, rfl⟩ := hd
  intro T locs vm X e0 N S w' A Kp ow
  have hZ' : Z'.Warmed39 (s.setVm vm).vm := State.Warmed39.trans (t := s) hZ S.1
  obtain ⟨fs, hr, g1, g2, hW, hs0⟩ := X.leave (v := none) (fun _ => rfl) hlk
  obtain ⟨r1, r2, r3⟩ := S.ended (U := T.setFrames fs) hW (Nat.le_of_eq (by rw [← e0]; rfl)) hs0
  have Ch := A.trans (CHv.at X hZ' hEL A.1)
  refine ⟨T.setFrames fs, _, ?_, g1, g2, none, locs, os', rfl, ?_, ?_, ?_, N, ?_, ⟨⟨_, rfl⟩, r1, r2, r3.mono hce hsl⟩, fun q => ⟨⟨_, rfl⟩, State.WarmedH.trans (w' q) hW, r3.mono hce hsl⟩⟩
  · exact X.returnOut hx hret (hb hc' h1) hr
  · show Q' _ T.heap os'
    rw [e0]; exact q
  · intro x hx
    obtain ⟨z1, z2⟩ := ho x hx
    obtain ⟨o1, o2, o3, o4⟩ := ow x z1
    show Safe Z' EL' T.vm T.heap x ∧ s.heap.size ≤ x ∧ x < T.heap.size
    rw [e0]
    exact ⟨(CHv.at X hZ' hEL A.1).safe o3 o1, z2, o3⟩
  · show Keep s.heap T.heap wr'
    rw [e0]; exact Kp
  · show CHr Z' EL' s.vm s.heap T.vm T.heap
    rw [e0]; exact Ch
theorem Con.intro {ws : List Jvm.Cond} {as' : Array Value} {rm : Room} (hpl : plainFor y = true) (hEL : EW Z a0 EL) (hen : ∀ m, entryFrame m as' maxL = mkF m 0 Ls [])
    (G : ∀ k, Ctx k l y bytes maxL ret rm Z a0 EL wd wr h Q → Go k h wr 0 0 0 Ls []) : Con l Z EL wd y bytes maxL ret rm ws as' h wr Q := by
  refine MetFree.of_bodySF hpl hisR ?_
  intro p e s m args below meth c s₁ Bd hml hP hK
  obtain ⟨rfl, hZ, rfl, H, hE, hsf⟩ := hP
  have X0 : Stand p l e rm s m args below meth c s₁ [] 0 0 := Stand.of_body Bd
  have e0 : s₁.heap = s.heap := by rw [Bd.state]; rfl
  have G' := G ⟨p, l, e, rm, s, m, args, below, meth, c, Z, EL, wd, wr, Q⟩ ⟨⟨rfl, rfl, rfl, rfl, rfl, rfl, rfl, rfl⟩, Bd.exec, Bd.bytes, hml, Bd.returns, Bd.notSynchronized, (name_of_methodNamed Bd.named Bd.method).1, hZ, findClass_of_methodNamed Bd.named, hEL, hE, fun x hx => (hsf x hx).2.1⟩
    s₁ [] s.vm X0 e0 (Fr.nil _) ((State.WarmedH.refl s).since _) (fun _ => State.WarmedH.refl s) (CHr.refl H) (Keep.refl _ _) (fun x hx => ⟨(hsf x hx).1, (hsf x hx).2.1, (hsf x hx).2.2, Or.inl hx⟩)
  obtain ⟨s', o, g1, g2, g3, g4⟩ := G'
  exact ⟨s', o, castTop (hen m) g1, g2, g3, g4⟩
theorem ConH.intro {hh : List (Nat × Nat × Nat × Nat)} {as' : Array Value} {rm : Room} (hpl : plainFor y = true) (hEL : EW Z a0 EL) (hen : ∀ m, entryFrame m as' maxL = mkF m 0 Ls [])
    (G : ∀ k, Ctx k l y bytes maxL ret rm Z a0 EL wd wr h Q → Go k h wr 0 0 0 Ls []) : ConH l Z EL wd y bytes maxL ret hh rm as' h wr Q := by
  refine MetFree.of_bodySF hpl hisWith ?_
  intro p e s m args below meth c s₁ Bd hml hP hK
  obtain ⟨rfl, hZ, rfl, H, hE, hsf⟩ := hP
  have X0 : Stand p l e rm s m args below meth c s₁ [] 0 0 := Stand.of_body Bd
  have e0 : s₁.heap = s.heap := by rw [Bd.state]; rfl
  have G' := G ⟨p, l, e, rm, s, m, args, below, meth, c, Z, EL, wd, wr, Q⟩ ⟨⟨rfl, rfl, rfl, rfl, rfl, rfl, rfl, rfl⟩, Bd.exec, Bd.bytes, hml, Bd.returns, Bd.notSynchronized, (name_of_methodNamed Bd.named Bd.method).1, hZ, findClass_of_methodNamed Bd.named, hEL, hE, fun x hx => (hsf x hx).2.1⟩
    s₁ [] s.vm X0 e0 (Fr.nil _) ((State.WarmedH.refl s).since _) (fun _ => State.WarmedH.refl s) (CHr.refl H) (Keep.refl _ _) (fun x hx => ⟨(hsf x hx).1, (hsf x hx).2.1, (hsf x hx).2.2, Or.inl hx⟩)
  obtain ⟨s', o, g1, g2, g3, g4⟩ := G'
  exact ⟨s', o, castTop (hen m) g1, g2, g3, g4⟩
end Heapy
end Jvm.OwnGo
namespace Jvm.Pilot.@@N@@
open Jvm Jvm.ClassFile Sem Op Lib Jvm.Free Jvm.Stand Jvm.LawKit Jvm.RoadKit Jvm.OwnGo Bundle Jvm.Pilot.@@N@@.Jvm.D
set_option maxRecDepth 65536
set_option maxHeartbeats 40000000
abbrev c1 := method_3_code
abbrev c2 := method_4_code
abbrev c3 := method_5_code
abbrev c4 := jdk_42_method_3_code
abbrev c5 := jdk_42_method_149_code
abbrev c6 := object_method_1_code
abbrev c7 := jdk_52_method_16_code
abbrev c8 := jdk_52_method_21_code
abbrev c9 := jdk_52_method_15_code
abbrev c10 := prog_3_method_1_code
abbrev c11 := prog_3_method_2_code
abbrev c12 := jdk_31_method_11_code
abbrev c13 := jdk_2448_method_6_code
abbrev c14 := jdk_2450_method_3_code
abbrev c15 := jdk_42_method_64_code
abbrev c16 := jdk_42_method_152_code
abbrev c17 := jdk_42_method_18_code
abbrev c18 := jdk_42_method_26_code
abbrev c19 := jdk_42_method_27_code
abbrev c20 := jdk_2450_method_2_code
abbrev c21 := jdk_2450_method_7_code
abbrev c22 := jdk_2450_method_9_code
abbrev c23 := jdk_2097_method_2_code
abbrev c24 := jdk_2097_method_1_code
abbrev c25 := jdk_18_method_1_code
abbrev c26 := jdk_31_method_19_code
abbrev c27 := jdk_41_method_13_code
abbrev c28 := jdk_2097_method_142_code
abbrev c29 := jdk_17_method_14_code
abbrev c30 := jdk_17_method_11_code
abbrev c31 := jdk_17_method_107_code
abbrev c32 := jdk_17_method_59_code
abbrev c33 := jdk_17_method_61_code
abbrev c34 := jdk_17_method_99_code
abbrev c35 := jdk_2097_method_118_code
abbrev c36 := jdk_2097_method_74_code
abbrev c37 := jdk_33_method_47_code
abbrev c38 := jdk_2097_method_136_code
abbrev c39 := jdk_2097_method_148_code
abbrev c40 := jdk_2097_method_147_code
abbrev c41 := jdk_2450_method_8_code
abbrev c42 := jdk_2097_method_143_code
abbrev c43 := jdk_33_method_49_code
abbrev c44 := jdk_2097_method_149_code
abbrev vi (x : Int32) : Slot := .val (.int x)
abbrev vr (a : Addr) : Slot := .val (.ref a)
abbrev su : Slot := .unset
abbrev iv (x : Int32) : Value := .int x
theorem dk {b : ByteArray} {pc : Nat} {i : Instr} {n : Nat} (h : decode b pc = .ok (i, n)) : De b pc i n (pc + n) := ⟨h, rfl⟩
abbrev oN (n : Nat) : Int32 := Int32.ofNat n
theorem fm {α : Type} {P : α → Prop} {a : α} {l : List α} (h : P a ∧ ∀ x ∈ l, P x) : ∀ x ∈ a :: l, P x := List.forall_mem_cons.mpr h
theorem dj {b : ByteArray} {pc pcT : Nat} {i : Int → Instr} (o : Int) (h : decode b pc = .ok (i o, 3)) (g : 0 ≤ (pc : Int) + o ∧ ((pc : Int) + o).toNat = pcT) : DeJ b pc i (pc + 3) pcT := ⟨o, h, rfl, g⟩
theorem en {m : MethodId} {a : Array Value} {n : Nat} {Ls : Array Slot} (q : argsToLocals a n = Ls) : entryFrame m a n = mkF m 0 Ls [] := by subst q; rfl
theorem nb {a b : Nat} (h : Nat.ble a b = true) : a ≤ b := Nat.le_of_ble_eq_true h
theorem gq {k : KT} {h : Heap} {os : List Addr} {cells slots pc : Nat} {Ls : Array Slot} {st : List Value} {x : Int32} (x' : Int32) (e : x = x') (K : Go k h os cells slots pc Ls (.int x' :: st)) : Go k h os cells slots pc Ls (.int x :: st) := Go.eqI e K
theorem nx {α : Type} {P : α → Prop} : ∀ x ∈ ([] : List α), P x := fun _ q => nomatch q
abbrev Bf (Z : State) (a0 : Array Value) (c : Jvm.Cond) : Prop := c.before a0 Z = true
variable {l : Launch} {Z : State} {a0 : Array Value}
theorem mi {α : Type} {l : List α} {a : α} (i : Nat) (h : l[i]? = some a) : a ∈ l := List.mem_of_getElem? h
section Own
variable {k : KT} {y : MethodName} {bytes : ByteArray} {maxL : Nat} {ret : Option FieldType} {R : Room} {EL : List (String × Nat)} {wd : Bool} {wr : List Addr} {h0 : Heap} {Q : QT} {h : Heap} {os : List Addr} {cells slots pc pc' pcT : Nat} {Ls : Array Slot} {st : List Value} {x z : Int32}
theorem iN (C : Ctx k l y bytes maxL ret R Z a0 EL wd wr h0 Q) {n : Fin 4} (d : De bytes pc (.iload_n n) 1 pc') (hl : Ls[n.val]? = some (.val (.int x))) (K : Go k h os cells slots pc' Ls (.int x :: st)) : Go k h os cells slots pc Ls st := Go.iloadN C d hl K
theorem il (C : Ctx k l y bytes maxL ret R Z a0 EL wd wr h0 Q) {n : Nat} (d : De bytes pc (.iload n) 2 pc') (hl : Ls[n]? = some (.val (.int x))) (K : Go k h os cells slots pc' Ls (.int x :: st)) : Go k h os cells slots pc Ls st := Go.iload C d hl K
theorem aN (C : Ctx k l y bytes maxL ret R Z a0 EL wd wr h0 Q) {n : Fin 4} {a : Addr} (d : De bytes pc (.aload_n n) 1 pc') (hl : Ls[n.val]? = some (.val (.ref a))) (K : Go k h os cells slots pc' Ls (.ref a :: st)) : Go k h os cells slots pc Ls st := Go.aloadN C d hl rfl K
theorem al (C : Ctx k l y bytes maxL ret R Z a0 EL wd wr h0 Q) {n : Nat} {a : Addr} (d : De bytes pc (.aload n) 2 pc') (hl : Ls[n]? = some (.val (.ref a))) (K : Go k h os cells slots pc' Ls (.ref a :: st)) : Go k h os cells slots pc Ls st := Go.aload C d hl rfl K
theorem ic (C : Ctx k l y bytes maxL ret R Z a0 EL wd wr h0 Q) {i : Int} (v : Int32) (d : De bytes pc (.iconst i) 1 pc') (hv : Int32.ofInt i = v) (K : Go k h os cells slots pc' Ls (.int v :: st)) : Go k h os cells slots pc Ls st := Go.iconst C v d hv K
theorem gF (C : Ctx k l y bytes maxL ret R Z a0 EL wd wr h0 Q) {i : Nat} {a : Addr} {Cn : String} {F : FL} {vs : List Value} {v : Value} {q : String × String × String} (O : Obj Z h a Cn F vs) (j : Nat) (hq : F[j]? = some q) (hv : vs[j]? = some v) (w : (Jvm.Cond.fieldLink y.cls i q.1 q.2.1 q.2.2).before a0 Z = true) (d : De bytes pc (.getfield i) 3 pc') (K : Go k h os cells slots pc' Ls (v :: st)) : Go k h os cells slots pc Ls (.ref a :: st) := Go.getF C O j hq hv (host := "") (Or.inl w) Via.refl d K
theorem ifeqT (C : Ctx k l y bytes maxL ret R Z a0 EL wd wr h0 Q) (d : DeJ bytes pc (.ifCond .eq) pc' pcT) (p : x = 0) (K : Go k h os cells slots pcT Ls st) : Go k h os cells slots pc Ls (.int x :: st) := Go.ifeq C d (fun _ => K) (fun q => absurd p q)
theorem ifeqF (C : Ctx k l y bytes maxL ret R Z a0 EL wd wr h0 Q) (d : DeJ bytes pc (.ifCond .eq) pc' pcT) (p : ¬ x = 0) (K : Go k h os cells slots pc' Ls st) : Go k h os cells slots pc Ls (.int x :: st) := Go.ifeq C d (fun q => absurd q p) (fun _ => K)
theorem ifneT (C : Ctx k l y bytes maxL ret R Z a0 EL wd wr h0 Q) (d : DeJ bytes pc (.ifCond .ne) pc' pcT) (p : ¬ x = 0) (K : Go k h os cells slots pcT Ls st) : Go k h os cells slots pc Ls (.int x :: st) := Go.ifne C d (fun _ => K) (fun q => absurd q p)
theorem ifneF (C : Ctx k l y bytes maxL ret R Z a0 EL wd wr h0 Q) (d : DeJ bytes pc (.ifCond .ne) pc' pcT) (p : x = 0) (K : Go k h os cells slots pc' Ls st) : Go k h os cells slots pc Ls (.int x :: st) := Go.ifne C d (fun q => absurd p q) (fun _ => K)
theorem ifltT (C : Ctx k l y bytes maxL ret R Z a0 EL wd wr h0 Q) (d : DeJ bytes pc (.ifCond .lt) pc' pcT) (p : x < 0) (K : Go k h os cells slots pcT Ls st) : Go k h os cells slots pc Ls (.int x :: st) := Go.iflt C d (fun _ => K) (fun q => absurd p q)
theorem ifltF (C : Ctx k l y bytes maxL ret R Z a0 EL wd wr h0 Q) (d : DeJ bytes pc (.ifCond .lt) pc' pcT) (p : ¬ x < 0) (K : Go k h os cells slots pc' Ls st) : Go k h os cells slots pc Ls (.int x :: st) := Go.iflt C d (fun q => absurd q p) (fun _ => K)
theorem ifgeT (C : Ctx k l y bytes maxL ret R Z a0 EL wd wr h0 Q) (d : DeJ bytes pc (.ifCond .ge) pc' pcT) (p : ¬ x < 0) (K : Go k h os cells slots pcT Ls st) : Go k h os cells slots pc Ls (.int x :: st) := Go.ifge C d (fun _ => K) (fun q => absurd q p)
theorem ifgeF (C : Ctx k l y bytes maxL ret R Z a0 EL wd wr h0 Q) (d : DeJ bytes pc (.ifCond .ge) pc' pcT) (p : x < 0) (K : Go k h os cells slots pc' Ls st) : Go k h os cells slots pc Ls (.int x :: st) := Go.ifge C d (fun q => absurd p q) (fun _ => K)
theorem icmpeqT (C : Ctx k l y bytes maxL ret R Z a0 EL wd wr h0 Q) (d : DeJ bytes pc (.if_icmp .eq) pc' pcT) (p : x = z) (K : Go k h os cells slots pcT Ls st) : Go k h os cells slots pc Ls (.int z :: .int x :: st) := Go.icmpeq C d (fun _ => K) (fun q => absurd p q)
theorem icmpeqF (C : Ctx k l y bytes maxL ret R Z a0 EL wd wr h0 Q) (d : DeJ bytes pc (.if_icmp .eq) pc' pcT) (p : ¬ x = z) (K : Go k h os cells slots pc' Ls st) : Go k h os cells slots pc Ls (.int z :: .int x :: st) := Go.icmpeq C d (fun q => absurd q p) (fun _ => K)
theorem icmpneT (C : Ctx k l y bytes maxL ret R Z a0 EL wd wr h0 Q) (d : DeJ bytes pc (.if_icmp .ne) pc' pcT) (p : ¬ x = z) (K : Go k h os cells slots pcT Ls st) : Go k h os cells slots pc Ls (.int z :: .int x :: st) := Go.icmpne C d (fun _ => K) (fun q => absurd q p)
theorem icmpneF (C : Ctx k l y bytes maxL ret R Z a0 EL wd wr h0 Q) (d : DeJ bytes pc (.if_icmp .ne) pc' pcT) (p : x = z) (K : Go k h os cells slots pc' Ls st) : Go k h os cells slots pc Ls (.int z :: .int x :: st) := Go.icmpne C d (fun q => absurd p q) (fun _ => K)
theorem icmpltT (C : Ctx k l y bytes maxL ret R Z a0 EL wd wr h0 Q) (d : DeJ bytes pc (.if_icmp .lt) pc' pcT) (p : x < z) (K : Go k h os cells slots pcT Ls st) : Go k h os cells slots pc Ls (.int z :: .int x :: st) := Go.icmplt C d (fun _ => K) (fun q => absurd p q)
theorem icmpltF (C : Ctx k l y bytes maxL ret R Z a0 EL wd wr h0 Q) (d : DeJ bytes pc (.if_icmp .lt) pc' pcT) (p : ¬ x < z) (K : Go k h os cells slots pc' Ls st) : Go k h os cells slots pc Ls (.int z :: .int x :: st) := Go.icmplt C d (fun q => absurd q p) (fun _ => K)
theorem icmpgeT (C : Ctx k l y bytes maxL ret R Z a0 EL wd wr h0 Q) (d : DeJ bytes pc (.if_icmp .ge) pc' pcT) (p : ¬ x < z) (K : Go k h os cells slots pcT Ls st) : Go k h os cells slots pc Ls (.int z :: .int x :: st) := Go.icmpge C d (fun _ => K) (fun q => absurd q p)
theorem icmpgeF (C : Ctx k l y bytes maxL ret R Z a0 EL wd wr h0 Q) (d : DeJ bytes pc (.if_icmp .ge) pc' pcT) (p : x < z) (K : Go k h os cells slots pc' Ls st) : Go k h os cells slots pc Ls (.int z :: .int x :: st) := Go.icmpge C d (fun q => absurd p q) (fun _ => K)
theorem icmpgtT (C : Ctx k l y bytes maxL ret R Z a0 EL wd wr h0 Q) (d : DeJ bytes pc (.if_icmp .gt) pc' pcT) (p : z < x) (K : Go k h os cells slots pcT Ls st) : Go k h os cells slots pc Ls (.int z :: .int x :: st) := Go.icmpgt C d (fun _ => K) (fun q => absurd p q)
theorem icmpgtF (C : Ctx k l y bytes maxL ret R Z a0 EL wd wr h0 Q) (d : DeJ bytes pc (.if_icmp .gt) pc' pcT) (p : ¬ z < x) (K : Go k h os cells slots pc' Ls st) : Go k h os cells slots pc Ls (.int z :: .int x :: st) := Go.icmpgt C d (fun q => absurd q p) (fun _ => K)
theorem icmpleT (C : Ctx k l y bytes maxL ret R Z a0 EL wd wr h0 Q) (d : DeJ bytes pc (.if_icmp .le) pc' pcT) (p : ¬ z < x) (K : Go k h os cells slots pcT Ls st) : Go k h os cells slots pc Ls (.int z :: .int x :: st) := Go.icmple C d (fun _ => K) (fun q => absurd q p)
theorem icmpleF (C : Ctx k l y bytes maxL ret R Z a0 EL wd wr h0 Q) (d : DeJ bytes pc (.if_icmp .le) pc' pcT) (p : z < x) (K : Go k h os cells slots pc' Ls st) : Go k h os cells slots pc Ls (.int z :: .int x :: st) := Go.icmple C d (fun q => absurd p q) (fun _ => K)
end Own
abbrev o_EL : List (String × Nat) := []
def o_b (c : Int32) : Int32 := c.toInt8.toInt32
def o_L (c : Int32) : Prop := ¬ c < 0 ∧ ¬ (255 : Int32) < c
def o_lat (cs : List Int32) : Prop := ∀ c ∈ cs, o_L c
theorem o_b_nar (c : Int32) : nar .byte (o_b c) = o_b c := by
  show (c.toInt8.toInt32).toInt8.toInt32 = c.toInt8.toInt32
  rw [Int8.toInt8_toInt32]
theorem o_nil {cs : List Int32} (hl : cs.length < 2147483648) (q : Int32.ofNat cs.length = 0) : cs = [] := by
  have : Int32.ofNat cs.length = Int32.ofNat 0 := q
  exact List.eq_nil_of_length_eq_zero ((nI_eq hl (by omega)).mp this)
theorem o_set {cs : List Int32} {c : Int32} {i n : Nat} (q : i + (n + 1) = cs.length) (hc : cs[i]? = some c) : (List.map Value.int ((cs.take i).map o_b ++ List.replicate (n + 1) 0)).set i (.int (o_b c)) = List.map Value.int ((cs.take (i + 1)).map o_b ++ List.replicate n 0) := by
  have hi : i < cs.length := by omega
  have ht : (cs.take i).length = i := by simp; omega
  rw [← List.map_set, List.set_append_right _ _ (by simp [ht]; omega), List.take_add_one, hc]
  simp [ht, List.replicate_succ, show min i cs.length = i by omega]
theorem o_L_int {x : Int32} (h : o_L x) : 0 ≤ x.toInt ∧ x.toInt ≤ 255 := by
  obtain ⟨h1, h2⟩ := h
  rw [Int32.lt_iff_toInt_lt] at h1 h2
  have e0 : (0 : Int32).toInt = 0 := rfl
  have e1 : (255 : Int32).toInt = 255 := rfl
  omega
theorem o_L_of {x : Int32} (h1 : 0 ≤ x.toInt) (h2 : x.toInt ≤ 255) : o_L x := by
  have e0 : (0 : Int32).toInt = 0 := rfl
  have e1 : (255 : Int32).toInt = 255 := rfl
  constructor <;> rw [Int32.lt_iff_toInt_lt] <;> omega
theorem o_c_nar (x : Int32) : nar .char (x.toUInt32.toUInt16.toUInt32.toInt32) = x.toUInt32.toUInt16.toUInt32.toInt32 := by
  obtain ⟨-, h1, h2⟩ := c_i2c x
  obtain ⟨g0, g1, g2⟩ := c_i2c (x.toUInt32.toUInt16.toUInt32.toInt32)
  exact Int32.toInt_inj.mp (by show (x.toUInt32.toUInt16.toUInt32.toInt32).toUInt32.toUInt16.toUInt32.toInt32.toInt = _; omega)
def o_sym (i : Int32) : Int32 := if i < 26 then ((65 + i).toUInt32.toUInt16.toUInt32.toInt32) else if i < 52 then ((97 + (i - 26)).toUInt32.toUInt16.toUInt32.toInt32) else if i < 62 then ((48 + (i - 52)).toUInt32.toUInt16.toUInt32.toInt32) else if i = 62 then 43 else 47
def o_byte (w : Int64) (n kk : Int32) : Int32 := if kk < n then (((w.toUInt64 >>> ((((8 : Int32) * ((n - 1) - kk)) &&& 0x3f).toInt64).toUInt64).toInt64 &&& (255 : Int64)).toInt32) else 0
theorem o_sym_nar (i : Int32) : nar .char (o_sym i) = o_sym i := by
  unfold o_sym; repeat' split
  all_goals first | exact o_c_nar _ | decide
def o_fb : List Int32 := [-1, -1, -1, -1, -1, -1, -1, -1, -1, -1, -1, -1, -1, -1, -1, -1, -1, -1, -1, -1, -1, -1, -1, -1, -1, -1, -1, -1, -1, -1, -1, -1, -1, -1, -1, -1, -1, -1, -1, -1, -1, -1, -1, 62, -1, -1, -1, 63, 52, 53, 54, 55, 56, 57, 58, 59, 60, 61, -1, -1, -1, -2, -1, -1, -1, 0, 1, 2, 3, 4, 5, 6, 7, 8, 9, 10, 11, 12, 13, 14, 15, 16, 17, 18, 19, 20, 21, 22, 23, 24, 25, -1, -1, -1, -1, -1, -1, 26, 27, 28, 29, 30, 31, 32, 33, 34, 35, 36, 37, 38, 39, 40, 41, 42, 43, 44, 45, 46, 47, 48, 49, 50, 51, -1, -1, -1, -1, -1, -1, -1, -1, -1, -1, -1, -1, -1, -1, -1, -1, -1, -1, -1, -1, -1, -1, -1, -1, -1, -1, -1, -1, -1, -1, -1, -1, -1, -1, -1, -1, -1, -1, -1, -1, -1, -1, -1, -1, -1, -1, -1, -1, -1, -1, -1, -1, -1, -1, -1, -1, -1, -1, -1, -1, -1, -1, -1, -1, -1, -1, -1, -1, -1, -1, -1, -1, -1, -1, -1, -1, -1, -1, -1, -1, -1, -1, -1, -1, -1, -1, -1, -1, -1, -1, -1, -1, -1, -1, -1, -1, -1, -1, -1, -1, -1, -1, -1, -1, -1, -1, -1, -1, -1, -1, -1, -1, -1, -1, -1, -1, -1, -1, -1, -1, -1, -1, -1, -1, -1, -1, -1, -1, -1, -1, -1, -1, -1]
def o_Q (q : Int32) : Prop := ¬ q < 0 ∧ q < 64
theorem o_Q_of {q : Int32} (h1 : 0 ≤ q.toInt) (h2 : q.toInt < 64) : o_Q q := by
  have e0 : (0 : Int32).toInt = 0 := rfl
  have e1 : (64 : Int32).toInt = 64 := rfl
  constructor <;> rw [Int32.lt_iff_toInt_lt] <;> omega
theorem o_Q_int {q : Int32} (h : o_Q q) : 0 ≤ q.toInt ∧ q.toInt < 64 := by
  obtain ⟨h1, h2⟩ := h
  rw [Int32.lt_iff_toInt_lt] at h1 h2
  have e0 : (0 : Int32).toInt = 0 := rfl
  have e1 : (64 : Int32).toInt = 64 := rfl
  omega
theorem o_symT : ∀ k : Nat, k < 64 → o_sym (Int32.ofNat k) &&& 255 = o_sym (Int32.ofNat k) ∧ ¬ o_sym (Int32.ofNat k) < 0 ∧ o_fb[(o_sym (Int32.ofNat k)).toNatClampNeg]? = some (Int32.ofNat k) ∧ o_b (o_sym (Int32.ofNat k)) = o_sym (Int32.ofNat k) ∧ ¬ o_sym (Int32.ofNat k) = 61 ∧ ¬ (255 : Int32) < o_sym (Int32.ofNat k) := by decide +kernel
theorem o_sym_all {q : Int32} (h : o_Q q) : o_sym q &&& 255 = o_sym q ∧ ¬ o_sym q < 0 ∧ o_fb[(o_sym q).toNatClampNeg]? = some q ∧ o_b (o_sym q) = o_sym q ∧ ¬ o_sym q = 61 ∧ ¬ (255 : Int32) < o_sym q := by
  obtain ⟨h1, h2⟩ := o_Q_int h
  have e : q = Int32.ofNat q.toInt.toNat := Int32.toInt_inj.mp (by rw [Int32.toInt_ofNat_of_lt (by omega)]; omega)
  rw [e]; exact o_symT _ (by omega)
theorem o_sym_at {q : Int32} (h : o_Q q) : (List.map Value.int o_fb)[(o_sym q).toNatClampNeg]? = some (.int q) := by
  rw [List.getElem?_map, (o_sym_all h).2.2.1]; rfl
def o_w2 (q0 q1 : Int32) : Int32 := (q0 <<< ((18 : Int32) &&& 31)) ||| (q1 <<< ((12 : Int32) &&& 31))
def o_w3 (q0 q1 q2 : Int32) : Int32 := o_w2 q0 q1 ||| (q2 <<< ((6 : Int32) &&& 31))
def o_w4 (q0 q1 q2 q3 : Int32) : Int32 := o_w3 q0 q1 q2 ||| q3
def o_x16 (w : Int32) : Int32 := (w >>> ((16 : Int32) &&& 31)).toInt8.toInt32
def o_x8 (w : Int32) : Int32 := (w >>> ((8 : Int32) &&& 31)).toInt8.toInt32
def o_WW (a b d : Int32) : Int32 := ((a <<< ((16 : Int32) &&& 31)) ||| (b <<< ((8 : Int32) &&& 31))) ||| d
def o_q18 (w : Int32) : Int32 := (w.toUInt32 >>> ((18 : Int32) &&& 31).toUInt32).toInt32 &&& 63
def o_q12 (w : Int32) : Int32 := (w.toUInt32 >>> ((12 : Int32) &&& 31).toUInt32).toInt32 &&& 63
def o_q6 (w : Int32) : Int32 := (w.toUInt32 >>> ((6 : Int32) &&& 31).toUInt32).toInt32 &&& 63
def o_q0 (w : Int32) : Int32 := w &&& 63
theorem o_WW_int {a b d : Int32} (ha : o_L a) (hb : o_L b) (hd : o_L d) : (o_WW a b d).toInt = a.toInt * 65536 + b.toInt * 256 + d.toInt := by
  obtain ⟨a1, a2⟩ := o_L_int ha
  obtain ⟨b1, b2⟩ := o_L_int hb
  obtain ⟨d1, d2⟩ := o_L_int hd
  have s1 : ((a <<< ((16 : Int32) &&& 31)).toInt - a.toInt * 65536) % 4294967296 = 0 := c_ishl a 16 16 (by decide)
  have s2 : ((b <<< ((8 : Int32) &&& 31)).toInt - b.toInt * 256) % 4294967296 = 0 := c_ishl b 8 8 (by decide)
  have r1 := rng32 (a <<< ((16 : Int32) &&& 31))
  have r2 := rng32 (b <<< ((8 : Int32) &&& 31))
  have o1 := c_or (a <<< ((16 : Int32) &&& 31)) (b <<< ((8 : Int32) &&& 31)) 16 (by decide) 65536 (by decide) (by omega) (by omega) (by omega)
  have r3 := rng32 ((a <<< ((16 : Int32) &&& 31)) ||| (b <<< ((8 : Int32) &&& 31)))
  have o2 := c_or ((a <<< ((16 : Int32) &&& 31)) ||| (b <<< ((8 : Int32) &&& 31))) d 8 (by decide) 256 (by decide) (by omega) (by omega) (by omega)
  have r4 := rng32 (o_WW a b d)
  unfold o_WW at r4 ⊢
  omega
theorem o_w2_int {q0 q1 : Int32} (h0 : o_Q q0) (h1 : o_Q q1) : (o_w2 q0 q1).toInt = q0.toInt * 262144 + q1.toInt * 4096 := by
  obtain ⟨a1, a2⟩ := o_Q_int h0
  obtain ⟨b1, b2⟩ := o_Q_int h1
  have s1 : ((q0 <<< ((18 : Int32) &&& 31)).toInt - q0.toInt * 262144) % 4294967296 = 0 := c_ishl q0 18 18 (by decide)
  have s2 : ((q1 <<< ((12 : Int32) &&& 31)).toInt - q1.toInt * 4096) % 4294967296 = 0 := c_ishl q1 12 12 (by decide)
  have r1 := rng32 (q0 <<< ((18 : Int32) &&& 31))
  have r2 := rng32 (q1 <<< ((12 : Int32) &&& 31))
  have o1 := c_or (q0 <<< ((18 : Int32) &&& 31)) (q1 <<< ((12 : Int32) &&& 31)) 18 (by decide) 262144 (by decide) (by omega) (by omega) (by omega)
  have r3 := rng32 (o_w2 q0 q1)
  unfold o_w2 at r3 ⊢
  omega
theorem o_w3_int {q0 q1 q2 : Int32} (h0 : o_Q q0) (h1 : o_Q q1) (h2 : o_Q q2) : (o_w3 q0 q1 q2).toInt = q0.toInt * 262144 + q1.toInt * 4096 + q2.toInt * 64 := by
  have e := o_w2_int h0 h1
  obtain ⟨a1, a2⟩ := o_Q_int h0
  obtain ⟨b1, b2⟩ := o_Q_int h1
  obtain ⟨d1, d2⟩ := o_Q_int h2
  have s2 : ((q2 <<< ((6 : Int32) &&& 31)).toInt - q2.toInt * 64) % 4294967296 = 0 := c_ishl q2 6 6 (by decide)
  have r2 := rng32 (q2 <<< ((6 : Int32) &&& 31))
  have o1 := c_or (o_w2 q0 q1) (q2 <<< ((6 : Int32) &&& 31)) 12 (by decide) 4096 (by decide) (by omega) (by omega) (by omega)
  have r3 := rng32 (o_w3 q0 q1 q2)
  unfold o_w3 at r3 ⊢
  omega
theorem o_w4_int {q0 q1 q2 q3 : Int32} (h0 : o_Q q0) (h1 : o_Q q1) (h2 : o_Q q2) (h3 : o_Q q3) : (o_w4 q0 q1 q2 q3).toInt = q0.toInt * 262144 + q1.toInt * 4096 + q2.toInt * 64 + q3.toInt := by
  have e := o_w3_int h0 h1 h2
  obtain ⟨a1, a2⟩ := o_Q_int h0
  obtain ⟨b1, b2⟩ := o_Q_int h1
  obtain ⟨d1, d2⟩ := o_Q_int h2
  obtain ⟨d3, d4⟩ := o_Q_int h3
  have o1 := c_or (o_w3 q0 q1 q2) q3 6 (by decide) 64 (by decide) (by omega) (by omega) (by omega)
  have r3 := rng32 (o_w4 q0 q1 q2 q3)
  unfold o_w4 at r3 ⊢
  omega
theorem o_q18_int {w : Int32} (h : 0 ≤ w.toInt) (h' : w.toInt < 16777216) : (o_q18 w).toInt = w.toInt / 262144 % 64 := by
  have s : ((w.toUInt32 >>> ((18 : Int32) &&& 31).toUInt32).toInt32).toInt = (w.toInt % 4294967296) / 262144 := c_iushr w 18 18 (by decide) (by decide)
  have m : (o_q18 w).toInt = ((w.toUInt32 >>> ((18 : Int32) &&& 31).toUInt32).toInt32).toInt % 64 := c_mask _ 63 6 (by decide) (by decide)
  omega
theorem o_q12_int {w : Int32} (h : 0 ≤ w.toInt) (h' : w.toInt < 16777216) : (o_q12 w).toInt = w.toInt / 4096 % 64 := by
  have s : ((w.toUInt32 >>> ((12 : Int32) &&& 31).toUInt32).toInt32).toInt = (w.toInt % 4294967296) / 4096 := c_iushr w 12 12 (by decide) (by decide)
  have m : (o_q12 w).toInt = ((w.toUInt32 >>> ((12 : Int32) &&& 31).toUInt32).toInt32).toInt % 64 := c_mask _ 63 6 (by decide) (by decide)
  omega
theorem o_q6_int {w : Int32} (h : 0 ≤ w.toInt) (h' : w.toInt < 16777216) : (o_q6 w).toInt = w.toInt / 64 % 64 := by
  have s : ((w.toUInt32 >>> ((6 : Int32) &&& 31).toUInt32).toInt32).toInt = (w.toInt % 4294967296) / 64 := c_iushr w 6 6 (by decide) (by decide)
  have m : (o_q6 w).toInt = ((w.toUInt32 >>> ((6 : Int32) &&& 31).toUInt32).toInt32).toInt % 64 := c_mask _ 63 6 (by decide) (by decide)
  omega
theorem o_q0_int {w : Int32} : (o_q0 w).toInt = w.toInt % 64 := c_mask _ 63 6 (by decide) (by decide)
def o_g1 (q0 q1 x0 : Int32) : Prop := o_Q q0 ∧ o_Q q1 ∧ o_x16 (o_w2 q0 q1) = x0
def o_g2 (q0 q1 q2 x0 x1 : Int32) : Prop := o_Q q0 ∧ o_Q q1 ∧ o_Q q2 ∧ o_x16 (o_w3 q0 q1 q2) = x0 ∧ o_x8 (o_w3 q0 q1 q2) = x1
def o_g3 (q0 q1 q2 q3 x0 x1 x2 : Int32) : Prop := o_Q q0 ∧ o_Q q1 ∧ o_Q q2 ∧ o_Q q3 ∧ o_x16 (o_w4 q0 q1 q2 q3) = x0 ∧ o_x8 (o_w4 q0 q1 q2 q3) = x1 ∧ o_b (o_w4 q0 q1 q2 q3) = x2
theorem o_bytes {w a b d : Int32} (ha : o_L a) (hb : o_L b) (hd : o_L d) (e : w.toInt = a.toInt * 65536 + b.toInt * 256 + d.toInt) : o_x16 w = o_b a ∧ o_x8 w = o_b b ∧ o_b w = o_b d := by
  obtain ⟨a1, a2⟩ := o_L_int ha
  obtain ⟨b1, b2⟩ := o_L_int hb
  obtain ⟨d1, d2⟩ := o_L_int hd
  have s16 : (w >>> ((16 : Int32) &&& 31)).toInt = w.toInt / 65536 := c_ishr w 16 16 (by decide)
  have s8 : (w >>> ((8 : Int32) &&& 31)).toInt = w.toInt / 256 := c_ishr w 8 8 (by decide)
  obtain ⟨p1, p2, p3⟩ := c_i2b (w >>> ((16 : Int32) &&& 31))
  obtain ⟨p4, p5, p6⟩ := c_i2b (w >>> ((8 : Int32) &&& 31))
  obtain ⟨p7, p8, p9⟩ := c_i2b w
  obtain ⟨t1, t2, t3⟩ := c_i2b a
  obtain ⟨t4, t5, t6⟩ := c_i2b b
  obtain ⟨t7, t8, t9⟩ := c_i2b d
  refine ⟨Int32.toInt_inj.mp ?_, Int32.toInt_inj.mp ?_, Int32.toInt_inj.mp ?_⟩
  · show (w >>> ((16 : Int32) &&& 31)).toInt8.toInt32.toInt = a.toInt8.toInt32.toInt; omega
  · show (w >>> ((8 : Int32) &&& 31)).toInt8.toInt32.toInt = b.toInt8.toInt32.toInt; omega
  · show w.toInt8.toInt32.toInt = d.toInt8.toInt32.toInt; omega
theorem o_qs {w : Int32} (h : 0 ≤ w.toInt) (h' : w.toInt < 16777216) : o_Q (o_q18 w) ∧ o_Q (o_q12 w) ∧ o_Q (o_q6 w) ∧ o_Q (o_q0 w) := by
  have e1 := o_q18_int h h'; have e2 := o_q12_int h h'; have e3 := o_q6_int h h'; have e4 := @o_q0_int w
  exact ⟨o_Q_of (by omega) (by omega), o_Q_of (by omega) (by omega), o_Q_of (by omega) (by omega), o_Q_of (by omega) (by omega)⟩
theorem o_L0 : o_L 0 := ⟨by decide, by decide⟩
theorem o_enc3 {a b d : Int32} (ha : o_L a) (hb : o_L b) (hd : o_L d) : o_g3 (o_q18 (o_WW a b d)) (o_q12 (o_WW a b d)) (o_q6 (o_WW a b d)) (o_q0 (o_WW a b d)) (o_b a) (o_b b) (o_b d) := by
  have e := o_WW_int ha hb hd
  obtain ⟨a1, a2⟩ := o_L_int ha
  obtain ⟨b1, b2⟩ := o_L_int hb
  obtain ⟨d1, d2⟩ := o_L_int hd
  have e1 := o_q18_int (w := o_WW a b d) (by omega) (by omega); have e2 := o_q12_int (w := o_WW a b d) (by omega) (by omega); have e3 := o_q6_int (w := o_WW a b d) (by omega) (by omega); have e4 := @o_q0_int (o_WW a b d)
  obtain ⟨k1, k2, k3, k4⟩ := o_qs (w := o_WW a b d) (by omega) (by omega)
  have f := o_w4_int k1 k2 k3 k4
  exact ⟨k1, k2, k3, k4, o_bytes ha hb hd (by omega)⟩
theorem o_enc2 {a b : Int32} (ha : o_L a) (hb : o_L b) : o_g2 (o_q18 (o_WW a b 0)) (o_q12 (o_WW a b 0)) (o_q6 (o_WW a b 0)) (o_b a) (o_b b) := by
  have e := o_WW_int ha hb o_L0
  have z : (0 : Int32).toInt = 0 := rfl
  obtain ⟨a1, a2⟩ := o_L_int ha
  obtain ⟨b1, b2⟩ := o_L_int hb
  have e1 := o_q18_int (w := o_WW a b 0) (by omega) (by omega); have e2 := o_q12_int (w := o_WW a b 0) (by omega) (by omega); have e3 := o_q6_int (w := o_WW a b 0) (by omega) (by omega)
  obtain ⟨k1, k2, k3, k4⟩ := o_qs (w := o_WW a b 0) (by omega) (by omega)
  have f := o_w3_int k1 k2 k3
  have g := o_bytes (w := o_w3 (o_q18 (o_WW a b 0)) (o_q12 (o_WW a b 0)) (o_q6 (o_WW a b 0))) ha hb o_L0 (by omega)
  exact ⟨k1, k2, k3, g.1, g.2.1⟩
theorem o_enc1 {a : Int32} (ha : o_L a) : o_g1 (o_q18 (o_WW a 0 0)) (o_q12 (o_WW a 0 0)) (o_b a) := by
  have e := o_WW_int ha o_L0 o_L0
  have z : (0 : Int32).toInt = 0 := rfl
  obtain ⟨a1, a2⟩ := o_L_int ha
  have e1 := o_q18_int (w := o_WW a 0 0) (by omega) (by omega); have e2 := o_q12_int (w := o_WW a 0 0) (by omega) (by omega)
  obtain ⟨k1, k2, k3, k4⟩ := o_qs (w := o_WW a 0 0) (by omega) (by omega)
  have f := o_w2_int k1 k2
  have g := o_bytes (w := o_w2 (o_q18 (o_WW a 0 0)) (o_q12 (o_WW a 0 0))) ha o_L0 o_L0 (by omega)
  exact ⟨k1, k2, g.1⟩
def o_B (x : Int32) : Prop := -128 ≤ x.toInt ∧ x.toInt ≤ 127
theorem o_b_B (x : Int32) : o_B (o_b x) := by
  obtain ⟨-, h1, h2⟩ := c_i2b x
  exact ⟨h1, by show x.toInt8.toInt32.toInt ≤ 127; omega⟩
theorem o_B_nar {x : Int32} (h : o_B x) : nar .byte x = x := by
  obtain ⟨h1, h2⟩ := h
  obtain ⟨p1, p2, p3⟩ := c_i2b x
  exact Int32.toInt_inj.mp (by show x.toInt8.toInt32.toInt = _; omega)
def o_u (d : Int32) : Int := d.toInt % 4294967296
theorem o_u_ne {d : Int32} (h : o_u d ≠ 0) : ¬ d = 0 := fun e => h (by rw [e]; rfl)
theorem o_u0 {d : Int32} (h : ¬ d = 0) : o_u d ≠ 0 := fun e => h (Int32.toInt_inj.mp (by have := rng32 d; have z : (0 : Int32).toInt = 0 := rfl; unfold o_u at e; omega))
theorem o_u_rng (d : Int32) : 0 ≤ o_u d ∧ o_u d < 4294967296 := by unfold o_u; omega
def o_ct (d x : Int32) : Int32 := (d <<< ((8 : Int32) &&& 31)) ||| (x &&& 255)
theorem o_ct_int (d x : Int32) : ((o_ct d x).toInt - (d.toInt * 256 + x.toInt % 256)) % 4294967296 = 0 := by
  have s : ((d <<< ((8 : Int32) &&& 31)).toInt - d.toInt * 256) % 4294967296 = 0 := c_ishl d 8 8 (by decide)
  have m : (x &&& 255).toInt = x.toInt % 256 := c_mask x 255 8 (by decide) (by decide)
  have o := c_or (d <<< ((8 : Int32) &&& 31)) (x &&& 255) 8 (by decide) 256 (by decide) (by omega) (by omega) (by omega)
  unfold o_ct; omega
theorem o_m_int (x : Int32) : (x &&& 255).toInt = x.toInt % 256 := c_mask x 255 8 (by decide) (by decide)
def o_qd (x y z w : Int32) : Int32 := (((x <<< ((24 : Int32) &&& 31)) ||| ((y &&& 255) <<< ((16 : Int32) &&& 31))) ||| ((z &&& 255) <<< ((8 : Int32) &&& 31))) ||| (w &&& 255)
theorem o_qd_u (x y z w : Int32) : o_u (o_qd x y z w) = x.toInt % 256 * 16777216 + y.toInt % 256 * 65536 + z.toInt % 256 * 256 + w.toInt % 256 := by
  have my := o_m_int y; have mz := o_m_int z; have mw := o_m_int w
  have sx : ((x <<< ((24 : Int32) &&& 31)).toInt - x.toInt * 16777216) % 4294967296 = 0 := c_ishl x 24 24 (by decide)
  have sy : (((y &&& 255) <<< ((16 : Int32) &&& 31)).toInt - (y &&& 255).toInt * 65536) % 4294967296 = 0 := c_ishl _ 16 16 (by decide)
  have sz : (((z &&& 255) <<< ((8 : Int32) &&& 31)).toInt - (z &&& 255).toInt * 256) % 4294967296 = 0 := c_ishl _ 8 8 (by decide)
  have ry := rng32 ((y &&& 255) <<< ((16 : Int32) &&& 31))
  have rz := rng32 ((z &&& 255) <<< ((8 : Int32) &&& 31))
  have o1 := c_or (x <<< ((24 : Int32) &&& 31)) ((y &&& 255) <<< ((16 : Int32) &&& 31)) 24 (by decide) 16777216 (by decide) (by omega) (by omega) (by omega)
  have o2 := c_or ((x <<< ((24 : Int32) &&& 31)) ||| ((y &&& 255) <<< ((16 : Int32) &&& 31))) ((z &&& 255) <<< ((8 : Int32) &&& 31)) 16 (by decide) 65536 (by decide) (by omega) (by omega) (by omega)
  have o3 := c_or (((x <<< ((24 : Int32) &&& 31)) ||| ((y &&& 255) <<< ((16 : Int32) &&& 31))) ||| ((z &&& 255) <<< ((8 : Int32) &&& 31))) (w &&& 255) 8 (by decide) 256 (by decide) (by omega) (by omega) (by omega)
  unfold o_u o_qd; omega
def o_f1 (b : Int32) : Int32 := (-256 : Int32) ||| (b &&& 255)
theorem o_f1_int (b : Int32) : (o_f1 b).toInt = b.toInt % 256 - 256 := by
  have m := o_m_int b
  have z : (-256 : Int32).toInt = -256 := by decide
  have o := c_or (-256 : Int32) (b &&& 255) 8 (by decide) 256 (by decide) (by omega) (by omega) (by omega)
  have r := rng32 (o_f1 b)
  unfold o_f1 at r ⊢; omega
def o_be (x : Int32) (xs : List Int32) : Int := xs.foldl (fun k y => k * 256 + y.toInt % 256) x.toInt
def o_mg (M : List Int32) (k : Int) : Prop := (M = [] ∧ k = 0) ∨ (∃ m, M = [m] ∧ (¬ m = 0) ∧ k = o_u m) ∨ (∃ p m, M = [p, m] ∧ 0 < o_u p ∧ o_u p < 65536 ∧ k = o_u p * 4294967296 + o_u m)
theorem o_mg1 {m : Int32} {k : Int} (h : k = o_u m) (h0 : k ≠ 0) : o_mg [m] k := Or.inr (Or.inl ⟨m, rfl, o_u_ne (h ▸ h0), h⟩)
theorem o_mg2 {p m : Int32} {k : Int} (h1 : 0 < o_u p) (h2 : o_u p < 65536) (h : k = o_u p * 4294967296 + o_u m) : o_mg [p, m] k := Or.inr (Or.inr ⟨p, m, rfl, h1, h2, h⟩)
theorem o_int0 {x : Int32} (h : x = 0) : x.toInt = 0 := by rw [h]; rfl
theorem o_int1 {x : Int32} (h : ¬ x = 0) : x.toInt ≠ 0 := fun e => h (Int32.toInt_inj.mp e)
theorem o_intm {x : Int32} (h : x = -1) : x.toInt = -1 := by rw [h]; decide
theorem o_intn {x : Int32} (h : ¬ x = -1) : x.toInt ≠ -1 := fun e => h (Int32.toInt_inj.mp (by rw [e]; decide))
theorem o_lt0 {x : Int32} (h : x < 0) : x.toInt < 0 := by rw [Int32.lt_iff_toInt_lt] at h; exact h
theorem o_ge0 {x : Int32} (h : ¬ x < 0) : 0 ≤ x.toInt := by rw [Int32.lt_iff_toInt_lt] at h; have e0 : (0 : Int32).toInt = 0 := rfl; omega
theorem o_or_l {x y : Int32} (h : x ||| y = 0) : x = 0 := by
  have e : (x ||| y).toBitVec = (0 : Int32).toBitVec := congrArg Int32.toBitVec h
  have e' : x.toBitVec ||| y.toBitVec = 0#32 := e
  exact Int32.toBitVec_inj.mp (BitVec.or_eq_zero_iff.mp e').1
theorem o_or_r {x y : Int32} (h : x ||| y = 0) : y = 0 := by
  have e : (x ||| y).toBitVec = (0 : Int32).toBitVec := congrArg Int32.toBitVec h
  have e' : x.toBitVec ||| y.toBitVec = 0#32 := e
  exact Int32.toBitVec_inj.mp (BitVec.or_eq_zero_iff.mp e').2
theorem o_or00 : ((0 : Int32) ||| 0) ||| 0 = 0 := by decide
theorem o_neg_u {d : Int32} (h : ¬ d = 0) : o_u (-d) = 4294967296 - o_u d := by
  have a := c_ineg d
  have b := o_u0 h
  unfold o_u at *; omega
theorem o_not_int (d : Int32) : (d ^^^ (-1 : Int32)).toInt = -d.toInt - 1 := by
  have e : d ^^^ (-1 : Int32) = -d - 1 := by
    apply Int32.toBitVec_inj.mp
    show d.toBitVec ^^^ (-1 : Int32).toBitVec = -d.toBitVec - 1#32
    rw [show (-1 : Int32).toBitVec = BitVec.allOnes 32 from by decide, BitVec.xor_allOnes, BitVec.not_eq_neg_add]
  rw [e]
  have a := c_ineg d
  have b := c_isub (-d) 1
  have z : (1 : Int32).toInt = 1 := rfl
  have r := rng32 (-d - 1); have r' := rng32 d
  omega
def o_bi (s : Int32) (M : List Int32) (k : Int) : Prop := (s = 0 ∧ M = [] ∧ k = 0) ∨ (∃ m, s = 1 ∧ M = [m] ∧ (¬ m = 0) ∧ k = o_u m) ∨ (∃ p m, s = 1 ∧ M = [p, m] ∧ 0 < o_u p ∧ o_u p < 65536 ∧ k = o_u p * 4294967296 + o_u m) ∨ (∃ m, s = -1 ∧ M = [m] ∧ (¬ m = 0) ∧ k = -o_u m) ∨ (∃ p m, s = -1 ∧ M = [p, m] ∧ 0 < o_u p ∧ o_u p < 65536 ∧ k = -(o_u p * 4294967296 + o_u m))
def o_lv (g1 g0 : Int32) : Int64 := ((((0 : Int64) <<< ((32 : Int32) &&& 0x3f).toInt64) + (g1.toInt64 &&& (4294967295 : Int64))) <<< ((32 : Int32) &&& 0x3f).toInt64) + (g0.toInt64 &&& (4294967295 : Int64))
theorem o_lv_eq (g1 g0 : Int32) : o_lv g1 g0 = Int64.ofInt (g1.toInt * 4294967296 + o_u g0) := by
  apply Int64.toInt_inj.mp
  have m1 : (g1.toInt64 &&& (4294967295 : Int64)).toInt = g1.toInt64.toInt % 4294967296 := c_maskL _ 4294967295 32 (by decide) (by decide)
  have m0 : (g0.toInt64 &&& (4294967295 : Int64)).toInt = g0.toInt64.toInt % 4294967296 := c_maskL _ 4294967295 32 (by decide) (by decide)
  have i1 := c_i2l g1; have i0 := c_i2l g0
  have z : ((0 : Int64) <<< ((32 : Int32) &&& 0x3f).toInt64).toInt = 0 := by decide
  have a1 := c_ladd ((0 : Int64) <<< ((32 : Int32) &&& 0x3f).toInt64) (g1.toInt64 &&& (4294967295 : Int64))
  have s : ((((0 : Int64) <<< ((32 : Int32) &&& 0x3f).toInt64 + (g1.toInt64 &&& (4294967295 : Int64))) <<< ((32 : Int32) &&& 0x3f).toInt64).toInt - ((0 : Int64) <<< ((32 : Int32) &&& 0x3f).toInt64 + (g1.toInt64 &&& (4294967295 : Int64))).toInt * 4294967296) % 18446744073709551616 = 0 := c_lshl _ 32 32 (by decide)
  have a2 := c_ladd ((((0 : Int64) <<< ((32 : Int32) &&& 0x3f).toInt64) + (g1.toInt64 &&& (4294967295 : Int64))) <<< ((32 : Int32) &&& 0x3f).toInt64) (g0.toInt64 &&& (4294967295 : Int64))
  have r := rng64 (o_lv g1 g0)
  have r1 := rng32 g1
  rw [Int64.toInt_ofInt_of_le (by show -(2 ^ 63 : Int) ≤ _; unfold o_u; omega) (by show _ < (2 ^ 63 : Int); unfold o_u; omega)]
  unfold o_lv at r ⊢; unfold o_u
  omega
theorem o_lu0 (w : Int64) (q : UInt64) (h : q = 0) : (w.toUInt64 >>> q).toInt64 = w := by
  rw [h]; simp
theorem o_byte_int (v : Int64) (n kk : Int32) (j : Nat) (h : kk < n) (hj : ((8 : Int32) * ((n - 1) - kk)).toBitVec.toNat % 64 = j) (hz : j = 0 → (((8 : Int32) * ((n - 1) - kk)) &&& 0x3f).toInt64.toUInt64 = 0) : (o_byte v n kk).toInt = (v.toInt % 18446744073709551616) / (2 ^ j : Nat) % 256 := by
  unfold o_byte; rw [if_pos h]
  have m := c_maskL (v.toUInt64 >>> ((((8 : Int32) * ((n - 1) - kk)) &&& 0x3f).toInt64).toUInt64).toInt64 255 8 (by decide) (by decide)
  have m' : ((v.toUInt64 >>> ((((8 : Int32) * ((n - 1) - kk)) &&& 0x3f).toInt64).toUInt64).toInt64 &&& 255).toInt = (v.toUInt64 >>> ((((8 : Int32) * ((n - 1) - kk)) &&& 0x3f).toInt64).toUInt64).toInt64.toInt % 256 := m
  have c := c_l2i ((v.toUInt64 >>> ((((8 : Int32) * ((n - 1) - kk)) &&& 0x3f).toInt64).toUInt64).toInt64 &&& 255)
  have r := rng32 ((v.toUInt64 >>> ((((8 : Int32) * ((n - 1) - kk)) &&& 0x3f).toInt64).toUInt64).toInt64 &&& 255).toInt32
  have e : (v.toUInt64 >>> ((((8 : Int32) * ((n - 1) - kk)) &&& 0x3f).toInt64).toUInt64).toInt64.toInt % 256 = (v.toInt % 18446744073709551616) / (2 ^ j : Nat) % 256 := by
    by_cases h0 : j = 0
    · rw [o_lu0 _ _ (hz h0), h0]
      show v.toInt % 256 = v.toInt % 18446744073709551616 / ((2 ^ 0 : Nat) : Int) % 256
      rw [show ((2 ^ 0 : Nat) : Int) = 1 from rfl]; omega
    · rw [c_lushr v _ j hj (by omega)]
  rw [← e, ← m']; omega
theorem o_byte_L (v : Int64) (n kk : Int32) : o_L (o_byte v n kk) := by
  unfold o_byte; split
  · have m : ((v.toUInt64 >>> ((((8 : Int32) * ((n - 1) - kk)) &&& 0x3f).toInt64).toUInt64).toInt64 &&& 255).toInt = (v.toUInt64 >>> ((((8 : Int32) * ((n - 1) - kk)) &&& 0x3f).toInt64).toUInt64).toInt64.toInt % 256 := c_maskL (v.toUInt64 >>> ((((8 : Int32) * ((n - 1) - kk)) &&& 0x3f).toInt64).toUInt64).toInt64 255 8 (by decide) (by decide)
    have c := c_l2i ((v.toUInt64 >>> ((((8 : Int32) * ((n - 1) - kk)) &&& 0x3f).toInt64).toUInt64).toInt64 &&& 255)
    have r := rng32 ((v.toUInt64 >>> ((((8 : Int32) * ((n - 1) - kk)) &&& 0x3f).toInt64).toUInt64).toInt64 &&& 255).toInt32
    exact o_L_of (by omega) (by omega)
  · exact o_L0
theorem o_n6 (x : Int32) : (1 : Int32) + (x &&& 2147483647) % (6 : Int32) = 1 ∨ (1 : Int32) + (x &&& 2147483647) % (6 : Int32) = 2 ∨ (1 : Int32) + (x &&& 2147483647) % (6 : Int32) = 3 ∨ (1 : Int32) + (x &&& 2147483647) % (6 : Int32) = 4 ∨ (1 : Int32) + (x &&& 2147483647) % (6 : Int32) = 5 ∨ (1 : Int32) + (x &&& 2147483647) % (6 : Int32) = 6 := by
  have m : (x &&& 2147483647).toInt = x.toInt % 2147483648 := c_mask x 2147483647 31 (by decide) (by decide)
  have b := (c_irem (x &&& 2147483647) 6 6 rfl).1 (by omega)
  have z := c_iadd 1 ((x &&& 2147483647) % (6 : Int32))
  have r := rng32 ((1 : Int32) + (x &&& 2147483647) % (6 : Int32))
  have o : (1 : Int32).toInt = 1 := rfl
  have t2 : (2 : Int32).toInt = 2 := rfl
  have t3 : (3 : Int32).toInt = 3 := rfl
  have t4 : (4 : Int32).toInt = 4 := rfl
  have t5 : (5 : Int32).toInt = 5 := rfl
  have t6 : (6 : Int32).toInt = 6 := rfl
  simp only [← Int32.toInt_inj]
  omega
theorem o_b_int (x : Int32) : ((o_b x).toInt - x.toInt) % 256 = 0 ∧ -128 ≤ (o_b x).toInt ∧ (o_b x).toInt ≤ 127 := by
  obtain ⟨h0, h1, h2⟩ := c_i2b x
  exact ⟨h0, h1, by show x.toInt8.toInt32.toInt ≤ 127; omega⟩
theorem o_fin1 (v : Int64) : Int64.ofInt (o_be (o_b (o_byte v 1 0)) []) = (v <<< ((56 : Int32) &&& 0x3f).toInt64) >>> ((56 : Int32) &&& 0x3f).toInt64 := by
  have e0 : (o_byte v 1 0).toInt = (v.toInt % 18446744073709551616) / 1 % 256 := o_byte_int v 1 0 0 (by decide) (by decide) (fun _ => by decide)
  obtain ⟨f0, g0, i0⟩ := o_b_int (o_byte v 1 0)
  have s : ((v <<< ((56 : Int32) &&& 0x3f).toInt64).toInt - v.toInt * 72057594037927936) % 18446744073709551616 = 0 := c_lshl v 56 56 (by decide)
  have t : ((v <<< ((56 : Int32) &&& 0x3f).toInt64) >>> ((56 : Int32) &&& 0x3f).toInt64).toInt = (v <<< ((56 : Int32) &&& 0x3f).toInt64).toInt / 72057594037927936 := c_lshr _ 56 56 (by decide)
  have r := rng64 (v <<< ((56 : Int32) &&& 0x3f).toInt64)
  have r' := rng64 v
  have eb : o_be (o_b (o_byte v 1 0)) [] = (o_b (o_byte v 1 0)).toInt := rfl
  apply Int64.toInt_inj.mp
  rw [t, eb]
  clear t eb
  generalize (o_b (o_byte v 1 0)).toInt = y0 at *
  generalize (o_byte v 1 0).toInt = z0 at *
  generalize (v <<< ((56 : Int32) &&& 0x3f).toInt64).toInt = w at *
  generalize v.toInt = u at *
  obtain ⟨x, hx⟩ : ∃ x, u % 18446744073709551616 = x := ⟨_, rfl⟩
  rw [hx] at e0
  have q : (w - x * 72057594037927936) % 18446744073709551616 = 0 := by subst hx; clear e0; omega
  clear s
  have hx' : 0 ≤ x ∧ x < 18446744073709551616 := by omega
  clear hx r'
  rw [Int64.toInt_ofInt_of_le (by show -(2 ^ 63 : Int) ≤ _; clear q; omega) (by show _ < (2 ^ 63 : Int); clear q; omega)]
  omega
theorem o_fin2 (v : Int64) : Int64.ofInt (o_be (o_b (o_byte v 2 0)) [(o_b (o_byte v 2 1))]) = (v <<< ((48 : Int32) &&& 0x3f).toInt64) >>> ((48 : Int32) &&& 0x3f).toInt64 := by
  have e0 : (o_byte v 2 0).toInt = (v.toInt % 18446744073709551616) / 256 % 256 := o_byte_int v 2 0 8 (by decide) (by decide) (fun h => absurd h (by decide))
  obtain ⟨f0, g0, i0⟩ := o_b_int (o_byte v 2 0)
  have e1 : (o_byte v 2 1).toInt = (v.toInt % 18446744073709551616) / 1 % 256 := o_byte_int v 2 1 0 (by decide) (by decide) (fun _ => by decide)
  obtain ⟨f1, g1, i1⟩ := o_b_int (o_byte v 2 1)
  have s : ((v <<< ((48 : Int32) &&& 0x3f).toInt64).toInt - v.toInt * 281474976710656) % 18446744073709551616 = 0 := c_lshl v 48 48 (by decide)
  have t : ((v <<< ((48 : Int32) &&& 0x3f).toInt64) >>> ((48 : Int32) &&& 0x3f).toInt64).toInt = (v <<< ((48 : Int32) &&& 0x3f).toInt64).toInt / 281474976710656 := c_lshr _ 48 48 (by decide)
  have r := rng64 (v <<< ((48 : Int32) &&& 0x3f).toInt64)
  have r' := rng64 v
  have eb : o_be (o_b (o_byte v 2 0)) [(o_b (o_byte v 2 1))] = ((o_b (o_byte v 2 0)).toInt * 256 + (o_b (o_byte v 2 1)).toInt % 256) := rfl
  apply Int64.toInt_inj.mp
  rw [t, eb]
  clear t eb
  generalize (o_b (o_byte v 2 0)).toInt = y0 at *
  generalize (o_byte v 2 0).toInt = z0 at *
  generalize (o_b (o_byte v 2 1)).toInt = y1 at *
  generalize (o_byte v 2 1).toInt = z1 at *
  generalize (v <<< ((48 : Int32) &&& 0x3f).toInt64).toInt = w at *
  generalize v.toInt = u at *
  obtain ⟨x, hx⟩ : ∃ x, u % 18446744073709551616 = x := ⟨_, rfl⟩
  rw [hx] at e0 e1
  have l1 : y1 % 256 = x / 1 % 256 := by clear s hx; omega
  have m1 : y1 % 256 = x % 256 := by clear s hx; omega
  obtain ⟨S1, hS1⟩ : ∃ S, y1 % 256 = S := ⟨_, rfl⟩
  rw [hS1] at m1
  have tt : (y0 * 256 + y1 % 256) = y0 * 256 + S1 := by clear s hx; omega
  rw [tt]; clear tt
  have q : (w - x * 281474976710656) % 18446744073709551616 = 0 := by subst hx; clear e0 e1 m1 l1; omega
  clear s e1 f1 g1 i1 hS1 l1
  have hx' : 0 ≤ x ∧ x < 18446744073709551616 := by omega
  clear hx r'
  rw [Int64.toInt_ofInt_of_le (by show -(2 ^ 63 : Int) ≤ _; clear q; omega) (by show _ < (2 ^ 63 : Int); clear q; omega)]
  omega
theorem o_fin3 (v : Int64) : Int64.ofInt (o_be (o_b (o_byte v 3 0)) [(o_b (o_byte v 3 1)), (o_b (o_byte v 3 2))]) = (v <<< ((40 : Int32) &&& 0x3f).toInt64) >>> ((40 : Int32) &&& 0x3f).toInt64 := by
  have e0 : (o_byte v 3 0).toInt = (v.toInt % 18446744073709551616) / 65536 % 256 := o_byte_int v 3 0 16 (by decide) (by decide) (fun h => absurd h (by decide))
  obtain ⟨f0, g0, i0⟩ := o_b_int (o_byte v 3 0)
  have e1 : (o_byte v 3 1).toInt = (v.toInt % 18446744073709551616) / 256 % 256 := o_byte_int v 3 1 8 (by decide) (by decide) (fun h => absurd h (by decide))
  obtain ⟨f1, g1, i1⟩ := o_b_int (o_byte v 3 1)
  have e2 : (o_byte v 3 2).toInt = (v.toInt % 18446744073709551616) / 1 % 256 := o_byte_int v 3 2 0 (by decide) (by decide) (fun _ => by decide)
  obtain ⟨f2, g2, i2⟩ := o_b_int (o_byte v 3 2)
  have s : ((v <<< ((40 : Int32) &&& 0x3f).toInt64).toInt - v.toInt * 1099511627776) % 18446744073709551616 = 0 := c_lshl v 40 40 (by decide)
  have t : ((v <<< ((40 : Int32) &&& 0x3f).toInt64) >>> ((40 : Int32) &&& 0x3f).toInt64).toInt = (v <<< ((40 : Int32) &&& 0x3f).toInt64).toInt / 1099511627776 := c_lshr _ 40 40 (by decide)
  have r := rng64 (v <<< ((40 : Int32) &&& 0x3f).toInt64)
  have r' := rng64 v
  have eb : o_be (o_b (o_byte v 3 0)) [(o_b (o_byte v 3 1)), (o_b (o_byte v 3 2))] = (((o_b (o_byte v 3 0)).toInt * 256 + (o_b (o_byte v 3 1)).toInt % 256) * 256 + (o_b (o_byte v 3 2)).toInt % 256) := rfl
  apply Int64.toInt_inj.mp
  rw [t, eb]
  clear t eb
  generalize (o_b (o_byte v 3 0)).toInt = y0 at *
  generalize (o_byte v 3 0).toInt = z0 at *
  generalize (o_b (o_byte v 3 1)).toInt = y1 at *
  generalize (o_byte v 3 1).toInt = z1 at *
  generalize (o_b (o_byte v 3 2)).toInt = y2 at *
  generalize (o_byte v 3 2).toInt = z2 at *
  generalize (v <<< ((40 : Int32) &&& 0x3f).toInt64).toInt = w at *
  generalize v.toInt = u at *
  obtain ⟨x, hx⟩ : ∃ x, u % 18446744073709551616 = x := ⟨_, rfl⟩
  rw [hx] at e0 e1 e2
  have l2 : y2 % 256 = x / 1 % 256 := by clear s hx; omega
  have m2 : y2 % 256 = x % 256 := by clear s hx; omega
  obtain ⟨S2, hS2⟩ : ∃ S, y2 % 256 = S := ⟨_, rfl⟩
  rw [hS2] at m2
  have l1 : y1 % 256 = x / 256 % 256 := by clear s hx; omega
  have m1 : y1 % 256 * 256 + S2 = x % 65536 := by rw [l1, m2]; clear s hx; omega
  obtain ⟨S1, hS1⟩ : ∃ S, y1 % 256 * 256 + S2 = S := ⟨_, rfl⟩
  rw [hS1] at m1
  have tt : ((y0 * 256 + y1 % 256) * 256 + y2 % 256) = y0 * 65536 + S1 := by clear s hx; omega
  rw [tt]; clear tt
  have q : (w - x * 1099511627776) % 18446744073709551616 = 0 := by subst hx; clear e0 e1 e2 m1 l1 m2 l2; omega
  clear s e1 f1 g1 i1 e2 f2 g2 i2 hS1 hS2 l1 l2 m2
  have hx' : 0 ≤ x ∧ x < 18446744073709551616 := by omega
  clear hx r'
  rw [Int64.toInt_ofInt_of_le (by show -(2 ^ 63 : Int) ≤ _; clear q; omega) (by show _ < (2 ^ 63 : Int); clear q; omega)]
  omega
theorem o_fin4 (v : Int64) : Int64.ofInt (o_be (o_b (o_byte v 4 0)) [(o_b (o_byte v 4 1)), (o_b (o_byte v 4 2)), (o_b (o_byte v 4 3))]) = (v <<< ((32 : Int32) &&& 0x3f).toInt64) >>> ((32 : Int32) &&& 0x3f).toInt64 := by
  have e0 : (o_byte v 4 0).toInt = (v.toInt % 18446744073709551616) / 16777216 % 256 := o_byte_int v 4 0 24 (by decide) (by decide) (fun h => absurd h (by decide))
  obtain ⟨f0, g0, i0⟩ := o_b_int (o_byte v 4 0)
  have e1 : (o_byte v 4 1).toInt = (v.toInt % 18446744073709551616) / 65536 % 256 := o_byte_int v 4 1 16 (by decide) (by decide) (fun h => absurd h (by decide))
  obtain ⟨f1, g1, i1⟩ := o_b_int (o_byte v 4 1)
  have e2 : (o_byte v 4 2).toInt = (v.toInt % 18446744073709551616) / 256 % 256 := o_byte_int v 4 2 8 (by decide) (by decide) (fun h => absurd h (by decide))
  obtain ⟨f2, g2, i2⟩ := o_b_int (o_byte v 4 2)
  have e3 : (o_byte v 4 3).toInt = (v.toInt % 18446744073709551616) / 1 % 256 := o_byte_int v 4 3 0 (by decide) (by decide) (fun _ => by decide)
  obtain ⟨f3, g3, i3⟩ := o_b_int (o_byte v 4 3)
  have s : ((v <<< ((32 : Int32) &&& 0x3f).toInt64).toInt - v.toInt * 4294967296) % 18446744073709551616 = 0 := c_lshl v 32 32 (by decide)
  have t : ((v <<< ((32 : Int32) &&& 0x3f).toInt64) >>> ((32 : Int32) &&& 0x3f).toInt64).toInt = (v <<< ((32 : Int32) &&& 0x3f).toInt64).toInt / 4294967296 := c_lshr _ 32 32 (by decide)
  have r := rng64 (v <<< ((32 : Int32) &&& 0x3f).toInt64)
  have r' := rng64 v
  have eb : o_be (o_b (o_byte v 4 0)) [(o_b (o_byte v 4 1)), (o_b (o_byte v 4 2)), (o_b (o_byte v 4 3))] = ((((o_b (o_byte v 4 0)).toInt * 256 + (o_b (o_byte v 4 1)).toInt % 256) * 256 + (o_b (o_byte v 4 2)).toInt % 256) * 256 + (o_b (o_byte v 4 3)).toInt % 256) := rfl
  apply Int64.toInt_inj.mp
  rw [t, eb]
  clear t eb
  generalize (o_b (o_byte v 4 0)).toInt = y0 at *
  generalize (o_byte v 4 0).toInt = z0 at *
  generalize (o_b (o_byte v 4 1)).toInt = y1 at *
  generalize (o_byte v 4 1).toInt = z1 at *
  generalize (o_b (o_byte v 4 2)).toInt = y2 at *
  generalize (o_byte v 4 2).toInt = z2 at *
  generalize (o_b (o_byte v 4 3)).toInt = y3 at *
  generalize (o_byte v 4 3).toInt = z3 at *
  generalize (v <<< ((32 : Int32) &&& 0x3f).toInt64).toInt = w at *
  generalize v.toInt = u at *
  obtain ⟨x, hx⟩ : ∃ x, u % 18446744073709551616 = x := ⟨_, rfl⟩
  rw [hx] at e0 e1 e2 e3
  have l3 : y3 % 256 = x / 1 % 256 := by clear s hx; omega
  have m3 : y3 % 256 = x % 256 := by clear s hx; omega
  obtain ⟨S3, hS3⟩ : ∃ S, y3 % 256 = S := ⟨_, rfl⟩
  rw [hS3] at m3
  have l2 : y2 % 256 = x / 256 % 256 := by clear s hx; omega
  have m2 : y2 % 256 * 256 + S3 = x % 65536 := by rw [l2, m3]; clear s hx; omega
  obtain ⟨S2, hS2⟩ : ∃ S, y2 % 256 * 256 + S3 = S := ⟨_, rfl⟩
  rw [hS2] at m2
  have l1 : y1 % 256 = x / 65536 % 256 := by clear s hx; omega
  have m1 : y1 % 256 * 65536 + S2 = x % 16777216 := by rw [l1, m2]; clear s hx; omega
  obtain ⟨S1, hS1⟩ : ∃ S, y1 % 256 * 65536 + S2 = S := ⟨_, rfl⟩
  rw [hS1] at m1
  have tt : (((y0 * 256 + y1 % 256) * 256 + y2 % 256) * 256 + y3 % 256) = y0 * 16777216 + S1 := by clear s hx; omega
  rw [tt]; clear tt
  have q : (w - x * 4294967296) % 18446744073709551616 = 0 := by subst hx; clear e0 e1 e2 e3 m1 l1 m2 l2 m3 l3; omega
  clear s e1 f1 g1 i1 e2 f2 g2 i2 e3 f3 g3 i3 hS1 hS2 hS3 l1 l2 l3 m2 m3
  have hx' : 0 ≤ x ∧ x < 18446744073709551616 := by omega
  clear hx r'
  rw [Int64.toInt_ofInt_of_le (by show -(2 ^ 63 : Int) ≤ _; clear q; omega) (by show _ < (2 ^ 63 : Int); clear q; omega)]
  omega
theorem o_fin5 (v : Int64) : Int64.ofInt (o_be (o_b (o_byte v 5 0)) [(o_b (o_byte v 5 1)), (o_b (o_byte v 5 2)), (o_b (o_byte v 5 3)), (o_b (o_byte v 5 4))]) = (v <<< ((24 : Int32) &&& 0x3f).toInt64) >>> ((24 : Int32) &&& 0x3f).toInt64 := by
  have e0 : (o_byte v 5 0).toInt = (v.toInt % 18446744073709551616) / 4294967296 % 256 := o_byte_int v 5 0 32 (by decide) (by decide) (fun h => absurd h (by decide))
  obtain ⟨f0, g0, i0⟩ := o_b_int (o_byte v 5 0)
  have e1 : (o_byte v 5 1).toInt = (v.toInt % 18446744073709551616) / 16777216 % 256 := o_byte_int v 5 1 24 (by decide) (by decide) (fun h => absurd h (by decide))
  obtain ⟨f1, g1, i1⟩ := o_b_int (o_byte v 5 1)
  have e2 : (o_byte v 5 2).toInt = (v.toInt % 18446744073709551616) / 65536 % 256 := o_byte_int v 5 2 16 (by decide) (by decide) (fun h => absurd h (by decide))
  obtain ⟨f2, g2, i2⟩ := o_b_int (o_byte v 5 2)
  have e3 : (o_byte v 5 3).toInt = (v.toInt % 18446744073709551616) / 256 % 256 := o_byte_int v 5 3 8 (by decide) (by decide) (fun h => absurd h (by decide))
  obtain ⟨f3, g3, i3⟩ := o_b_int (o_byte v 5 3)
  have e4 : (o_byte v 5 4).toInt = (v.toInt % 18446744073709551616) / 1 % 256 := o_byte_int v 5 4 0 (by decide) (by decide) (fun _ => by decide)
  obtain ⟨f4, g4, i4⟩ := o_b_int (o_byte v 5 4)
  have s : ((v <<< ((24 : Int32) &&& 0x3f).toInt64).toInt - v.toInt * 16777216) % 18446744073709551616 = 0 := c_lshl v 24 24 (by decide)
  have t : ((v <<< ((24 : Int32) &&& 0x3f).toInt64) >>> ((24 : Int32) &&& 0x3f).toInt64).toInt = (v <<< ((24 : Int32) &&& 0x3f).toInt64).toInt / 16777216 := c_lshr _ 24 24 (by decide)
  have r := rng64 (v <<< ((24 : Int32) &&& 0x3f).toInt64)
  have r' := rng64 v
  have eb : o_be (o_b (o_byte v 5 0)) [(o_b (o_byte v 5 1)), (o_b (o_byte v 5 2)), (o_b (o_byte v 5 3)), (o_b (o_byte v 5 4))] = (((((o_b (o_byte v 5 0)).toInt * 256 + (o_b (o_byte v 5 1)).toInt % 256) * 256 + (o_b (o_byte v 5 2)).toInt % 256) * 256 + (o_b (o_byte v 5 3)).toInt % 256) * 256 + (o_b (o_byte v 5 4)).toInt % 256) := rfl
  apply Int64.toInt_inj.mp
  rw [t, eb]
  clear t eb
  generalize (o_b (o_byte v 5 0)).toInt = y0 at *
  generalize (o_byte v 5 0).toInt = z0 at *
  generalize (o_b (o_byte v 5 1)).toInt = y1 at *
  generalize (o_byte v 5 1).toInt = z1 at *
  generalize (o_b (o_byte v 5 2)).toInt = y2 at *
  generalize (o_byte v 5 2).toInt = z2 at *
  generalize (o_b (o_byte v 5 3)).toInt = y3 at *
  generalize (o_byte v 5 3).toInt = z3 at *
  generalize (o_b (o_byte v 5 4)).toInt = y4 at *
  generalize (o_byte v 5 4).toInt = z4 at *
  generalize (v <<< ((24 : Int32) &&& 0x3f).toInt64).toInt = w at *
  generalize v.toInt = u at *
  obtain ⟨x, hx⟩ : ∃ x, u % 18446744073709551616 = x := ⟨_, rfl⟩
  rw [hx] at e0 e1 e2 e3 e4
  have l4 : y4 % 256 = x / 1 % 256 := by clear s hx; omega
  have m4 : y4 % 256 = x % 256 := by clear s hx; omega
  obtain ⟨S4, hS4⟩ : ∃ S, y4 % 256 = S := ⟨_, rfl⟩
  rw [hS4] at m4
  have l3 : y3 % 256 = x / 256 % 256 := by clear s hx; omega
  have m3 : y3 % 256 * 256 + S4 = x % 65536 := by rw [l3, m4]; clear s hx; omega
  obtain ⟨S3, hS3⟩ : ∃ S, y3 % 256 * 256 + S4 = S := ⟨_, rfl⟩
  rw [hS3] at m3
  have l2 : y2 % 256 = x / 65536 % 256 := by clear s hx; omega
  have m2 : y2 % 256 * 65536 + S3 = x % 16777216 := by rw [l2, m3]; clear s hx; omega
  obtain ⟨S2, hS2⟩ : ∃ S, y2 % 256 * 65536 + S3 = S := ⟨_, rfl⟩
  rw [hS2] at m2
  have l1 : y1 % 256 = x / 16777216 % 256 := by clear s hx; omega
  have m1 : y1 % 256 * 16777216 + S2 = x % 4294967296 := by rw [l1, m2]; clear s hx; omega
  obtain ⟨S1, hS1⟩ : ∃ S, y1 % 256 * 16777216 + S2 = S := ⟨_, rfl⟩
  rw [hS1] at m1
  have tt : ((((y0 * 256 + y1 % 256) * 256 + y2 % 256) * 256 + y3 % 256) * 256 + y4 % 256) = y0 * 4294967296 + S1 := by clear s hx; omega
  rw [tt]; clear tt
  have q : (w - x * 16777216) % 18446744073709551616 = 0 := by subst hx; clear e0 e1 e2 e3 e4 m1 l1 m2 l2 m3 l3 m4 l4; omega
  clear s e1 f1 g1 i1 e2 f2 g2 i2 e3 f3 g3 i3 e4 f4 g4 i4 hS1 hS2 hS3 hS4 l1 l2 l3 l4 m2 m3 m4
  have hx' : 0 ≤ x ∧ x < 18446744073709551616 := by omega
  clear hx r'
  rw [Int64.toInt_ofInt_of_le (by show -(2 ^ 63 : Int) ≤ _; clear q; omega) (by show _ < (2 ^ 63 : Int); clear q; omega)]
  omega
theorem o_fin6 (v : Int64) : Int64.ofInt (o_be (o_b (o_byte v 6 0)) [(o_b (o_byte v 6 1)), (o_b (o_byte v 6 2)), (o_b (o_byte v 6 3)), (o_b (o_byte v 6 4)), (o_b (o_byte v 6 5))]) = (v <<< ((16 : Int32) &&& 0x3f).toInt64) >>> ((16 : Int32) &&& 0x3f).toInt64 := by
  have e0 : (o_byte v 6 0).toInt = (v.toInt % 18446744073709551616) / 1099511627776 % 256 := o_byte_int v 6 0 40 (by decide) (by decide) (fun h => absurd h (by decide))
  obtain ⟨f0, g0, i0⟩ := o_b_int (o_byte v 6 0)
  have e1 : (o_byte v 6 1).toInt = (v.toInt % 18446744073709551616) / 4294967296 % 256 := o_byte_int v 6 1 32 (by decide) (by decide) (fun h => absurd h (by decide))
  obtain ⟨f1, g1, i1⟩ := o_b_int (o_byte v 6 1)
  have e2 : (o_byte v 6 2).toInt = (v.toInt % 18446744073709551616) / 16777216 % 256 := o_byte_int v 6 2 24 (by decide) (by decide) (fun h => absurd h (by decide))
  obtain ⟨f2, g2, i2⟩ := o_b_int (o_byte v 6 2)
  have e3 : (o_byte v 6 3).toInt = (v.toInt % 18446744073709551616) / 65536 % 256 := o_byte_int v 6 3 16 (by decide) (by decide) (fun h => absurd h (by decide))
  obtain ⟨f3, g3, i3⟩ := o_b_int (o_byte v 6 3)
  have e4 : (o_byte v 6 4).toInt = (v.toInt % 18446744073709551616) / 256 % 256 := o_byte_int v 6 4 8 (by decide) (by decide) (fun h => absurd h (by decide))
  obtain ⟨f4, g4, i4⟩ := o_b_int (o_byte v 6 4)
  have e5 : (o_byte v 6 5).toInt = (v.toInt % 18446744073709551616) / 1 % 256 := o_byte_int v 6 5 0 (by decide) (by decide) (fun _ => by decide)
  obtain ⟨f5, g5, i5⟩ := o_b_int (o_byte v 6 5)
  have s : ((v <<< ((16 : Int32) &&& 0x3f).toInt64).toInt - v.toInt * 65536) % 18446744073709551616 = 0 := c_lshl v 16 16 (by decide)
  have t : ((v <<< ((16 : Int32) &&& 0x3f).toInt64) >>> ((16 : Int32) &&& 0x3f).toInt64).toInt = (v <<< ((16 : Int32) &&& 0x3f).toInt64).toInt / 65536 := c_lshr _ 16 16 (by decide)
  have r := rng64 (v <<< ((16 : Int32) &&& 0x3f).toInt64)
  have r' := rng64 v
  have eb : o_be (o_b (o_byte v 6 0)) [(o_b (o_byte v 6 1)), (o_b (o_byte v 6 2)), (o_b (o_byte v 6 3)), (o_b (o_byte v 6 4)), (o_b (o_byte v 6 5))] = ((((((o_b (o_byte v 6 0)).toInt * 256 + (o_b (o_byte v 6 1)).toInt % 256) * 256 + (o_b (o_byte v 6 2)).toInt % 256) * 256 + (o_b (o_byte v 6 3)).toInt % 256) * 256 + (o_b (o_byte v 6 4)).toInt % 256) * 256 + (o_b (o_byte v 6 5)).toInt % 256) := rfl
  apply Int64.toInt_inj.mp
  rw [t, eb]
  clear t eb
  generalize (o_b (o_byte v 6 0)).toInt = y0 at *
  generalize (o_byte v 6 0).toInt = z0 at *
  generalize (o_b (o_byte v 6 1)).toInt = y1 at *
  generalize (o_byte v 6 1).toInt = z1 at *
  generalize (o_b (o_byte v 6 2)).toInt = y2 at *
  generalize (o_byte v 6 2).toInt = z2 at *
  generalize (o_b (o_byte v 6 3)).toInt = y3 at *
  generalize (o_byte v 6 3).toInt = z3 at *
  generalize (o_b (o_byte v 6 4)).toInt = y4 at *
  generalize (o_byte v 6 4).toInt = z4 at *
  generalize (o_b (o_byte v 6 5)).toInt = y5 at *
  generalize (o_byte v 6 5).toInt = z5 at *
  generalize (v <<< ((16 : Int32) &&& 0x3f).toInt64).toInt = w at *
  generalize v.toInt = u at *
  obtain ⟨x, hx⟩ : ∃ x, u % 18446744073709551616 = x := ⟨_, rfl⟩
  rw [hx] at e0 e1 e2 e3 e4 e5
  have l5 : y5 % 256 = x / 1 % 256 := by clear s hx; omega
  have m5 : y5 % 256 = x % 256 := by clear s hx; omega
  obtain ⟨S5, hS5⟩ : ∃ S, y5 % 256 = S := ⟨_, rfl⟩
  rw [hS5] at m5
  have l4 : y4 % 256 = x / 256 % 256 := by clear s hx; omega
  have m4 : y4 % 256 * 256 + S5 = x % 65536 := by rw [l4, m5]; clear s hx; omega
  obtain ⟨S4, hS4⟩ : ∃ S, y4 % 256 * 256 + S5 = S := ⟨_, rfl⟩
  rw [hS4] at m4
  have l3 : y3 % 256 = x / 65536 % 256 := by clear s hx; omega
  have m3 : y3 % 256 * 65536 + S4 = x % 16777216 := by rw [l3, m4]; clear s hx; omega
  obtain ⟨S3, hS3⟩ : ∃ S, y3 % 256 * 65536 + S4 = S := ⟨_, rfl⟩
  rw [hS3] at m3
  have l2 : y2 % 256 = x / 16777216 % 256 := by clear s hx; omega
  have m2 : y2 % 256 * 16777216 + S3 = x % 4294967296 := by rw [l2, m3]; clear s hx; omega
  obtain ⟨S2, hS2⟩ : ∃ S, y2 % 256 * 16777216 + S3 = S := ⟨_, rfl⟩
  rw [hS2] at m2
  have l1 : y1 % 256 = x / 4294967296 % 256 := by clear s hx; omega
  have m1 : y1 % 256 * 4294967296 + S2 = x % 1099511627776 := by rw [l1, m2]; clear s hx; omega
  obtain ⟨S1, hS1⟩ : ∃ S, y1 % 256 * 4294967296 + S2 = S := ⟨_, rfl⟩
  rw [hS1] at m1
  have tt : (((((y0 * 256 + y1 % 256) * 256 + y2 % 256) * 256 + y3 % 256) * 256 + y4 % 256) * 256 + y5 % 256) = y0 * 1099511627776 + S1 := by clear s hx; omega
  rw [tt]; clear tt
  have q : (w - x * 65536) % 18446744073709551616 = 0 := by subst hx; clear e0 e1 e2 e3 e4 e5 m1 l1 m2 l2 m3 l3 m4 l4 m5 l5; omega
  clear s e1 f1 g1 i1 e2 f2 g2 i2 e3 f3 g3 i3 e4 f4 g4 i4 e5 f5 g5 i5 hS1 hS2 hS3 hS4 hS5 l1 l2 l3 l4 l5 m2 m3 m4 m5
  have hx' : 0 ≤ x ∧ x < 18446744073709551616 := by omega
  clear hx r'
  rw [Int64.toInt_ofInt_of_le (by show -(2 ^ 63 : Int) ≤ _; clear q; omega) (by show _ < (2 ^ 63 : Int); clear q; omega)]
  omega
theorem o_byte_0 {v : Int64} {n kk : Int32} (h : ¬ kk < n) : o_byte v n kk = 0 := if_neg h
theorem o_or0 (x : Int32) : (0 : Int32) ||| x = x := by
  apply Int32.toBitVec_inj.mp
  show 0#32 ||| x.toBitVec = x.toBitVec
  simp
theorem o_shl0 (x : Int32) : x <<< ((0 : Int32) &&& 31) = x := by
  rw [show ((0 : Int32) &&& 31) = 0 from by decide]; exact Int32.shiftLeft_zero
theorem o_orn {x y : Int32} (h : y < 0) : (x ||| y) < 0 := by
  have z : (0 : Int32).toInt = 0 := rfl
  rw [Int32.lt_iff_toInt_lt] at h ⊢
  have := (c_orS x y).2.2 (by omega)
  omega
theorem o_or4 {x y z w : Int32} (h1 : o_Q x) (h2 : o_Q y) (h3 : o_Q z) (h4 : o_Q w) : ¬ ((x ||| y) ||| z) ||| w < 0 := by
  obtain ⟨a1, -⟩ := o_Q_int h1; obtain ⟨a2, -⟩ := o_Q_int h2; obtain ⟨a3, -⟩ := o_Q_int h3; obtain ⟨a4, -⟩ := o_Q_int h4
  have b1 := (c_orS x y).1 a1 a2
  have b2 := (c_orS (x ||| y) z).1 b1 a3
  have b3 := (c_orS ((x ||| y) ||| z) w).1 b2 a4
  have z0 : (0 : Int32).toInt = 0 := rfl
  rw [Int32.lt_iff_toInt_lt]; omega
theorem o_Bge {x : Int32} (h : o_B x) : ¬ x < -128 := by
  rw [Int32.lt_iff_toInt_lt]; have e : (-128 : Int32).toInt = -128 := by decide
  have := h.1; omega
theorem o_mne {m o n z : Nat} (p : m < z ∨ n ≤ m) (h1 : z ≤ o) (h2 : o < n) : m ≠ o := by omega
def o_N (x i n : Int32) (U lo hi : Int) : Prop := 0 < i.toInt ∧ i.toInt < U ∧ lo ≤ n.toInt ∧ n.toInt ≤ 31 ∧ (o_u x < 65536 → hi ≤ n.toInt)
theorem o_N0 {x : Int32} (h : 0 < x) : o_N x x 31 2147483648 31 31 := by
  have r := rng32 x
  have z : (0 : Int32).toInt = 0 := rfl
  have w : (31 : Int32).toInt = 31 := rfl
  rw [Int32.lt_iff_toInt_lt] at h
  exact ⟨by omega, by omega, by omega, by omega, fun _ => by omega⟩
theorem o_Nt {x i n : Int32} {U lo hi U' lo' hi' : Int} (c : Int32) (hc : c.toInt = U') (h : o_N x i n U lo hi) (q : i < c) (h1 : lo' ≤ lo) (h2 : hi' ≤ hi) : o_N x i n U' lo' hi' := by
  obtain ⟨a, b, d, e, f⟩ := h
  rw [Int32.lt_iff_toInt_lt] at q
  exact ⟨a, by omega, by omega, e, fun g => by have := f g; omega⟩
theorem o_NA {x n : Int32} (h : o_N x x n 2147483648 31 31) (q : ¬ x < 65536) : o_N x ((x.toUInt32 >>> ((16 : Int32) &&& 31).toUInt32).toInt32) (n + (-16 : Int32)) 65536 15 31 := by
  obtain ⟨a, b, d, e, f⟩ := h
  rw [Int32.lt_iff_toInt_lt] at q
  have z : (65536 : Int32).toInt = 65536 := by decide
  have w : (-16 : Int32).toInt = -16 := by decide
  have s : ((x.toUInt32 >>> ((16 : Int32) &&& 31).toUInt32).toInt32).toInt = (x.toInt % 4294967296) / 65536 := c_iushr x 16 16 (by decide) (by decide)
  have t := c_iadd n (-16)
  have r := rng32 (n + -16)
  refine ⟨by omega, by omega, by omega, by omega, fun g => ?_⟩
  unfold o_u at g; omega
theorem o_NB {x i n : Int32} (h : o_N x i n 65536 15 31) (q : ¬ i < 256) : o_N x ((i.toUInt32 >>> ((8 : Int32) &&& 31).toUInt32).toInt32) (n + (-8 : Int32)) 256 7 23 := by
  obtain ⟨a, b, d, e, f⟩ := h
  rw [Int32.lt_iff_toInt_lt] at q
  have z : (256 : Int32).toInt = 256 := by decide
  have w : (-8 : Int32).toInt = -8 := by decide
  have s : ((i.toUInt32 >>> ((8 : Int32) &&& 31).toUInt32).toInt32).toInt = (i.toInt % 4294967296) / 256 := c_iushr i 8 8 (by decide) (by decide)
  have t := c_iadd n (-8)
  have r := rng32 (n + -8)
  exact ⟨by omega, by omega, by omega, by omega, fun g => by have := f g; omega⟩
theorem o_NC {x i n : Int32} (h : o_N x i n 256 7 23) (q : ¬ i < 16) : o_N x ((i.toUInt32 >>> ((4 : Int32) &&& 31).toUInt32).toInt32) (n + (-4 : Int32)) 16 3 19 := by
  obtain ⟨a, b, d, e, f⟩ := h
  rw [Int32.lt_iff_toInt_lt] at q
  have z : (16 : Int32).toInt = 16 := by decide
  have w : (-4 : Int32).toInt = -4 := by decide
  have s : ((i.toUInt32 >>> ((4 : Int32) &&& 31).toUInt32).toInt32).toInt = (i.toInt % 4294967296) / 16 := c_iushr i 4 4 (by decide) (by decide)
  have t := c_iadd n (-4)
  have r := rng32 (n + -4)
  exact ⟨by omega, by omega, by omega, by omega, fun g => by have := f g; omega⟩
theorem o_ND {x i n : Int32} (h : o_N x i n 16 3 19) (q : ¬ i < 4) : o_N x ((i.toUInt32 >>> ((2 : Int32) &&& 31).toUInt32).toInt32) (n + (-2 : Int32)) 4 1 17 := by
  obtain ⟨a, b, d, e, f⟩ := h
  rw [Int32.lt_iff_toInt_lt] at q
  have z : (4 : Int32).toInt = 4 := by decide
  have w : (-2 : Int32).toInt = -2 := by decide
  have s : ((i.toUInt32 >>> ((2 : Int32) &&& 31).toUInt32).toInt32).toInt = (i.toInt % 4294967296) / 4 := c_iushr i 2 2 (by decide) (by decide)
  have t := c_iadd n (-2)
  have r := rng32 (n + -2)
  exact ⟨by omega, by omega, by omega, by omega, fun g => by have := f g; omega⟩
def o_nz (x r : Int32) : Prop := 0 ≤ r.toInt ∧ r.toInt ≤ 32 ∧ (o_u x < 65536 → 16 ≤ r.toInt)
theorem o_NE {x i n : Int32} (h : o_N x i n 4 1 17) : o_nz x (n - (i.toUInt32 >>> ((1 : Int32) &&& 31).toUInt32).toInt32) := by
  obtain ⟨a, b, d, e, f⟩ := h
  have s : ((i.toUInt32 >>> ((1 : Int32) &&& 31).toUInt32).toInt32).toInt = (i.toInt % 4294967296) / 2 := c_iushr i 1 1 (by decide) (by decide)
  have t := c_isub n ((i.toUInt32 >>> ((1 : Int32) &&& 31).toUInt32).toInt32)
  have r := rng32 (n - (i.toUInt32 >>> ((1 : Int32) &&& 31).toUInt32).toInt32)
  exact ⟨by omega, by omega, fun g => by have := f g; omega⟩
theorem o_nz32 (x : Int32) : o_nz x 32 := by
  have w : (32 : Int32).toInt = 32 := by decide
  exact ⟨by omega, by omega, fun _ => by omega⟩
theorem o_nzneg {x : Int32} (h : ¬ 0 < x) (h0 : ¬ x = 0) : o_nz x 0 := by
  have w : (0 : Int32).toInt = 0 := by decide
  have r := rng32 x
  have i := o_int1 h0
  rw [Int32.lt_iff_toInt_lt] at h
  exact ⟨by omega, by omega, fun g => by unfold o_u at g; omega⟩
def o_bl (x r : Int32) : Prop := 0 ≤ r.toInt ∧ r.toInt ≤ 32 ∧ (o_u x < 65536 → r.toInt ≤ 16)
theorem o_bl_of {x r : Int32} (h : o_nz x r) : o_bl x ((32 : Int32) - r) := by
  obtain ⟨a, b, c⟩ := h
  have w : (32 : Int32).toInt = 32 := by decide
  have t := c_isub 32 r
  have q := rng32 (32 - r)
  exact ⟨by omega, by omega, fun g => by have := c g; omega⟩
theorem o_le48 {r : Int32} (h : r.toInt ≤ 48) : ¬ (48 : Int32) < r := by
  have w : (48 : Int32).toInt = 48 := by decide
  rw [Int32.lt_iff_toInt_lt]; omega
theorem o_bl1 {x r : Int32} (h : o_bl x r) : (¬ (48 : Int32) < (0 : Int32) + r) ∧ ¬ (48 : Int32) < ((0 : Int32) + r) - 1 := by
  obtain ⟨a, b, -⟩ := h
  have w : (0 : Int32).toInt = 0 := by decide
  have w1 : (1 : Int32).toInt = 1 := by decide
  have t := c_iadd 0 r
  have q := rng32 (0 + r)
  have t' := c_isub (0 + r) 1
  have q' := rng32 ((0 + r) - 1)
  exact ⟨o_le48 (by omega), o_le48 (by omega)⟩
theorem o_bl2 {x r : Int32} (h : o_bl x r) (hx : o_u x < 65536) : (¬ (48 : Int32) < (32 : Int32) + r) ∧ ¬ (48 : Int32) < ((32 : Int32) + r) - 1 := by
  obtain ⟨a, b, c⟩ := h
  have c' := c hx
  have w : (32 : Int32).toInt = 32 := by decide
  have w1 : (1 : Int32).toInt = 1 := by decide
  have t := c_iadd 32 r
  have q := rng32 (32 + r)
  have t' := c_isub (32 + r) 1
  have q' := rng32 ((32 + r) - 1)
  exact ⟨o_le48 (by omega), o_le48 (by omega)⟩
theorem o_P_nn {p : Int32} (h : o_u p < 65536) : ¬ p < 0 := by
  have w : (0 : Int32).toInt = 0 := by decide
  have r := rng32 p
  rw [Int32.lt_iff_toInt_lt]; unfold o_u at h; omega
theorem o_P_ne {p : Int32} (h : 0 < o_u p) : ¬ p = 0 := o_u_ne (by omega)
theorem o_P_int {p : Int32} (h : o_u p < 65536) : p.toInt = o_u p := by
  have r := rng32 p
  unfold o_u at *; omega
theorem o_lvZ {k : Int} (h : k = 0) : o_lv 0 0 = Int64.ofInt k := by
  rw [o_lv_eq, h]; rfl
theorem o_lvP1 {k : Int} {m : Int32} (h : k = o_u m) : o_lv 0 m = Int64.ofInt k := by
  have w : (0 : Int32).toInt = 0 := by decide
  rw [o_lv_eq, h]; exact congrArg Int64.ofInt (by omega)
theorem o_lvP2 {k : Int} {p m : Int32} (h2 : o_u p < 65536) (h : k = o_u p * 4294967296 + o_u m) : o_lv p m = Int64.ofInt k := by
  rw [o_lv_eq, h, o_P_int h2]
theorem o_lvN1 {k : Int} {m : Int32} (h0 : ¬ m = 0) (h : k = -o_u m) : o_lv (-1) (-m) = Int64.ofInt k := by
  have w : (-1 : Int32).toInt = -1 := by decide
  rw [o_lv_eq, h, o_neg_u h0]; exact congrArg Int64.ofInt (by omega)
theorem o_lvNa {k : Int} {p m : Int32} (h2 : o_u p < 65536) (h0 : ¬ m = 0) (h : k = -(o_u p * 4294967296 + o_u m)) : o_lv (p ^^^ (-1 : Int32)) (-m) = Int64.ofInt k := by
  rw [o_lv_eq, h, o_neg_u h0, o_not_int, o_P_int h2]; exact congrArg Int64.ofInt (by omega)
theorem o_lvNb {k : Int} {p m : Int32} (h1 : 0 < o_u p) (h2 : o_u p < 65536) (h0 : m = 0) (h : k = -(o_u p * 4294967296 + o_u m)) : o_lv (-p) (-m) = Int64.ofInt k := by
  have a := c_ineg p
  have r := rng32 (-p)
  have e := o_P_int h2
  have z : o_u (-m) = 0 := by rw [h0]; decide
  have z' : o_u m = 0 := by rw [h0]; decide
  rw [o_lv_eq, h, z, z']; exact congrArg Int64.ofInt (by omega)
theorem o_JA1 {d e : Int32} {k : Int} (hv : k = o_u d - 4294967296) (h0 : ¬ d = 0) : o_mg [-d] (-k) := o_mg1 (by rw [o_neg_u h0]; omega) (by have := o_u_rng d; omega)
theorem o_JA2 {d e : Int32} {k : Int} (hv : k = o_u d - 4294967296) (h0 : d = 0) (h1 : e = 0) : o_mg [1, e] (-k) := by
  have z : o_u d = 0 := by rw [h0]; decide
  have z' : o_u e = 0 := by rw [h1]; decide
  have o : o_u 1 = 1 := by decide
  exact o_mg2 (by omega) (by omega) (by omega)
theorem o_JB1 {d e : Int32} {k : Int} (hv : k = d.toInt * 4294967296 + o_u e) (h1 : -65535 ≤ d.toInt) (h2 : d.toInt ≤ -2) (h0 : ¬ e = 0) : o_mg [d ^^^ (-1 : Int32), -e] (-k) := by
  have n := o_not_int d
  have u : o_u (d ^^^ (-1 : Int32)) = -d.toInt - 1 := by unfold o_u; omega
  have v := o_neg_u h0
  exact o_mg2 (by omega) (by omega) (by omega)
theorem o_JB2 {d e : Int32} {k : Int} (hv : k = d.toInt * 4294967296 + o_u e) (h1 : -65535 ≤ d.toInt) (h2 : d.toInt ≤ -2) (h0 : e = 0) : o_mg [-d, e] (-k) := by
  have z : o_u e = 0 := by rw [h0]; decide
  have a := c_ineg d
  have u : o_u (-d) = -d.toInt := by unfold o_u; omega
  exact o_mg2 (by omega) (by omega) (by omega)
theorem o_dne {d : Int32} (h : d.toInt ≤ -2) : ¬ d = 0 := fun e => by rw [o_int0 e] at h; omega
theorem o_or0l {d e : Int32} (h : ((0 : Int32) ||| d) ||| e = 0) : d = 0 := o_or_r (o_or_l h)
theorem o_or4l {d e : Int32} (h : ((4 : Int32) ||| d) ||| e = 0) : False := absurd (o_or_l (o_or_l h)) (by decide)
theorem o_sb {f a b : Nat} {c : Int32} (h : Int32.ofNat a - Int32.ofNat b = c) : Int32.ofNat (f + a) - Int32.ofNat (f + b) = c := by
  rw [← h, Int32.ofNat_add, Int32.ofNat_add]
  generalize Int32.ofNat f = x; generalize Int32.ofNat a = y; generalize Int32.ofNat b = z
  have a1 := c_iadd x y; have a2 := c_iadd x z; have s1 := c_isub (x + y) (x + z); have s2 := c_isub y z
  have r1 := rng32 (x + y - (x + z)); have r2 := rng32 (y - z)
  exact Int32.toInt_inj.mp (by omega)
theorem o_symL {q : Int32} (h : o_Q q) : o_L (o_sym q) := ⟨(o_sym_all h).2.1, (o_sym_all h).2.2.2.2.2⟩
theorem o_symB {q : Int32} (h : o_Q q) : o_b (o_sym q) = o_sym q := (o_sym_all h).2.2.2.1
theorem o_L61 : o_L 61 := ⟨by decide, by decide⟩
theorem o_b61 : o_b 61 = 61 := by decide
abbrev y_42 : MethodName := ⟨"com/example/atomicity/atomicity/cdc/DecimalReader", "read", "(Ljava/lang/String;)Ljava/math/BigDecimal;"⟩
abbrev y_41 : MethodName := ⟨"java/math/BigDecimal", "unscaledValue", "()Ljava/math/BigInteger;"⟩
abbrev y_40 : MethodName := ⟨"java/math/BigDecimal", "inflated", "()Ljava/math/BigInteger;"⟩
abbrev y_39 : MethodName := ⟨"java/math/BigDecimal", "scale", "()I"⟩
abbrev y_38 : MethodName := ⟨"java/math/BigDecimal", "<init>", "(Ljava/math/BigInteger;I)V"⟩
abbrev y_37 : MethodName := ⟨"java/math/BigDecimal", "toStrictBigInteger", "(Ljava/math/BigInteger;)Ljava/math/BigInteger;"⟩
abbrev y_36 : MethodName := ⟨"java/math/BigDecimal", "compactValFor", "(Ljava/math/BigInteger;)J"⟩
abbrev y_35 : MethodName := ⟨"java/math/BigInteger", "longValue", "()J"⟩
abbrev y_34 : MethodName := ⟨"java/math/BigInteger", "getInt", "(I)I"⟩
abbrev y_33 : MethodName := ⟨"java/math/BigInteger", "firstNonzeroIntNum", "()I"⟩
abbrev y_32 : MethodName := ⟨"java/math/BigInteger", "signInt", "()I"⟩
abbrev y_31 : MethodName := ⟨"java/math/BigInteger", "bitLength", "()I"⟩
abbrev y_30 : MethodName := ⟨"java/lang/Integer", "bitCount", "(I)I"⟩
abbrev y_29 : MethodName := ⟨"java/math/BigInteger", "bitLengthForInt", "(I)I"⟩
abbrev y_28 : MethodName := ⟨"java/lang/Integer", "numberOfLeadingZeros", "(I)I"⟩
abbrev y_27 : MethodName := ⟨"java/math/BigInteger", "<init>", "([B)V"⟩
abbrev y_26 : MethodName := ⟨"java/math/BigInteger", "<init>", "([BII)V"⟩
abbrev y_25 : MethodName := ⟨"java/util/Objects", "checkFromIndexSize", "(III)I"⟩
abbrev y_24 : MethodName := ⟨"jdk/internal/util/Preconditions", "checkFromIndexSize", "(IIILjava/util/function/BiFunction;)I"⟩
abbrev y_23 : MethodName := ⟨"java/lang/Number", "<init>", "()V"⟩
abbrev y_22 : MethodName := ⟨"java/math/BigInteger", "makePositive", "(I[BII)[I"⟩
abbrev y_21 : MethodName := ⟨"java/math/BigInteger", "stripLeadingZeroBytes", "(I[BII)[I"⟩
abbrev y_20 : MethodName := ⟨"java/util/Base64$Decoder", "decodeBlock", "([BII[BIZZ)I"⟩
abbrev y_19 : MethodName := ⟨"java/util/Base64$Decoder", "decode", "(Ljava/lang/String;)[B"⟩
abbrev y_18 : MethodName := ⟨"java/util/Base64$Decoder", "decode", "([B)[B"⟩
abbrev y_17 : MethodName := ⟨"java/util/Base64$Decoder", "decode0", "([BII[B)I"⟩
abbrev y_16 : MethodName := ⟨"java/util/Base64$Decoder", "decodedOutLength", "([BII)I"⟩
abbrev y_15 : MethodName := ⟨"java/lang/String", "getBytes", "(Ljava/nio/charset/Charset;)[B"⟩
abbrev y_14 : MethodName := ⟨"java/lang/String", "encode", "(Ljava/nio/charset/Charset;B[B)[B"⟩
abbrev y_13 : MethodName := ⟨"java/lang/String", "encode8859_1", "(B[B)[B"⟩
abbrev y_12 : MethodName := ⟨"java/lang/String", "encode8859_1", "(B[BZ)[B"⟩
abbrev y_11 : MethodName := ⟨"java/lang/String", "coder", "()B"⟩
abbrev y_10 : MethodName := ⟨"java/util/Base64", "getDecoder", "()Ljava/util/Base64$Decoder;"⟩
abbrev y_9 : MethodName := ⟨"java/util/Objects", "requireNonNull", "(Ljava/lang/Object;Ljava/lang/String;)Ljava/lang/Object;"⟩
abbrev y_8 : MethodName := ⟨"com/example/atomicity/atomicity/cdc/DecimalReader", "<init>", "(I)V"⟩
abbrev y_7 : MethodName := ⟨"com/example/atomicity/atomicity/cdc/DecimalReaderReadPinLaw", "group", "([CIIIII)V"⟩
abbrev y_6 : MethodName := ⟨"com/example/atomicity/atomicity/cdc/DecimalReaderReadPinLaw", "byteAt", "(JII)I"⟩
abbrev y_5 : MethodName := ⟨"com/example/atomicity/atomicity/cdc/DecimalReaderReadPinLaw", "sym", "(I)C"⟩
abbrev y_4 : MethodName := ⟨"java/lang/String", "<init>", "([C)V"⟩
abbrev y_3 : MethodName := ⟨"java/lang/String", "<init>", "([CIILjava/lang/Void;)V"⟩
abbrev y_2 : MethodName := ⟨"java/lang/StringUTF16", "coderFromArrayLen", "([BI)B"⟩
abbrev y_1 : MethodName := ⟨"java/lang/StringUTF16", "compress", "([CII)[B"⟩
abbrev y_0 : MethodName := ⟨"java/lang/StringUTF16", "compress", "([CI[BII)I"⟩
theorem d0_0 : De code 0 (.iconst 1) 1 1 := dk (by decide +kernel)
theorem d0_1 : De code 1 (.iload_n 2) 1 2 := dk (by decide +kernel)
theorem d0_2 : De code 2 (.ldc 7) 2 4 := dk (by decide +kernel)
theorem d0_4 : De code 4 (.iand) 1 5 := dk (by decide +kernel)
theorem d0_5 : De code 5 (.bipush 6) 2 7 := dk (by decide +kernel)
theorem d0_7 : De code 7 (.irem) 1 8 := dk (by decide +kernel)
theorem d0_8 : De code 8 (.iadd) 1 9 := dk (by decide +kernel)
theorem d0_9 : De code 9 (.istore 4) 2 11 := dk (by decide +kernel)
theorem d0_11 : De code 11 (.iconst 4) 1 12 := dk (by decide +kernel)
theorem d0_12 : De code 12 (.newarray .char) 2 14 := dk (by decide +kernel)
theorem d0_14 : De code 14 (.astore 5) 2 16 := dk (by decide +kernel)
theorem d0_16 : De code 16 (.bipush 8) 2 18 := dk (by decide +kernel)
theorem d0_18 : De code 18 (.newarray .char) 2 20 := dk (by decide +kernel)
theorem d0_20 : De code 20 (.astore 6) 2 22 := dk (by decide +kernel)
theorem d0_22 : De code 22 (.lload_n 0) 1 23 := dk (by decide +kernel)
theorem d0_23 : De code 23 (.iload 4) 2 25 := dk (by decide +kernel)
theorem d0_25 : De code 25 (.iconst 0) 1 26 := dk (by decide +kernel)
theorem d0_26 : De code 26 (.invokestatic 8) 3 29 := dk (by decide +kernel)
theorem d0_29 : De code 29 (.istore 7) 2 31 := dk (by decide +kernel)
theorem d0_31 : De code 31 (.lload_n 0) 1 32 := dk (by decide +kernel)
theorem d0_32 : De code 32 (.iload 4) 2 34 := dk (by decide +kernel)
theorem d0_34 : De code 34 (.iconst 1) 1 35 := dk (by decide +kernel)
theorem d0_35 : De code 35 (.invokestatic 8) 3 38 := dk (by decide +kernel)
theorem d0_38 : De code 38 (.istore 8) 2 40 := dk (by decide +kernel)
theorem d0_40 : De code 40 (.lload_n 0) 1 41 := dk (by decide +kernel)
theorem d0_41 : De code 41 (.iload 4) 2 43 := dk (by decide +kernel)
theorem d0_43 : De code 43 (.iconst 2) 1 44 := dk (by decide +kernel)
theorem d0_44 : De code 44 (.invokestatic 8) 3 47 := dk (by decide +kernel)
theorem d0_47 : De code 47 (.istore 9) 2 49 := dk (by decide +kernel)
theorem d0_49 : De code 49 (.lload_n 0) 1 50 := dk (by decide +kernel)
theorem d0_50 : De code 50 (.iload 4) 2 52 := dk (by decide +kernel)
theorem d0_52 : De code 52 (.iconst 3) 1 53 := dk (by decide +kernel)
theorem d0_53 : De code 53 (.invokestatic 8) 3 56 := dk (by decide +kernel)
theorem d0_56 : De code 56 (.istore 10) 2 58 := dk (by decide +kernel)
theorem d0_58 : De code 58 (.lload_n 0) 1 59 := dk (by decide +kernel)
theorem d0_59 : De code 59 (.iload 4) 2 61 := dk (by decide +kernel)
theorem d0_61 : De code 61 (.iconst 4) 1 62 := dk (by decide +kernel)
theorem d0_62 : De code 62 (.invokestatic 8) 3 65 := dk (by decide +kernel)
theorem d0_65 : De code 65 (.istore 11) 2 67 := dk (by decide +kernel)
theorem d0_67 : De code 67 (.lload_n 0) 1 68 := dk (by decide +kernel)
theorem d0_68 : De code 68 (.iload 4) 2 70 := dk (by decide +kernel)
theorem d0_70 : De code 70 (.iconst 5) 1 71 := dk (by decide +kernel)
theorem d0_71 : De code 71 (.invokestatic 8) 3 74 := dk (by decide +kernel)
theorem d0_74 : De code 74 (.istore 12) 2 76 := dk (by decide +kernel)
theorem d0_76 : De code 76 (.iload 4) 2 78 := dk (by decide +kernel)
theorem d0_78 : De code 78 (.iconst 3) 1 79 := dk (by decide +kernel)
theorem d0_79 : DeJ code 79 (.if_icmp .gt) 82 110 := dj 31 (by decide +kernel) (by decide)
theorem d0_82 : De code 82 (.aload 5) 2 84 := dk (by decide +kernel)
theorem d0_84 : De code 84 (.iconst 0) 1 85 := dk (by decide +kernel)
theorem d0_85 : De code 85 (.iload 7) 2 87 := dk (by decide +kernel)
theorem d0_87 : De code 87 (.iload 8) 2 89 := dk (by decide +kernel)
theorem d0_89 : De code 89 (.iload 9) 2 91 := dk (by decide +kernel)
theorem d0_91 : De code 91 (.iload 4) 2 93 := dk (by decide +kernel)
theorem d0_93 : De code 93 (.invokestatic 14) 3 96 := dk (by decide +kernel)
theorem d0_96 : De code 96 (.new 18) 3 99 := dk (by decide +kernel)
theorem d0_99 : De code 99 (.dup) 1 100 := dk (by decide +kernel)
theorem d0_100 : De code 100 (.aload 5) 2 102 := dk (by decide +kernel)
theorem d0_102 : De code 102 (.invokespecial 20) 3 105 := dk (by decide +kernel)
theorem d0_105 : De code 105 (.astore 13) 2 107 := dk (by decide +kernel)
theorem d0_107 : DeJ code 107 .goto 110 150 := dj 43 (by decide +kernel) (by decide)
theorem d0_110 : De code 110 (.aload 6) 2 112 := dk (by decide +kernel)
theorem d0_112 : De code 112 (.iconst 0) 1 113 := dk (by decide +kernel)
theorem d0_113 : De code 113 (.iload 7) 2 115 := dk (by decide +kernel)
theorem d0_115 : De code 115 (.iload 8) 2 117 := dk (by decide +kernel)
theorem d0_117 : De code 117 (.iload 9) 2 119 := dk (by decide +kernel)
theorem d0_119 : De code 119 (.iconst 3) 1 120 := dk (by decide +kernel)
theorem d0_120 : De code 120 (.invokestatic 14) 3 123 := dk (by decide +kernel)
theorem d0_123 : De code 123 (.aload 6) 2 125 := dk (by decide +kernel)
theorem d0_125 : De code 125 (.iconst 4) 1 126 := dk (by decide +kernel)
theorem d0_126 : De code 126 (.iload 10) 2 128 := dk (by decide +kernel)
theorem d0_128 : De code 128 (.iload 11) 2 130 := dk (by decide +kernel)
theorem d0_130 : De code 130 (.iload 12) 2 132 := dk (by decide +kernel)
theorem d0_132 : De code 132 (.iload 4) 2 134 := dk (by decide +kernel)
theorem d0_134 : De code 134 (.iconst 3) 1 135 := dk (by decide +kernel)
theorem d0_135 : De code 135 (.isub) 1 136 := dk (by decide +kernel)
theorem d0_136 : De code 136 (.invokestatic 14) 3 139 := dk (by decide +kernel)
theorem d0_139 : De code 139 (.new 18) 3 142 := dk (by decide +kernel)
theorem d0_142 : De code 142 (.dup) 1 143 := dk (by decide +kernel)
theorem d0_143 : De code 143 (.aload 6) 2 145 := dk (by decide +kernel)
theorem d0_145 : De code 145 (.invokespecial 20) 3 148 := dk (by decide +kernel)
theorem d0_148 : De code 148 (.astore 13) 2 150 := dk (by decide +kernel)
theorem d0_150 : De code 150 (.new 23) 3 153 := dk (by decide +kernel)
theorem d0_153 : De code 153 (.dup) 1 154 := dk (by decide +kernel)
theorem d0_154 : De code 154 (.iload_n 3) 1 155 := dk (by decide +kernel)
theorem d0_155 : De code 155 (.invokespecial 25) 3 158 := dk (by decide +kernel)
theorem d0_158 : De code 158 (.aload 13) 2 160 := dk (by decide +kernel)
theorem d0_160 : De code 160 (.invokevirtual 28) 3 163 := dk (by decide +kernel)
theorem d0_163 : De code 163 (.astore 14) 2 165 := dk (by decide +kernel)
theorem d0_165 : De code 165 (.bipush 64) 2 167 := dk (by decide +kernel)
theorem d0_167 : De code 167 (.bipush 8) 2 169 := dk (by decide +kernel)
theorem d0_169 : De code 169 (.iload 4) 2 171 := dk (by decide +kernel)
theorem d0_171 : De code 171 (.imul) 1 172 := dk (by decide +kernel)
theorem d0_172 : De code 172 (.isub) 1 173 := dk (by decide +kernel)
theorem d0_173 : De code 173 (.istore 15) 2 175 := dk (by decide +kernel)
theorem d0_175 : De code 175 (.lload_n 0) 1 176 := dk (by decide +kernel)
theorem d0_176 : De code 176 (.iload 15) 2 178 := dk (by decide +kernel)
theorem d0_178 : De code 178 (.lshl) 1 179 := dk (by decide +kernel)
theorem d0_179 : De code 179 (.iload 15) 2 181 := dk (by decide +kernel)
theorem d0_181 : De code 181 (.lshr) 1 182 := dk (by decide +kernel)
theorem d0_182 : De code 182 (.lstore 16) 2 184 := dk (by decide +kernel)
theorem d0_184 : De code 184 (.aload 14) 2 186 := dk (by decide +kernel)
theorem d0_186 : De code 186 (.invokevirtual 32) 3 189 := dk (by decide +kernel)
theorem d0_189 : De code 189 (.iload_n 3) 1 190 := dk (by decide +kernel)
theorem d0_190 : DeJ code 190 (.if_icmp .ne) 193 224 := dj 34 (by decide +kernel) (by decide)
theorem d0_193 : De code 193 (.aload 14) 2 195 := dk (by decide +kernel)
theorem d0_195 : De code 195 (.invokevirtual 38) 3 198 := dk (by decide +kernel)
theorem d0_198 : De code 198 (.invokevirtual 42) 3 201 := dk (by decide +kernel)
theorem d0_201 : De code 201 (.bipush 48) 2 203 := dk (by decide +kernel)
theorem d0_203 : DeJ code 203 (.if_icmp .gt) 206 224 := dj 21 (by decide +kernel) (by decide)
theorem d0_206 : De code 206 (.aload 14) 2 208 := dk (by decide +kernel)
theorem d0_208 : De code 208 (.invokevirtual 38) 3 211 := dk (by decide +kernel)
theorem d0_211 : De code 211 (.invokevirtual 47) 3 214 := dk (by decide +kernel)
theorem d0_214 : De code 214 (.lload 16) 2 216 := dk (by decide +kernel)
theorem d0_216 : De code 216 (.lcmp) 1 217 := dk (by decide +kernel)
theorem d0_217 : DeJ code 217 (.ifCond .ne) 220 224 := dj 7 (by decide +kernel) (by decide)
theorem d0_220 : De code 220 (.iconst 1) 1 221 := dk (by decide +kernel)
theorem d0_221 : DeJ code 221 .goto 224 225 := dj 4 (by decide +kernel) (by decide)
theorem d0_225 : De code 225 (.ireturn) 1 226 := dk (by decide +kernel)
theorem d1_0 : De c1 0 (.iload_n 3) 1 1 := dk (by decide +kernel)
theorem d1_1 : De c1 1 (.iload_n 2) 1 2 := dk (by decide +kernel)
theorem d1_2 : DeJ c1 2 (.if_icmp .lt) 5 7 := dj 5 (by decide +kernel) (by decide)
theorem d1_5 : De c1 5 (.iconst 0) 1 6 := dk (by decide +kernel)
theorem d1_6 : De c1 6 (.ireturn) 1 7 := dk (by decide +kernel)
theorem d1_7 : De c1 7 (.lload_n 0) 1 8 := dk (by decide +kernel)
theorem d1_8 : De c1 8 (.bipush 8) 2 10 := dk (by decide +kernel)
theorem d1_10 : De c1 10 (.iload_n 2) 1 11 := dk (by decide +kernel)
theorem d1_11 : De c1 11 (.iconst 1) 1 12 := dk (by decide +kernel)
theorem d1_12 : De c1 12 (.isub) 1 13 := dk (by decide +kernel)
theorem d1_13 : De c1 13 (.iload_n 3) 1 14 := dk (by decide +kernel)
theorem d1_14 : De c1 14 (.isub) 1 15 := dk (by decide +kernel)
theorem d1_15 : De c1 15 (.imul) 1 16 := dk (by decide +kernel)
theorem d1_16 : De c1 16 (.lushr) 1 17 := dk (by decide +kernel)
theorem d1_17 : De c1 17 (.ldc2_w 51) 3 20 := dk (by decide +kernel)
theorem d1_20 : De c1 20 (.land) 1 21 := dk (by decide +kernel)
theorem d1_21 : De c1 21 (.l2i) 1 22 := dk (by decide +kernel)
theorem d1_22 : De c1 22 (.ireturn) 1 23 := dk (by decide +kernel)
theorem d2_0 : De c2 0 (.iload_n 2) 1 1 := dk (by decide +kernel)
theorem d2_1 : De c2 1 (.bipush 16) 2 3 := dk (by decide +kernel)
theorem d2_3 : De c2 3 (.ishl) 1 4 := dk (by decide +kernel)
theorem d2_4 : De c2 4 (.iload_n 3) 1 5 := dk (by decide +kernel)
theorem d2_5 : De c2 5 (.bipush 8) 2 7 := dk (by decide +kernel)
theorem d2_7 : De c2 7 (.ishl) 1 8 := dk (by decide +kernel)
theorem d2_8 : De c2 8 (.ior) 1 9 := dk (by decide +kernel)
theorem d2_9 : De c2 9 (.iload 4) 2 11 := dk (by decide +kernel)
theorem d2_11 : De c2 11 (.ior) 1 12 := dk (by decide +kernel)
theorem d2_12 : De c2 12 (.istore 6) 2 14 := dk (by decide +kernel)
theorem d2_14 : De c2 14 (.aload_n 0) 1 15 := dk (by decide +kernel)
theorem d2_15 : De c2 15 (.iload_n 1) 1 16 := dk (by decide +kernel)
theorem d2_16 : De c2 16 (.iload 6) 2 18 := dk (by decide +kernel)
theorem d2_18 : De c2 18 (.bipush 18) 2 20 := dk (by decide +kernel)
theorem d2_20 : De c2 20 (.iushr) 1 21 := dk (by decide +kernel)
theorem d2_21 : De c2 21 (.bipush 63) 2 23 := dk (by decide +kernel)
theorem d2_23 : De c2 23 (.iand) 1 24 := dk (by decide +kernel)
theorem d2_24 : De c2 24 (.invokestatic 53) 3 27 := dk (by decide +kernel)
theorem d2_27 : De c2 27 (.castore) 1 28 := dk (by decide +kernel)
theorem d2_28 : De c2 28 (.aload_n 0) 1 29 := dk (by decide +kernel)
theorem d2_29 : De c2 29 (.iload_n 1) 1 30 := dk (by decide +kernel)
theorem d2_30 : De c2 30 (.iconst 1) 1 31 := dk (by decide +kernel)
theorem d2_31 : De c2 31 (.iadd) 1 32 := dk (by decide +kernel)
theorem d2_32 : De c2 32 (.iload 6) 2 34 := dk (by decide +kernel)
theorem d2_34 : De c2 34 (.bipush 12) 2 36 := dk (by decide +kernel)
theorem d2_36 : De c2 36 (.iushr) 1 37 := dk (by decide +kernel)
theorem d2_37 : De c2 37 (.bipush 63) 2 39 := dk (by decide +kernel)
theorem d2_39 : De c2 39 (.iand) 1 40 := dk (by decide +kernel)
theorem d2_40 : De c2 40 (.invokestatic 53) 3 43 := dk (by decide +kernel)
theorem d2_43 : De c2 43 (.castore) 1 44 := dk (by decide +kernel)
theorem d2_44 : De c2 44 (.aload_n 0) 1 45 := dk (by decide +kernel)
theorem d2_45 : De c2 45 (.iload_n 1) 1 46 := dk (by decide +kernel)
theorem d2_46 : De c2 46 (.iconst 2) 1 47 := dk (by decide +kernel)
theorem d2_47 : De c2 47 (.iadd) 1 48 := dk (by decide +kernel)
theorem d2_48 : De c2 48 (.iload 5) 2 50 := dk (by decide +kernel)
theorem d2_50 : De c2 50 (.iconst 2) 1 51 := dk (by decide +kernel)
theorem d2_51 : DeJ c2 51 (.if_icmp .lt) 54 68 := dj 17 (by decide +kernel) (by decide)
theorem d2_54 : De c2 54 (.iload 6) 2 56 := dk (by decide +kernel)
theorem d2_56 : De c2 56 (.bipush 6) 2 58 := dk (by decide +kernel)
theorem d2_58 : De c2 58 (.iushr) 1 59 := dk (by decide +kernel)
theorem d2_59 : De c2 59 (.bipush 63) 2 61 := dk (by decide +kernel)
theorem d2_61 : De c2 61 (.iand) 1 62 := dk (by decide +kernel)
theorem d2_62 : De c2 62 (.invokestatic 53) 3 65 := dk (by decide +kernel)
theorem d2_65 : DeJ c2 65 .goto 68 70 := dj 5 (by decide +kernel) (by decide)
theorem d2_68 : De c2 68 (.bipush 61) 2 70 := dk (by decide +kernel)
theorem d2_70 : De c2 70 (.castore) 1 71 := dk (by decide +kernel)
theorem d2_71 : De c2 71 (.aload_n 0) 1 72 := dk (by decide +kernel)
theorem d2_72 : De c2 72 (.iload_n 1) 1 73 := dk (by decide +kernel)
theorem d2_73 : De c2 73 (.iconst 3) 1 74 := dk (by decide +kernel)
theorem d2_74 : De c2 74 (.iadd) 1 75 := dk (by decide +kernel)
theorem d2_75 : De c2 75 (.iload 5) 2 77 := dk (by decide +kernel)
theorem d2_77 : De c2 77 (.iconst 3) 1 78 := dk (by decide +kernel)
theorem d2_78 : DeJ c2 78 (.if_icmp .lt) 81 92 := dj 14 (by decide +kernel) (by decide)
theorem d2_81 : De c2 81 (.iload 6) 2 83 := dk (by decide +kernel)
theorem d2_83 : De c2 83 (.bipush 63) 2 85 := dk (by decide +kernel)
theorem d2_85 : De c2 85 (.iand) 1 86 := dk (by decide +kernel)
theorem d2_86 : De c2 86 (.invokestatic 53) 3 89 := dk (by decide +kernel)
theorem d2_89 : DeJ c2 89 .goto 92 94 := dj 5 (by decide +kernel) (by decide)
theorem d2_92 : De c2 92 (.bipush 61) 2 94 := dk (by decide +kernel)
theorem d2_94 : De c2 94 (.castore) 1 95 := dk (by decide +kernel)
theorem d2_95 : De c2 95 (.return_) 1 96 := dk (by decide +kernel)
theorem d3_0 : De c3 0 (.iload_n 0) 1 1 := dk (by decide +kernel)
theorem d3_1 : De c3 1 (.bipush 26) 2 3 := dk (by decide +kernel)
theorem d3_3 : DeJ c3 3 (.if_icmp .ge) 6 12 := dj 9 (by decide +kernel) (by decide)
theorem d3_6 : De c3 6 (.bipush 65) 2 8 := dk (by decide +kernel)
theorem d3_8 : De c3 8 (.iload_n 0) 1 9 := dk (by decide +kernel)
theorem d3_9 : De c3 9 (.iadd) 1 10 := dk (by decide +kernel)
theorem d3_10 : De c3 10 (.i2c) 1 11 := dk (by decide +kernel)
theorem d3_11 : De c3 11 (.ireturn) 1 12 := dk (by decide +kernel)
theorem d3_12 : De c3 12 (.iload_n 0) 1 13 := dk (by decide +kernel)
theorem d3_13 : De c3 13 (.bipush 52) 2 15 := dk (by decide +kernel)
theorem d3_15 : DeJ c3 15 (.if_icmp .ge) 18 27 := dj 12 (by decide +kernel) (by decide)
theorem d3_18 : De c3 18 (.bipush 97) 2 20 := dk (by decide +kernel)
theorem d3_20 : De c3 20 (.iload_n 0) 1 21 := dk (by decide +kernel)
theorem d3_21 : De c3 21 (.bipush 26) 2 23 := dk (by decide +kernel)
theorem d3_23 : De c3 23 (.isub) 1 24 := dk (by decide +kernel)
theorem d3_24 : De c3 24 (.iadd) 1 25 := dk (by decide +kernel)
theorem d3_25 : De c3 25 (.i2c) 1 26 := dk (by decide +kernel)
theorem d3_26 : De c3 26 (.ireturn) 1 27 := dk (by decide +kernel)
theorem d3_27 : De c3 27 (.iload_n 0) 1 28 := dk (by decide +kernel)
theorem d3_28 : De c3 28 (.bipush 62) 2 30 := dk (by decide +kernel)
theorem d3_30 : DeJ c3 30 (.if_icmp .ge) 33 42 := dj 12 (by decide +kernel) (by decide)
theorem d3_33 : De c3 33 (.bipush 48) 2 35 := dk (by decide +kernel)
theorem d3_35 : De c3 35 (.iload_n 0) 1 36 := dk (by decide +kernel)
theorem d3_36 : De c3 36 (.bipush 52) 2 38 := dk (by decide +kernel)
theorem d3_38 : De c3 38 (.isub) 1 39 := dk (by decide +kernel)
theorem d3_39 : De c3 39 (.iadd) 1 40 := dk (by decide +kernel)
theorem d3_40 : De c3 40 (.i2c) 1 41 := dk (by decide +kernel)
theorem d3_41 : De c3 41 (.ireturn) 1 42 := dk (by decide +kernel)
theorem d3_42 : De c3 42 (.iload_n 0) 1 43 := dk (by decide +kernel)
theorem d3_43 : De c3 43 (.bipush 62) 2 45 := dk (by decide +kernel)
theorem d3_45 : DeJ c3 45 (.if_icmp .ne) 48 51 := dj 6 (by decide +kernel) (by decide)
theorem d3_48 : De c3 48 (.bipush 43) 2 50 := dk (by decide +kernel)
theorem d3_50 : De c3 50 (.ireturn) 1 51 := dk (by decide +kernel)
theorem d3_51 : De c3 51 (.bipush 47) 2 53 := dk (by decide +kernel)
theorem d3_53 : De c3 53 (.ireturn) 1 54 := dk (by decide +kernel)
theorem d4_0 : De c4 0 (.aload_n 0) 1 1 := dk (by decide +kernel)
theorem d4_1 : De c4 1 (.aload_n 1) 1 2 := dk (by decide +kernel)
theorem d4_2 : De c4 2 (.iconst 0) 1 3 := dk (by decide +kernel)
theorem d4_3 : De c4 3 (.aload_n 1) 1 4 := dk (by decide +kernel)
theorem d4_4 : De c4 4 (.arraylength) 1 5 := dk (by decide +kernel)
theorem d4_5 : De c4 5 (.aconst_null) 1 6 := dk (by decide +kernel)
theorem d4_6 : De c4 6 (.invokespecial 27) 3 9 := dk (by decide +kernel)
theorem d4_9 : De c4 9 (.return_) 1 10 := dk (by decide +kernel)
theorem d5_0 : De c5 0 (.aload_n 0) 1 1 := dk (by decide +kernel)
theorem d5_1 : De c5 1 (.invokespecial 1) 3 4 := dk (by decide +kernel)
theorem d5_4 : De c5 4 (.iload_n 3) 1 5 := dk (by decide +kernel)
theorem d5_5 : DeJ c5 5 (.ifCond .ne) 8 27 := dj 22 (by decide +kernel) (by decide)
theorem d5_27 : De c5 27 (.getstatic 38) 3 30 := dk (by decide +kernel)
theorem d5_30 : DeJ c5 30 (.ifCond .eq) 33 58 := dj 28 (by decide +kernel) (by decide)
theorem d5_33 : De c5 33 (.aload_n 1) 1 34 := dk (by decide +kernel)
theorem d5_34 : De c5 34 (.iload_n 2) 1 35 := dk (by decide +kernel)
theorem d5_35 : De c5 35 (.iload_n 3) 1 36 := dk (by decide +kernel)
theorem d5_36 : De c5 36 (.invokestatic 177) 3 39 := dk (by decide +kernel)
theorem d5_39 : De c5 39 (.astore 5) 2 41 := dk (by decide +kernel)
theorem d5_41 : De c5 41 (.aload_n 0) 1 42 := dk (by decide +kernel)
theorem d5_42 : De c5 42 (.aload 5) 2 44 := dk (by decide +kernel)
theorem d5_44 : De c5 44 (.iload_n 3) 1 45 := dk (by decide +kernel)
theorem d5_45 : De c5 45 (.invokestatic 47) 3 48 := dk (by decide +kernel)
theorem d5_48 : De c5 48 (.putfield 15) 3 51 := dk (by decide +kernel)
theorem d5_51 : De c5 51 (.aload_n 0) 1 52 := dk (by decide +kernel)
theorem d5_52 : De c5 52 (.aload 5) 2 54 := dk (by decide +kernel)
theorem d5_54 : De c5 54 (.putfield 9) 3 57 := dk (by decide +kernel)
theorem d5_57 : De c5 57 (.return_) 1 58 := dk (by decide +kernel)
theorem d7_0 : De c7 0 (.iload_n 2) 1 1 := dk (by decide +kernel)
theorem d7_1 : De c7 1 (.newarray .byte) 2 3 := dk (by decide +kernel)
theorem d7_3 : De c7 3 (.astore_n 3) 1 4 := dk (by decide +kernel)
theorem d7_4 : De c7 4 (.aload_n 0) 1 5 := dk (by decide +kernel)
theorem d7_5 : De c7 5 (.iload_n 1) 1 6 := dk (by decide +kernel)
theorem d7_6 : De c7 6 (.aload_n 3) 1 7 := dk (by decide +kernel)
theorem d7_7 : De c7 7 (.iconst 0) 1 8 := dk (by decide +kernel)
theorem d7_8 : De c7 8 (.iload_n 2) 1 9 := dk (by decide +kernel)
theorem d7_9 : De c7 9 (.invokestatic 115) 3 12 := dk (by decide +kernel)
theorem d7_12 : De c7 12 (.istore 4) 2 14 := dk (by decide +kernel)
theorem d7_14 : De c7 14 (.iload 4) 2 16 := dk (by decide +kernel)
theorem d7_16 : De c7 16 (.iload_n 2) 1 17 := dk (by decide +kernel)
theorem d7_17 : DeJ c7 17 (.if_icmp .eq) 20 57 := dj 40 (by decide +kernel) (by decide)
theorem d7_57 : De c7 57 (.aload_n 3) 1 58 := dk (by decide +kernel)
theorem d7_58 : De c7 58 (.areturn) 1 59 := dk (by decide +kernel)
theorem d8_0 : De c8 0 (.iconst 0) 1 1 := dk (by decide +kernel)
theorem d8_1 : De c8 1 (.istore 5) 2 3 := dk (by decide +kernel)
theorem d8_3 : De c8 3 (.iload 5) 2 5 := dk (by decide +kernel)
theorem d8_5 : De c8 5 (.iload 4) 2 7 := dk (by decide +kernel)
theorem d8_7 : DeJ c8 7 (.if_icmp .ge) 10 44 := dj 37 (by decide +kernel) (by decide)
theorem d8_10 : De c8 10 (.aload_n 0) 1 11 := dk (by decide +kernel)
theorem d8_11 : De c8 11 (.iload_n 1) 1 12 := dk (by decide +kernel)
theorem d8_12 : De c8 12 (.caload) 1 13 := dk (by decide +kernel)
theorem d8_13 : De c8 13 (.istore 6) 2 15 := dk (by decide +kernel)
theorem d8_15 : De c8 15 (.iload 6) 2 17 := dk (by decide +kernel)
theorem d8_17 : De c8 17 (.sipush 255) 3 20 := dk (by decide +kernel)
theorem d8_20 : DeJ c8 20 (.if_icmp .le) 23 26 := dj 6 (by decide +kernel) (by decide)
theorem d8_26 : De c8 26 (.aload_n 2) 1 27 := dk (by decide +kernel)
theorem d8_27 : De c8 27 (.iload_n 3) 1 28 := dk (by decide +kernel)
theorem d8_28 : De c8 28 (.iload 6) 2 30 := dk (by decide +kernel)
theorem d8_30 : De c8 30 (.i2b) 1 31 := dk (by decide +kernel)
theorem d8_31 : De c8 31 (.bastore) 1 32 := dk (by decide +kernel)
theorem d8_32 : De c8 32 (.iinc 1 1) 3 35 := dk (by decide +kernel)
theorem d8_35 : De c8 35 (.iinc 3 1) 3 38 := dk (by decide +kernel)
theorem d8_38 : De c8 38 (.iinc 5 1) 3 41 := dk (by decide +kernel)
theorem d8_41 : DeJ c8 41 .goto 44 3 := dj (-38) (by decide +kernel) (by decide)
theorem d8_44 : De c8 44 (.iload 4) 2 46 := dk (by decide +kernel)
theorem d8_46 : De c8 46 (.ireturn) 1 47 := dk (by decide +kernel)
theorem d9_0 : De c9 0 (.iload_n 1) 1 1 := dk (by decide +kernel)
theorem d9_1 : De c9 1 (.aload_n 0) 1 2 := dk (by decide +kernel)
theorem d9_2 : De c9 2 (.arraylength) 1 3 := dk (by decide +kernel)
theorem d9_3 : De c9 3 (.isub) 1 4 := dk (by decide +kernel)
theorem d9_4 : De c9 4 (.bipush 31) 2 6 := dk (by decide +kernel)
theorem d9_6 : De c9 6 (.iushr) 1 7 := dk (by decide +kernel)
theorem d9_7 : De c9 7 (.i2b) 1 8 := dk (by decide +kernel)
theorem d9_8 : De c9 8 (.ireturn) 1 9 := dk (by decide +kernel)
theorem d10_0 : De c10 0 (.aload_n 0) 1 1 := dk (by decide +kernel)
theorem d10_1 : De c10 1 (.invokespecial 1) 3 4 := dk (by decide +kernel)
theorem d10_4 : De c10 4 (.aload_n 0) 1 5 := dk (by decide +kernel)
theorem d10_5 : De c10 5 (.iload_n 1) 1 6 := dk (by decide +kernel)
theorem d10_6 : De c10 6 (.putfield 7) 3 9 := dk (by decide +kernel)
theorem d10_9 : De c10 9 (.return_) 1 10 := dk (by decide +kernel)
theorem d11_0 : De c11 0 (.aload_n 1) 1 1 := dk (by decide +kernel)
theorem d11_1 : De c11 1 (.ldc 13) 2 3 := dk (by decide +kernel)
theorem d11_3 : De c11 3 (.invokestatic 15) 3 6 := dk (by decide +kernel)
theorem d11_6 : De c11 6 (.pop) 1 7 := dk (by decide +kernel)
theorem d11_7 : De c11 7 (.invokestatic 21) 3 10 := dk (by decide +kernel)
theorem d11_10 : De c11 10 (.aload_n 1) 1 11 := dk (by decide +kernel)
theorem d11_11 : De c11 11 (.invokevirtual 27) 3 14 := dk (by decide +kernel)
theorem d11_14 : De c11 14 (.astore_n 2) 1 15 := dk (by decide +kernel)
theorem d11_15 : DeJ c11 15 .goto 18 25 := dj 10 (by decide +kernel) (by decide)
theorem d11_25 : De c11 25 (.aload_n 2) 1 26 := dk (by decide +kernel)
theorem d11_26 : De c11 26 (.arraylength) 1 27 := dk (by decide +kernel)
theorem d11_27 : DeJ c11 27 (.ifCond .ne) 30 36 := dj 9 (by decide +kernel) (by decide)
theorem d11_36 : De c11 36 (.new 39) 3 39 := dk (by decide +kernel)
theorem d11_39 : De c11 39 (.dup) 1 40 := dk (by decide +kernel)
theorem d11_40 : De c11 40 (.new 41) 3 43 := dk (by decide +kernel)
theorem d11_43 : De c11 43 (.dup) 1 44 := dk (by decide +kernel)
theorem d11_44 : De c11 44 (.aload_n 2) 1 45 := dk (by decide +kernel)
theorem d11_45 : De c11 45 (.invokespecial 43) 3 48 := dk (by decide +kernel)
theorem d11_48 : De c11 48 (.aload_n 0) 1 49 := dk (by decide +kernel)
theorem d11_49 : De c11 49 (.getfield 7) 3 52 := dk (by decide +kernel)
theorem d11_52 : De c11 52 (.invokespecial 46) 3 55 := dk (by decide +kernel)
theorem d11_55 : De c11 55 (.areturn) 1 56 := dk (by decide +kernel)
theorem d12_0 : De c12 0 (.aload_n 0) 1 1 := dk (by decide +kernel)
theorem d12_1 : DeJ c12 1 .ifnonnull 4 13 := dj 12 (by decide +kernel) (by decide)
theorem d12_13 : De c12 13 (.aload_n 0) 1 14 := dk (by decide +kernel)
theorem d12_14 : De c12 14 (.areturn) 1 15 := dk (by decide +kernel)
theorem d13_0 : De c13 0 (.getstatic 57) 3 3 := dk (by decide +kernel)
theorem d13_3 : De c13 3 (.areturn) 1 4 := dk (by decide +kernel)
theorem d14_0 : De c14 0 (.aload_n 0) 1 1 := dk (by decide +kernel)
theorem d14_1 : De c14 1 (.aload_n 1) 1 2 := dk (by decide +kernel)
theorem d14_2 : De c14 2 (.getstatic 30) 3 5 := dk (by decide +kernel)
theorem d14_5 : De c14 5 (.invokevirtual 36) 3 8 := dk (by decide +kernel)
theorem d14_8 : De c14 8 (.invokevirtual 42) 3 11 := dk (by decide +kernel)
theorem d14_11 : De c14 11 (.areturn) 1 12 := dk (by decide +kernel)
theorem d15_0 : De c15 0 (.aload_n 1) 1 1 := dk (by decide +kernel)
theorem d15_1 : DeJ c15 1 .ifnonnull 4 12 := dj 11 (by decide +kernel) (by decide)
theorem d15_12 : De c15 12 (.aload_n 1) 1 13 := dk (by decide +kernel)
theorem d15_13 : De c15 13 (.aload_n 0) 1 14 := dk (by decide +kernel)
theorem d15_14 : De c15 14 (.invokevirtual 335) 3 17 := dk (by decide +kernel)
theorem d15_17 : De c15 17 (.aload_n 0) 1 18 := dk (by decide +kernel)
theorem d15_18 : De c15 18 (.getfield 9) 3 21 := dk (by decide +kernel)
theorem d15_21 : De c15 21 (.invokestatic 535) 3 24 := dk (by decide +kernel)
theorem d15_24 : De c15 24 (.areturn) 1 25 := dk (by decide +kernel)
theorem d16_0 : De c16 0 (.getstatic 38) 3 3 := dk (by decide +kernel)
theorem d16_3 : DeJ c16 3 (.ifCond .eq) 6 13 := dj 10 (by decide +kernel) (by decide)
theorem d16_6 : De c16 6 (.aload_n 0) 1 7 := dk (by decide +kernel)
theorem d16_7 : De c16 7 (.getfield 15) 3 10 := dk (by decide +kernel)
theorem d16_10 : DeJ c16 10 .goto 13 14 := dj 4 (by decide +kernel) (by decide)
theorem d16_14 : De c16 14 (.ireturn) 1 15 := dk (by decide +kernel)
theorem d17_0 : De c17 0 (.aload_n 0) 1 1 := dk (by decide +kernel)
theorem d17_1 : De c17 1 (.getstatic 86) 3 4 := dk (by decide +kernel)
theorem d17_4 : DeJ c17 4 (.if_acmp .ne) 7 14 := dj 10 (by decide +kernel) (by decide)
theorem d17_14 : De c17 14 (.aload_n 0) 1 15 := dk (by decide +kernel)
theorem d17_15 : De c17 15 (.getstatic 116) 3 18 := dk (by decide +kernel)
theorem d17_18 : DeJ c17 18 (.if_acmp .ne) 21 27 := dj 9 (by decide +kernel) (by decide)
theorem d17_21 : De c17 21 (.iload_n 1) 1 22 := dk (by decide +kernel)
theorem d17_22 : De c17 22 (.aload_n 2) 1 23 := dk (by decide +kernel)
theorem d17_23 : De c17 23 (.invokestatic 256) 3 26 := dk (by decide +kernel)
theorem d17_26 : De c17 26 (.areturn) 1 27 := dk (by decide +kernel)
theorem d18_0 : De c18 0 (.iload_n 0) 1 1 := dk (by decide +kernel)
theorem d18_1 : De c18 1 (.aload_n 1) 1 2 := dk (by decide +kernel)
theorem d18_2 : De c18 2 (.iconst 1) 1 3 := dk (by decide +kernel)
theorem d18_3 : De c18 3 (.invokestatic 351) 3 6 := dk (by decide +kernel)
theorem d18_6 : De c18 6 (.areturn) 1 7 := dk (by decide +kernel)
theorem d19_0 : De c19 0 (.iload_n 0) 1 1 := dk (by decide +kernel)
theorem d19_1 : DeJ c19 1 (.ifCond .ne) 4 12 := dj 11 (by decide +kernel) (by decide)
theorem d19_4 : De c19 4 (.aload_n 1) 1 5 := dk (by decide +kernel)
theorem d19_5 : De c19 5 (.invokevirtual 279) 3 8 := dk (by decide +kernel)
theorem d19_8 : De c19 8 (.checkcast 280) 3 11 := dk (by decide +kernel)
theorem d19_11 : De c19 11 (.areturn) 1 12 := dk (by decide +kernel)
theorem d20_0 : De c20 0 (.aload_n 0) 1 1 := dk (by decide +kernel)
theorem d20_1 : De c20 1 (.aload_n 1) 1 2 := dk (by decide +kernel)
theorem d20_2 : De c20 2 (.iconst 0) 1 3 := dk (by decide +kernel)
theorem d20_3 : De c20 3 (.aload_n 1) 1 4 := dk (by decide +kernel)
theorem d20_4 : De c20 4 (.arraylength) 1 5 := dk (by decide +kernel)
theorem d20_5 : De c20 5 (.invokevirtual 16) 3 8 := dk (by decide +kernel)
theorem d20_8 : De c20 8 (.newarray .byte) 2 10 := dk (by decide +kernel)
theorem d20_10 : De c20 10 (.astore_n 2) 1 11 := dk (by decide +kernel)
theorem d20_11 : De c20 11 (.aload_n 0) 1 12 := dk (by decide +kernel)
theorem d20_12 : De c20 12 (.aload_n 1) 1 13 := dk (by decide +kernel)
theorem d20_13 : De c20 13 (.iconst 0) 1 14 := dk (by decide +kernel)
theorem d20_14 : De c20 14 (.aload_n 1) 1 15 := dk (by decide +kernel)
theorem d20_15 : De c20 15 (.arraylength) 1 16 := dk (by decide +kernel)
theorem d20_16 : De c20 16 (.aload_n 2) 1 17 := dk (by decide +kernel)
theorem d20_17 : De c20 17 (.invokevirtual 20) 3 20 := dk (by decide +kernel)
theorem d20_20 : De c20 20 (.istore_n 3) 1 21 := dk (by decide +kernel)
theorem d20_21 : De c20 21 (.iload_n 3) 1 22 := dk (by decide +kernel)
theorem d20_22 : De c20 22 (.aload_n 2) 1 23 := dk (by decide +kernel)
theorem d20_23 : De c20 23 (.arraylength) 1 24 := dk (by decide +kernel)
theorem d20_24 : DeJ c20 24 (.if_icmp .eq) 27 33 := dj 9 (by decide +kernel) (by decide)
theorem d20_33 : De c20 33 (.aload_n 2) 1 34 := dk (by decide +kernel)
theorem d20_34 : De c20 34 (.areturn) 1 35 := dk (by decide +kernel)
theorem d21_0 : De c21 0 (.aload_n 0) 1 1 := dk (by decide +kernel)
theorem d21_1 : De c21 1 (.getfield 7) 3 4 := dk (by decide +kernel)
theorem d21_4 : DeJ c21 4 (.ifCond .eq) 7 13 := dj 9 (by decide +kernel) (by decide)
theorem d21_13 : De c21 13 (.getstatic 99) 3 16 := dk (by decide +kernel)
theorem d21_16 : De c21 16 (.astore 4) 2 18 := dk (by decide +kernel)
theorem d21_18 : De c21 18 (.iconst 0) 1 19 := dk (by decide +kernel)
theorem d21_19 : De c21 19 (.istore 5) 2 21 := dk (by decide +kernel)
theorem d21_21 : De c21 21 (.iload_n 3) 1 22 := dk (by decide +kernel)
theorem d21_22 : De c21 22 (.iload_n 2) 1 23 := dk (by decide +kernel)
theorem d21_23 : De c21 23 (.isub) 1 24 := dk (by decide +kernel)
theorem d21_24 : De c21 24 (.istore 6) 2 26 := dk (by decide +kernel)
theorem d21_26 : De c21 26 (.iload 6) 2 28 := dk (by decide +kernel)
theorem d21_28 : DeJ c21 28 (.ifCond .ne) 31 33 := dj 5 (by decide +kernel) (by decide)
theorem d21_33 : De c21 33 (.iload 6) 2 35 := dk (by decide +kernel)
theorem d21_35 : De c21 35 (.iconst 2) 1 36 := dk (by decide +kernel)
theorem d21_36 : DeJ c21 36 (.if_icmp .ge) 39 66 := dj 30 (by decide +kernel) (by decide)
theorem d21_66 : De c21 66 (.aload_n 0) 1 67 := dk (by decide +kernel)
theorem d21_67 : De c21 67 (.getfield 13) 3 70 := dk (by decide +kernel)
theorem d21_70 : DeJ c21 70 (.ifCond .eq) 73 141 := dj 71 (by decide +kernel) (by decide)
theorem d21_141 : De c21 141 (.aload_n 1) 1 142 := dk (by decide +kernel)
theorem d21_142 : De c21 142 (.iload_n 3) 1 143 := dk (by decide +kernel)
theorem d21_143 : De c21 143 (.iconst 1) 1 144 := dk (by decide +kernel)
theorem d21_144 : De c21 144 (.isub) 1 145 := dk (by decide +kernel)
theorem d21_145 : De c21 145 (.baload) 1 146 := dk (by decide +kernel)
theorem d21_146 : De c21 146 (.bipush 61) 2 148 := dk (by decide +kernel)
theorem d21_148 : DeJ c21 148 (.if_icmp .ne) 151 167 := dj 19 (by decide +kernel) (by decide)
theorem d21_151 : De c21 151 (.iinc 5 1) 3 154 := dk (by decide +kernel)
theorem d21_154 : De c21 154 (.aload_n 1) 1 155 := dk (by decide +kernel)
theorem d21_155 : De c21 155 (.iload_n 3) 1 156 := dk (by decide +kernel)
theorem d21_156 : De c21 156 (.iconst 2) 1 157 := dk (by decide +kernel)
theorem d21_157 : De c21 157 (.isub) 1 158 := dk (by decide +kernel)
theorem d21_158 : De c21 158 (.baload) 1 159 := dk (by decide +kernel)
theorem d21_159 : De c21 159 (.bipush 61) 2 161 := dk (by decide +kernel)
theorem d21_161 : DeJ c21 161 (.if_icmp .ne) 164 167 := dj 6 (by decide +kernel) (by decide)
theorem d21_164 : De c21 164 (.iinc 5 1) 3 167 := dk (by decide +kernel)
theorem d21_167 : De c21 167 (.iload 5) 2 169 := dk (by decide +kernel)
theorem d21_169 : DeJ c21 169 (.ifCond .ne) 172 187 := dj 18 (by decide +kernel) (by decide)
theorem d21_172 : De c21 172 (.iload 6) 2 174 := dk (by decide +kernel)
theorem d21_174 : De c21 174 (.iconst 3) 1 175 := dk (by decide +kernel)
theorem d21_175 : De c21 175 (.iand) 1 176 := dk (by decide +kernel)
theorem d21_176 : DeJ c21 176 (.ifCond .eq) 179 187 := dj 11 (by decide +kernel) (by decide)
theorem d21_187 : De c21 187 (.iconst 3) 1 188 := dk (by decide +kernel)
theorem d21_188 : De c21 188 (.iload 6) 2 190 := dk (by decide +kernel)
theorem d21_190 : De c21 190 (.i2l) 1 191 := dk (by decide +kernel)
theorem d21_191 : De c21 191 (.ldc2_w 107) 3 194 := dk (by decide +kernel)
theorem d21_194 : De c21 194 (.ladd) 1 195 := dk (by decide +kernel)
theorem d21_195 : De c21 195 (.ldc2_w 109) 3 198 := dk (by decide +kernel)
theorem d21_198 : De c21 198 (.ldiv) 1 199 := dk (by decide +kernel)
theorem d21_199 : De c21 199 (.l2i) 1 200 := dk (by decide +kernel)
theorem d21_200 : De c21 200 (.imul) 1 201 := dk (by decide +kernel)
theorem d21_201 : De c21 201 (.iload 5) 2 203 := dk (by decide +kernel)
theorem d21_203 : De c21 203 (.isub) 1 204 := dk (by decide +kernel)
theorem d21_204 : De c21 204 (.ireturn) 1 205 := dk (by decide +kernel)
theorem d22_0 : De c22 0 (.aload_n 0) 1 1 := dk (by decide +kernel)
theorem d22_1 : De c22 1 (.getfield 7) 3 4 := dk (by decide +kernel)
theorem d22_4 : DeJ c22 4 (.ifCond .eq) 7 13 := dj 9 (by decide +kernel) (by decide)
theorem d22_13 : De c22 13 (.getstatic 99) 3 16 := dk (by decide +kernel)
theorem d22_16 : De c22 16 (.astore 5) 2 18 := dk (by decide +kernel)
theorem d22_18 : De c22 18 (.iconst 0) 1 19 := dk (by decide +kernel)
theorem d22_19 : De c22 19 (.istore 6) 2 21 := dk (by decide +kernel)
theorem d22_21 : De c22 21 (.iconst 0) 1 22 := dk (by decide +kernel)
theorem d22_22 : De c22 22 (.istore 7) 2 24 := dk (by decide +kernel)
theorem d22_24 : De c22 24 (.bipush 18) 2 26 := dk (by decide +kernel)
theorem d22_26 : De c22 26 (.istore 8) 2 28 := dk (by decide +kernel)
theorem d22_28 : De c22 28 (.iload_n 2) 1 29 := dk (by decide +kernel)
theorem d22_29 : De c22 29 (.iload_n 3) 1 30 := dk (by decide +kernel)
theorem d22_30 : DeJ c22 30 (.if_icmp .ge) 33 281 := dj 251 (by decide +kernel) (by decide)
theorem d22_33 : De c22 33 (.iload 8) 2 35 := dk (by decide +kernel)
theorem d22_35 : De c22 35 (.bipush 18) 2 37 := dk (by decide +kernel)
theorem d22_37 : DeJ c22 37 (.if_icmp .ne) 40 90 := dj 53 (by decide +kernel) (by decide)
theorem d22_40 : De c22 40 (.iload_n 2) 1 41 := dk (by decide +kernel)
theorem d22_41 : De c22 41 (.iload_n 3) 1 42 := dk (by decide +kernel)
theorem d22_42 : De c22 42 (.iconst 4) 1 43 := dk (by decide +kernel)
theorem d22_43 : De c22 43 (.isub) 1 44 := dk (by decide +kernel)
theorem d22_44 : DeJ c22 44 (.if_icmp .ge) 47 90 := dj 46 (by decide +kernel) (by decide)
theorem d22_47 : De c22 47 (.aload_n 0) 1 48 := dk (by decide +kernel)
theorem d22_48 : De c22 48 (.aload_n 1) 1 49 := dk (by decide +kernel)
theorem d22_49 : De c22 49 (.iload_n 2) 1 50 := dk (by decide +kernel)
theorem d22_50 : De c22 50 (.iload_n 3) 1 51 := dk (by decide +kernel)
theorem d22_51 : De c22 51 (.aload 4) 2 53 := dk (by decide +kernel)
theorem d22_53 : De c22 53 (.iload 6) 2 55 := dk (by decide +kernel)
theorem d22_55 : De c22 55 (.aload_n 0) 1 56 := dk (by decide +kernel)
theorem d22_56 : De c22 56 (.getfield 7) 3 59 := dk (by decide +kernel)
theorem d22_59 : De c22 59 (.aload_n 0) 1 60 := dk (by decide +kernel)
theorem d22_60 : De c22 60 (.getfield 13) 3 63 := dk (by decide +kernel)
theorem d22_63 : De c22 63 (.invokevirtual 111) 3 66 := dk (by decide +kernel)
theorem d22_66 : De c22 66 (.istore 9) 2 68 := dk (by decide +kernel)
theorem d22_68 : De c22 68 (.iload 9) 2 70 := dk (by decide +kernel)
theorem d22_70 : De c22 70 (.iconst 2) 1 71 := dk (by decide +kernel)
theorem d22_71 : De c22 71 (.iadd) 1 72 := dk (by decide +kernel)
theorem d22_72 : De c22 72 (.iconst 3) 1 73 := dk (by decide +kernel)
theorem d22_73 : De c22 73 (.idiv) 1 74 := dk (by decide +kernel)
theorem d22_74 : De c22 74 (.iconst 4) 1 75 := dk (by decide +kernel)
theorem d22_75 : De c22 75 (.imul) 1 76 := dk (by decide +kernel)
theorem d22_76 : De c22 76 (.istore 10) 2 78 := dk (by decide +kernel)
theorem d22_78 : De c22 78 (.iload_n 2) 1 79 := dk (by decide +kernel)
theorem d22_79 : De c22 79 (.iload 10) 2 81 := dk (by decide +kernel)
theorem d22_81 : De c22 81 (.iadd) 1 82 := dk (by decide +kernel)
theorem d22_82 : De c22 82 (.istore_n 2) 1 83 := dk (by decide +kernel)
theorem d22_83 : De c22 83 (.iload 6) 2 85 := dk (by decide +kernel)
theorem d22_85 : De c22 85 (.iload 9) 2 87 := dk (by decide +kernel)
theorem d22_87 : De c22 87 (.iadd) 1 88 := dk (by decide +kernel)
theorem d22_88 : De c22 88 (.istore 6) 2 90 := dk (by decide +kernel)
theorem d22_90 : De c22 90 (.iload_n 2) 1 91 := dk (by decide +kernel)
theorem d22_91 : De c22 91 (.iload_n 3) 1 92 := dk (by decide +kernel)
theorem d22_92 : DeJ c22 92 (.if_icmp .lt) 95 98 := dj 6 (by decide +kernel) (by decide)
theorem d22_95 : DeJ c22 95 .goto 98 281 := dj 186 (by decide +kernel) (by decide)
theorem d22_98 : De c22 98 (.aload_n 1) 1 99 := dk (by decide +kernel)
theorem d22_99 : De c22 99 (.iload_n 2) 1 100 := dk (by decide +kernel)
theorem d22_100 : De c22 100 (.iinc 2 1) 3 103 := dk (by decide +kernel)
theorem d22_103 : De c22 103 (.baload) 1 104 := dk (by decide +kernel)
theorem d22_104 : De c22 104 (.sipush 255) 3 107 := dk (by decide +kernel)
theorem d22_107 : De c22 107 (.iand) 1 108 := dk (by decide +kernel)
theorem d22_108 : De c22 108 (.istore 9) 2 110 := dk (by decide +kernel)
theorem d22_110 : De c22 110 (.aload 5) 2 112 := dk (by decide +kernel)
theorem d22_112 : De c22 112 (.iload 9) 2 114 := dk (by decide +kernel)
theorem d22_114 : De c22 114 (.iaload) 1 115 := dk (by decide +kernel)
theorem d22_115 : De c22 115 (.dup) 1 116 := dk (by decide +kernel)
theorem d22_116 : De c22 116 (.istore 9) 2 118 := dk (by decide +kernel)
theorem d22_118 : DeJ c22 118 (.ifCond .ge) 121 214 := dj 96 (by decide +kernel) (by decide)
theorem d22_121 : De c22 121 (.iload 9) 2 123 := dk (by decide +kernel)
theorem d22_123 : De c22 123 (.bipush (-2)) 2 125 := dk (by decide +kernel)
theorem d22_125 : DeJ c22 125 (.if_icmp .ne) 128 168 := dj 43 (by decide +kernel) (by decide)
theorem d22_128 : De c22 128 (.iload 8) 2 130 := dk (by decide +kernel)
theorem d22_130 : De c22 130 (.bipush 6) 2 132 := dk (by decide +kernel)
theorem d22_132 : DeJ c22 132 (.if_icmp .ne) 135 151 := dj 19 (by decide +kernel) (by decide)
theorem d22_135 : De c22 135 (.iload_n 2) 1 136 := dk (by decide +kernel)
theorem d22_136 : De c22 136 (.iload_n 3) 1 137 := dk (by decide +kernel)
theorem d22_137 : DeJ c22 137 (.if_icmp .eq) 140 158 := dj 21 (by decide +kernel) (by decide)
theorem d22_140 : De c22 140 (.aload_n 1) 1 141 := dk (by decide +kernel)
theorem d22_141 : De c22 141 (.iload_n 2) 1 142 := dk (by decide +kernel)
theorem d22_142 : De c22 142 (.iinc 2 1) 3 145 := dk (by decide +kernel)
theorem d22_145 : De c22 145 (.baload) 1 146 := dk (by decide +kernel)
theorem d22_146 : De c22 146 (.bipush 61) 2 148 := dk (by decide +kernel)
theorem d22_148 : DeJ c22 148 (.if_icmp .ne) 151 158 := dj 10 (by decide +kernel) (by decide)
theorem d22_151 : De c22 151 (.iload 8) 2 153 := dk (by decide +kernel)
theorem d22_153 : De c22 153 (.bipush 18) 2 155 := dk (by decide +kernel)
theorem d22_155 : DeJ c22 155 (.if_icmp .ne) 158 281 := dj 126 (by decide +kernel) (by decide)
theorem d22_214 : De c22 214 (.iload 7) 2 216 := dk (by decide +kernel)
theorem d22_216 : De c22 216 (.iload 9) 2 218 := dk (by decide +kernel)
theorem d22_218 : De c22 218 (.iload 8) 2 220 := dk (by decide +kernel)
theorem d22_220 : De c22 220 (.ishl) 1 221 := dk (by decide +kernel)
theorem d22_221 : De c22 221 (.ior) 1 222 := dk (by decide +kernel)
theorem d22_222 : De c22 222 (.istore 7) 2 224 := dk (by decide +kernel)
theorem d22_224 : De c22 224 (.iinc 8 (-6)) 3 227 := dk (by decide +kernel)
theorem d22_227 : De c22 227 (.iload 8) 2 229 := dk (by decide +kernel)
theorem d22_229 : DeJ c22 229 (.ifCond .ge) 232 278 := dj 49 (by decide +kernel) (by decide)
theorem d22_232 : De c22 232 (.aload 4) 2 234 := dk (by decide +kernel)
theorem d22_234 : De c22 234 (.iload 6) 2 236 := dk (by decide +kernel)
theorem d22_236 : De c22 236 (.iinc 6 1) 3 239 := dk (by decide +kernel)
theorem d22_239 : De c22 239 (.iload 7) 2 241 := dk (by decide +kernel)
theorem d22_241 : De c22 241 (.bipush 16) 2 243 := dk (by decide +kernel)
theorem d22_243 : De c22 243 (.ishr) 1 244 := dk (by decide +kernel)
theorem d22_244 : De c22 244 (.i2b) 1 245 := dk (by decide +kernel)
theorem d22_245 : De c22 245 (.bastore) 1 246 := dk (by decide +kernel)
theorem d22_246 : De c22 246 (.aload 4) 2 248 := dk (by decide +kernel)
theorem d22_248 : De c22 248 (.iload 6) 2 250 := dk (by decide +kernel)
theorem d22_250 : De c22 250 (.iinc 6 1) 3 253 := dk (by decide +kernel)
theorem d22_253 : De c22 253 (.iload 7) 2 255 := dk (by decide +kernel)
theorem d22_255 : De c22 255 (.bipush 8) 2 257 := dk (by decide +kernel)
theorem d22_257 : De c22 257 (.ishr) 1 258 := dk (by decide +kernel)
theorem d22_258 : De c22 258 (.i2b) 1 259 := dk (by decide +kernel)
theorem d22_259 : De c22 259 (.bastore) 1 260 := dk (by decide +kernel)
theorem d22_260 : De c22 260 (.aload 4) 2 262 := dk (by decide +kernel)
theorem d22_262 : De c22 262 (.iload 6) 2 264 := dk (by decide +kernel)
theorem d22_264 : De c22 264 (.iinc 6 1) 3 267 := dk (by decide +kernel)
theorem d22_267 : De c22 267 (.iload 7) 2 269 := dk (by decide +kernel)
theorem d22_269 : De c22 269 (.i2b) 1 270 := dk (by decide +kernel)
theorem d22_270 : De c22 270 (.bastore) 1 271 := dk (by decide +kernel)
theorem d22_271 : De c22 271 (.bipush 18) 2 273 := dk (by decide +kernel)
theorem d22_273 : De c22 273 (.istore 8) 2 275 := dk (by decide +kernel)
theorem d22_275 : De c22 275 (.iconst 0) 1 276 := dk (by decide +kernel)
theorem d22_276 : De c22 276 (.istore 7) 2 278 := dk (by decide +kernel)
theorem d22_278 : DeJ c22 278 .goto 281 28 := dj (-250) (by decide +kernel) (by decide)
theorem d22_281 : De c22 281 (.iload 8) 2 283 := dk (by decide +kernel)
theorem d22_283 : De c22 283 (.bipush 6) 2 285 := dk (by decide +kernel)
theorem d22_285 : DeJ c22 285 (.if_icmp .ne) 288 305 := dj 20 (by decide +kernel) (by decide)
theorem d22_288 : De c22 288 (.aload 4) 2 290 := dk (by decide +kernel)
theorem d22_290 : De c22 290 (.iload 6) 2 292 := dk (by decide +kernel)
theorem d22_292 : De c22 292 (.iinc 6 1) 3 295 := dk (by decide +kernel)
theorem d22_295 : De c22 295 (.iload 7) 2 297 := dk (by decide +kernel)
theorem d22_297 : De c22 297 (.bipush 16) 2 299 := dk (by decide +kernel)
theorem d22_299 : De c22 299 (.ishr) 1 300 := dk (by decide +kernel)
theorem d22_300 : De c22 300 (.i2b) 1 301 := dk (by decide +kernel)
theorem d22_301 : De c22 301 (.bastore) 1 302 := dk (by decide +kernel)
theorem d22_302 : DeJ c22 302 .goto 305 358 := dj 56 (by decide +kernel) (by decide)
theorem d22_305 : De c22 305 (.iload 8) 2 307 := dk (by decide +kernel)
theorem d22_307 : DeJ c22 307 (.ifCond .ne) 310 341 := dj 34 (by decide +kernel) (by decide)
theorem d22_310 : De c22 310 (.aload 4) 2 312 := dk (by decide +kernel)
theorem d22_312 : De c22 312 (.iload 6) 2 314 := dk (by decide +kernel)
theorem d22_314 : De c22 314 (.iinc 6 1) 3 317 := dk (by decide +kernel)
theorem d22_317 : De c22 317 (.iload 7) 2 319 := dk (by decide +kernel)
theorem d22_319 : De c22 319 (.bipush 16) 2 321 := dk (by decide +kernel)
theorem d22_321 : De c22 321 (.ishr) 1 322 := dk (by decide +kernel)
theorem d22_322 : De c22 322 (.i2b) 1 323 := dk (by decide +kernel)
theorem d22_323 : De c22 323 (.bastore) 1 324 := dk (by decide +kernel)
theorem d22_324 : De c22 324 (.aload 4) 2 326 := dk (by decide +kernel)
theorem d22_326 : De c22 326 (.iload 6) 2 328 := dk (by decide +kernel)
theorem d22_328 : De c22 328 (.iinc 6 1) 3 331 := dk (by decide +kernel)
theorem d22_331 : De c22 331 (.iload 7) 2 333 := dk (by decide +kernel)
theorem d22_333 : De c22 333 (.bipush 8) 2 335 := dk (by decide +kernel)
theorem d22_335 : De c22 335 (.ishr) 1 336 := dk (by decide +kernel)
theorem d22_336 : De c22 336 (.i2b) 1 337 := dk (by decide +kernel)
theorem d22_337 : De c22 337 (.bastore) 1 338 := dk (by decide +kernel)
theorem d22_338 : DeJ c22 338 .goto 341 358 := dj 20 (by decide +kernel) (by decide)
theorem d22_341 : De c22 341 (.iload 8) 2 343 := dk (by decide +kernel)
theorem d22_343 : De c22 343 (.bipush 12) 2 345 := dk (by decide +kernel)
theorem d22_345 : DeJ c22 345 (.if_icmp .ne) 348 358 := dj 13 (by decide +kernel) (by decide)
theorem d22_358 : De c22 358 (.iload_n 2) 1 359 := dk (by decide +kernel)
theorem d22_359 : De c22 359 (.iload_n 3) 1 360 := dk (by decide +kernel)
theorem d22_360 : DeJ c22 360 (.if_icmp .ge) 363 416 := dj 56 (by decide +kernel) (by decide)
theorem d22_416 : De c22 416 (.iload 6) 2 418 := dk (by decide +kernel)
theorem d22_418 : De c22 418 (.ireturn) 1 419 := dk (by decide +kernel)
theorem d23_0 : De c23 0 (.aload_n 0) 1 1 := dk (by decide +kernel)
theorem d23_1 : De c23 1 (.aload_n 1) 1 2 := dk (by decide +kernel)
theorem d23_2 : De c23 2 (.iconst 0) 1 3 := dk (by decide +kernel)
theorem d23_3 : De c23 3 (.aload_n 1) 1 4 := dk (by decide +kernel)
theorem d23_4 : De c23 4 (.arraylength) 1 5 := dk (by decide +kernel)
theorem d23_5 : De c23 5 (.invokespecial 47) 3 8 := dk (by decide +kernel)
theorem d23_8 : De c23 8 (.return_) 1 9 := dk (by decide +kernel)
theorem d24_0 : De c24 0 (.aload_n 0) 1 1 := dk (by decide +kernel)
theorem d24_1 : De c24 1 (.invokespecial 3) 3 4 := dk (by decide +kernel)
theorem d24_4 : De c24 4 (.aload_n 1) 1 5 := dk (by decide +kernel)
theorem d24_5 : De c24 5 (.arraylength) 1 6 := dk (by decide +kernel)
theorem d24_6 : DeJ c24 6 (.ifCond .ne) 9 19 := dj 13 (by decide +kernel) (by decide)
theorem d24_19 : De c24 19 (.iload_n 2) 1 20 := dk (by decide +kernel)
theorem d24_20 : De c24 20 (.iload_n 3) 1 21 := dk (by decide +kernel)
theorem d24_21 : De c24 21 (.aload_n 1) 1 22 := dk (by decide +kernel)
theorem d24_22 : De c24 22 (.arraylength) 1 23 := dk (by decide +kernel)
theorem d24_23 : De c24 23 (.invokestatic 16) 3 26 := dk (by decide +kernel)
theorem d24_26 : De c24 26 (.pop) 1 27 := dk (by decide +kernel)
theorem d24_27 : De c24 27 (.iload_n 3) 1 28 := dk (by decide +kernel)
theorem d24_28 : DeJ c24 28 (.ifCond .ne) 31 52 := dj 24 (by decide +kernel) (by decide)
theorem d24_52 : De c24 52 (.aload_n 1) 1 53 := dk (by decide +kernel)
theorem d24_53 : De c24 53 (.iload_n 2) 1 54 := dk (by decide +kernel)
theorem d24_54 : De c24 54 (.baload) 1 55 := dk (by decide +kernel)
theorem d24_55 : De c24 55 (.istore 4) 2 57 := dk (by decide +kernel)
theorem d24_57 : De c24 57 (.iload 4) 2 59 := dk (by decide +kernel)
theorem d24_59 : DeJ c24 59 (.ifCond .ge) 62 82 := dj 23 (by decide +kernel) (by decide)
theorem d24_62 : De c24 62 (.aload_n 0) 1 63 := dk (by decide +kernel)
theorem d24_63 : De c24 63 (.iload 4) 2 65 := dk (by decide +kernel)
theorem d24_65 : De c24 65 (.aload_n 1) 1 66 := dk (by decide +kernel)
theorem d24_66 : De c24 66 (.iload_n 2) 1 67 := dk (by decide +kernel)
theorem d24_67 : De c24 67 (.iload_n 3) 1 68 := dk (by decide +kernel)
theorem d24_68 : De c24 68 (.invokestatic 36) 3 71 := dk (by decide +kernel)
theorem d24_71 : De c24 71 (.putfield 28) 3 74 := dk (by decide +kernel)
theorem d24_74 : De c24 74 (.aload_n 0) 1 75 := dk (by decide +kernel)
theorem d24_75 : De c24 75 (.iconst (-1)) 1 76 := dk (by decide +kernel)
theorem d24_76 : De c24 76 (.putfield 32) 3 79 := dk (by decide +kernel)
theorem d24_79 : DeJ c24 79 .goto 82 111 := dj 32 (by decide +kernel) (by decide)
theorem d24_82 : De c24 82 (.aload_n 0) 1 83 := dk (by decide +kernel)
theorem d24_83 : De c24 83 (.iload 4) 2 85 := dk (by decide +kernel)
theorem d24_85 : De c24 85 (.aload_n 1) 1 86 := dk (by decide +kernel)
theorem d24_86 : De c24 86 (.iload_n 2) 1 87 := dk (by decide +kernel)
theorem d24_87 : De c24 87 (.iload_n 3) 1 88 := dk (by decide +kernel)
theorem d24_88 : De c24 88 (.invokestatic 40) 3 91 := dk (by decide +kernel)
theorem d24_91 : De c24 91 (.putfield 28) 3 94 := dk (by decide +kernel)
theorem d24_94 : De c24 94 (.aload_n 0) 1 95 := dk (by decide +kernel)
theorem d24_95 : De c24 95 (.aload_n 0) 1 96 := dk (by decide +kernel)
theorem d24_96 : De c24 96 (.getfield 28) 3 99 := dk (by decide +kernel)
theorem d24_99 : De c24 99 (.arraylength) 1 100 := dk (by decide +kernel)
theorem d24_100 : DeJ c24 100 (.ifCond .ne) 103 107 := dj 7 (by decide +kernel) (by decide)
theorem d24_103 : De c24 103 (.iconst 0) 1 104 := dk (by decide +kernel)
theorem d24_104 : DeJ c24 104 .goto 107 108 := dj 4 (by decide +kernel) (by decide)
theorem d24_107 : De c24 107 (.iconst 1) 1 108 := dk (by decide +kernel)
theorem d24_108 : De c24 108 (.putfield 32) 3 111 := dk (by decide +kernel)
theorem d24_111 : De c24 111 (.aload_n 0) 1 112 := dk (by decide +kernel)
theorem d24_112 : De c24 112 (.getfield 28) 3 115 := dk (by decide +kernel)
theorem d24_115 : De c24 115 (.arraylength) 1 116 := dk (by decide +kernel)
theorem d24_116 : De c24 116 (.ldc 43) 2 118 := dk (by decide +kernel)
theorem d24_118 : DeJ c24 118 (.if_icmp .lt) 121 125 := dj 7 (by decide +kernel) (by decide)
theorem d24_125 : De c24 125 (.return_) 1 126 := dk (by decide +kernel)
theorem d25_0 : De c25 0 (.aload_n 0) 1 1 := dk (by decide +kernel)
theorem d25_1 : De c25 1 (.invokespecial 1) 3 4 := dk (by decide +kernel)
theorem d25_4 : De c25 4 (.return_) 1 5 := dk (by decide +kernel)
theorem d26_0 : De c26 0 (.iload_n 0) 1 1 := dk (by decide +kernel)
theorem d26_1 : De c26 1 (.iload_n 1) 1 2 := dk (by decide +kernel)
theorem d26_2 : De c26 2 (.iload_n 2) 1 3 := dk (by decide +kernel)
theorem d26_3 : De c26 3 (.aconst_null) 1 4 := dk (by decide +kernel)
theorem d26_4 : De c26 4 (.invokestatic 115) 3 7 := dk (by decide +kernel)
theorem d26_7 : De c26 7 (.ireturn) 1 8 := dk (by decide +kernel)
theorem d27_0 : De c27 0 (.iload_n 2) 1 1 := dk (by decide +kernel)
theorem d27_1 : De c27 1 (.iload_n 0) 1 2 := dk (by decide +kernel)
theorem d27_2 : De c27 2 (.ior) 1 3 := dk (by decide +kernel)
theorem d27_3 : De c27 3 (.iload_n 1) 1 4 := dk (by decide +kernel)
theorem d27_4 : De c27 4 (.ior) 1 5 := dk (by decide +kernel)
theorem d27_5 : DeJ c27 5 (.ifCond .lt) 8 15 := dj 10 (by decide +kernel) (by decide)
theorem d27_8 : De c27 8 (.iload_n 1) 1 9 := dk (by decide +kernel)
theorem d27_9 : De c27 9 (.iload_n 2) 1 10 := dk (by decide +kernel)
theorem d27_10 : De c27 10 (.iload_n 0) 1 11 := dk (by decide +kernel)
theorem d27_11 : De c27 11 (.isub) 1 12 := dk (by decide +kernel)
theorem d27_12 : DeJ c27 12 (.if_icmp .le) 15 23 := dj 11 (by decide +kernel) (by decide)
theorem d27_23 : De c27 23 (.iload_n 0) 1 24 := dk (by decide +kernel)
theorem d27_24 : De c27 24 (.ireturn) 1 25 := dk (by decide +kernel)
theorem d28_0 : De c28 0 (.iload_n 3) 1 1 := dk (by decide +kernel)
theorem d28_1 : DeJ c28 1 (.ifCond .ne) 4 11 := dj 10 (by decide +kernel) (by decide)
theorem d28_11 : De c28 11 (.iload_n 2) 1 12 := dk (by decide +kernel)
theorem d28_12 : De c28 12 (.iload_n 3) 1 13 := dk (by decide +kernel)
theorem d28_13 : De c28 13 (.iadd) 1 14 := dk (by decide +kernel)
theorem d28_14 : De c28 14 (.istore 4) 2 16 := dk (by decide +kernel)
theorem d28_16 : De c28 16 (.iload_n 0) 1 17 := dk (by decide +kernel)
theorem d28_17 : De c28 17 (.bipush (-128)) 2 19 := dk (by decide +kernel)
theorem d28_19 : DeJ c28 19 (.if_icmp .ge) 22 26 := dj 7 (by decide +kernel) (by decide)
theorem d28_26 : De c28 26 (.iinc 2 1) 3 29 := dk (by decide +kernel)
theorem d28_29 : De c28 29 (.iload_n 0) 1 30 := dk (by decide +kernel)
theorem d28_30 : DeJ c28 30 (.ifCond .ne) 33 49 := dj 19 (by decide +kernel) (by decide)
theorem d28_33 : De c28 33 (.iload_n 2) 1 34 := dk (by decide +kernel)
theorem d28_34 : De c28 34 (.iload 4) 2 36 := dk (by decide +kernel)
theorem d28_36 : DeJ c28 36 (.if_icmp .ge) 39 49 := dj 13 (by decide +kernel) (by decide)
theorem d28_39 : De c28 39 (.aload_n 1) 1 40 := dk (by decide +kernel)
theorem d28_40 : De c28 40 (.iload_n 2) 1 41 := dk (by decide +kernel)
theorem d28_41 : De c28 41 (.iinc 2 1) 3 44 := dk (by decide +kernel)
theorem d28_44 : De c28 44 (.baload) 1 45 := dk (by decide +kernel)
theorem d28_45 : De c28 45 (.istore_n 0) 1 46 := dk (by decide +kernel)
theorem d28_46 : DeJ c28 46 .goto 49 29 := dj (-17) (by decide +kernel) (by decide)
theorem d28_49 : De c28 49 (.iload_n 0) 1 50 := dk (by decide +kernel)
theorem d28_50 : DeJ c28 50 (.ifCond .ne) 53 60 := dj 10 (by decide +kernel) (by decide)
theorem d28_53 : De c28 53 (.getstatic 22) 3 56 := dk (by decide +kernel)
theorem d28_56 : De c28 56 (.getfield 28) 3 59 := dk (by decide +kernel)
theorem d28_59 : De c28 59 (.areturn) 1 60 := dk (by decide +kernel)
theorem d28_60 : De c28 60 (.iload 4) 2 62 := dk (by decide +kernel)
theorem d28_62 : De c28 62 (.iload_n 2) 1 63 := dk (by decide +kernel)
theorem d28_63 : De c28 63 (.isub) 1 64 := dk (by decide +kernel)
theorem d28_64 : De c28 64 (.iconst 2) 1 65 := dk (by decide +kernel)
theorem d28_65 : De c28 65 (.ishr) 1 66 := dk (by decide +kernel)
theorem d28_66 : De c28 66 (.iconst 1) 1 67 := dk (by decide +kernel)
theorem d28_67 : De c28 67 (.iadd) 1 68 := dk (by decide +kernel)
theorem d28_68 : De c28 68 (.newarray .int) 2 70 := dk (by decide +kernel)
theorem d28_70 : De c28 70 (.astore 5) 2 72 := dk (by decide +kernel)
theorem d28_72 : De c28 72 (.iload_n 0) 1 73 := dk (by decide +kernel)
theorem d28_73 : De c28 73 (.sipush 255) 3 76 := dk (by decide +kernel)
theorem d28_76 : De c28 76 (.iand) 1 77 := dk (by decide +kernel)
theorem d28_77 : De c28 77 (.istore 6) 2 79 := dk (by decide +kernel)
theorem d28_79 : De c28 79 (.iload 4) 2 81 := dk (by decide +kernel)
theorem d28_81 : De c28 81 (.iload_n 2) 1 82 := dk (by decide +kernel)
theorem d28_82 : De c28 82 (.isub) 1 83 := dk (by decide +kernel)
theorem d28_83 : De c28 83 (.iconst 3) 1 84 := dk (by decide +kernel)
theorem d28_84 : De c28 84 (.iand) 1 85 := dk (by decide +kernel)
theorem d28_85 : DeJ c28 85 (.ifCond .eq) 88 109 := dj 24 (by decide +kernel) (by decide)
theorem d28_88 : De c28 88 (.iload 6) 2 90 := dk (by decide +kernel)
theorem d28_90 : De c28 90 (.bipush 8) 2 92 := dk (by decide +kernel)
theorem d28_92 : De c28 92 (.ishl) 1 93 := dk (by decide +kernel)
theorem d28_93 : De c28 93 (.aload_n 1) 1 94 := dk (by decide +kernel)
theorem d28_94 : De c28 94 (.iload_n 2) 1 95 := dk (by decide +kernel)
theorem d28_95 : De c28 95 (.iinc 2 1) 3 98 := dk (by decide +kernel)
theorem d28_98 : De c28 98 (.baload) 1 99 := dk (by decide +kernel)
theorem d28_99 : De c28 99 (.sipush 255) 3 102 := dk (by decide +kernel)
theorem d28_102 : De c28 102 (.iand) 1 103 := dk (by decide +kernel)
theorem d28_103 : De c28 103 (.ior) 1 104 := dk (by decide +kernel)
theorem d28_104 : De c28 104 (.istore 6) 2 106 := dk (by decide +kernel)
theorem d28_106 : DeJ c28 106 .goto 109 79 := dj (-27) (by decide +kernel) (by decide)
theorem d28_109 : De c28 109 (.aload 5) 2 111 := dk (by decide +kernel)
theorem d28_111 : De c28 111 (.iconst 0) 1 112 := dk (by decide +kernel)
theorem d28_112 : De c28 112 (.iload 6) 2 114 := dk (by decide +kernel)
theorem d28_114 : De c28 114 (.iastore) 1 115 := dk (by decide +kernel)
theorem d28_115 : De c28 115 (.iconst 1) 1 116 := dk (by decide +kernel)
theorem d28_116 : De c28 116 (.istore 7) 2 118 := dk (by decide +kernel)
theorem d28_118 : De c28 118 (.iload_n 2) 1 119 := dk (by decide +kernel)
theorem d28_119 : De c28 119 (.iload 4) 2 121 := dk (by decide +kernel)
theorem d28_121 : DeJ c28 121 (.if_icmp .ge) 124 183 := dj 62 (by decide +kernel) (by decide)
theorem d28_124 : De c28 124 (.aload 5) 2 126 := dk (by decide +kernel)
theorem d28_126 : De c28 126 (.iload 7) 2 128 := dk (by decide +kernel)
theorem d28_128 : De c28 128 (.iinc 7 1) 3 131 := dk (by decide +kernel)
theorem d28_131 : De c28 131 (.aload_n 1) 1 132 := dk (by decide +kernel)
theorem d28_132 : De c28 132 (.iload_n 2) 1 133 := dk (by decide +kernel)
theorem d28_133 : De c28 133 (.iinc 2 1) 3 136 := dk (by decide +kernel)
theorem d28_136 : De c28 136 (.baload) 1 137 := dk (by decide +kernel)
theorem d28_137 : De c28 137 (.bipush 24) 2 139 := dk (by decide +kernel)
theorem d28_139 : De c28 139 (.ishl) 1 140 := dk (by decide +kernel)
theorem d28_140 : De c28 140 (.aload_n 1) 1 141 := dk (by decide +kernel)
theorem d28_141 : De c28 141 (.iload_n 2) 1 142 := dk (by decide +kernel)
theorem d28_142 : De c28 142 (.iinc 2 1) 3 145 := dk (by decide +kernel)
theorem d28_145 : De c28 145 (.baload) 1 146 := dk (by decide +kernel)
theorem d28_146 : De c28 146 (.sipush 255) 3 149 := dk (by decide +kernel)
theorem d28_149 : De c28 149 (.iand) 1 150 := dk (by decide +kernel)
theorem d28_150 : De c28 150 (.bipush 16) 2 152 := dk (by decide +kernel)
theorem d28_152 : De c28 152 (.ishl) 1 153 := dk (by decide +kernel)
theorem d28_153 : De c28 153 (.ior) 1 154 := dk (by decide +kernel)
theorem d28_154 : De c28 154 (.aload_n 1) 1 155 := dk (by decide +kernel)
theorem d28_155 : De c28 155 (.iload_n 2) 1 156 := dk (by decide +kernel)
theorem d28_156 : De c28 156 (.iinc 2 1) 3 159 := dk (by decide +kernel)
theorem d28_159 : De c28 159 (.baload) 1 160 := dk (by decide +kernel)
theorem d28_160 : De c28 160 (.sipush 255) 3 163 := dk (by decide +kernel)
theorem d28_163 : De c28 163 (.iand) 1 164 := dk (by decide +kernel)
theorem d28_164 : De c28 164 (.bipush 8) 2 166 := dk (by decide +kernel)
theorem d28_166 : De c28 166 (.ishl) 1 167 := dk (by decide +kernel)
theorem d28_167 : De c28 167 (.ior) 1 168 := dk (by decide +kernel)
theorem d28_168 : De c28 168 (.aload_n 1) 1 169 := dk (by decide +kernel)
theorem d28_169 : De c28 169 (.iload_n 2) 1 170 := dk (by decide +kernel)
theorem d28_170 : De c28 170 (.iinc 2 1) 3 173 := dk (by decide +kernel)
theorem d28_173 : De c28 173 (.baload) 1 174 := dk (by decide +kernel)
theorem d28_174 : De c28 174 (.sipush 255) 3 177 := dk (by decide +kernel)
theorem d28_177 : De c28 177 (.iand) 1 178 := dk (by decide +kernel)
theorem d28_178 : De c28 178 (.ior) 1 179 := dk (by decide +kernel)
theorem d28_179 : De c28 179 (.iastore) 1 180 := dk (by decide +kernel)
theorem d28_180 : DeJ c28 180 .goto 183 118 := dj (-62) (by decide +kernel) (by decide)
theorem d28_183 : De c28 183 (.aload 5) 2 185 := dk (by decide +kernel)
theorem d28_185 : De c28 185 (.areturn) 1 186 := dk (by decide +kernel)
theorem d29_0 : De c29 0 (.aload_n 0) 1 1 := dk (by decide +kernel)
theorem d29_1 : De c29 1 (.invokespecial 11) 3 4 := dk (by decide +kernel)
theorem d29_4 : De c29 4 (.aload_n 0) 1 5 := dk (by decide +kernel)
theorem d29_5 : De c29 5 (.aload_n 1) 1 6 := dk (by decide +kernel)
theorem d29_6 : De c29 6 (.invokestatic 229) 3 9 := dk (by decide +kernel)
theorem d29_9 : De c29 9 (.putfield 28) 3 12 := dk (by decide +kernel)
theorem d29_12 : De c29 12 (.aload_n 0) 1 13 := dk (by decide +kernel)
theorem d29_13 : De c29 13 (.aload_n 0) 1 14 := dk (by decide +kernel)
theorem d29_14 : De c29 14 (.getfield 28) 3 17 := dk (by decide +kernel)
theorem d29_17 : De c29 17 (.invokestatic 121) 3 20 := dk (by decide +kernel)
theorem d29_20 : De c29 20 (.putfield 24) 3 23 := dk (by decide +kernel)
theorem d29_23 : De c29 23 (.aload_n 0) 1 24 := dk (by decide +kernel)
theorem d29_24 : De c29 24 (.iload_n 2) 1 25 := dk (by decide +kernel)
theorem d29_25 : De c29 25 (.putfield 17) 3 28 := dk (by decide +kernel)
theorem d29_28 : De c29 28 (.return_) 1 29 := dk (by decide +kernel)
theorem d30_0 : De c30 0 (.aload_n 0) 1 1 := dk (by decide +kernel)
theorem d30_1 : De c30 1 (.invokevirtual 210) 3 4 := dk (by decide +kernel)
theorem d30_4 : De c30 4 (.ldc 9) 2 6 := dk (by decide +kernel)
theorem d30_6 : DeJ c30 6 (.if_acmp .ne) 9 13 := dj 7 (by decide +kernel) (by decide)
theorem d30_9 : De c30 9 (.aload_n 0) 1 10 := dk (by decide +kernel)
theorem d30_10 : DeJ c30 10 .goto 13 30 := dj 20 (by decide +kernel) (by decide)
theorem d30_30 : De c30 30 (.areturn) 1 31 := dk (by decide +kernel)
theorem d31_0 : De c31 0 (.aload_n 0) 1 1 := dk (by decide +kernel)
theorem d31_1 : De c31 1 (.getfield 878) 3 4 := dk (by decide +kernel)
theorem d31_4 : De c31 4 (.astore_n 1) 1 5 := dk (by decide +kernel)
theorem d31_5 : De c31 5 (.aload_n 1) 1 6 := dk (by decide +kernel)
theorem d31_6 : De c31 6 (.arraylength) 1 7 := dk (by decide +kernel)
theorem d31_7 : De c31 7 (.istore_n 2) 1 8 := dk (by decide +kernel)
theorem d31_8 : De c31 8 (.iload_n 2) 1 9 := dk (by decide +kernel)
theorem d31_9 : DeJ c31 9 (.ifCond .ne) 12 14 := dj 5 (by decide +kernel) (by decide)
theorem d31_12 : De c31 12 (.lconst 0) 1 13 := dk (by decide +kernel)
theorem d31_13 : De c31 13 (.lreturn) 1 14 := dk (by decide +kernel)
theorem d31_14 : De c31 14 (.aload_n 1) 1 15 := dk (by decide +kernel)
theorem d31_15 : De c31 15 (.iconst 0) 1 16 := dk (by decide +kernel)
theorem d31_16 : De c31 16 (.iaload) 1 17 := dk (by decide +kernel)
theorem d31_17 : De c31 17 (.istore_n 3) 1 18 := dk (by decide +kernel)
theorem d31_18 : De c31 18 (.iload_n 2) 1 19 := dk (by decide +kernel)
theorem d31_19 : De c31 19 (.iconst 2) 1 20 := dk (by decide +kernel)
theorem d31_20 : DeJ c31 20 (.if_icmp .gt) 23 32 := dj 12 (by decide +kernel) (by decide)
theorem d31_23 : De c31 23 (.iload_n 2) 1 24 := dk (by decide +kernel)
theorem d31_24 : De c31 24 (.iconst 2) 1 25 := dk (by decide +kernel)
theorem d31_25 : DeJ c31 25 (.if_icmp .ne) 28 36 := dj 11 (by decide +kernel) (by decide)
theorem d31_28 : De c31 28 (.iload_n 3) 1 29 := dk (by decide +kernel)
theorem d31_29 : DeJ c31 29 (.ifCond .ge) 32 36 := dj 7 (by decide +kernel) (by decide)
theorem d31_36 : De c31 36 (.iload_n 2) 1 37 := dk (by decide +kernel)
theorem d31_37 : De c31 37 (.iconst 2) 1 38 := dk (by decide +kernel)
theorem d31_38 : DeJ c31 38 (.if_icmp .ne) 41 58 := dj 20 (by decide +kernel) (by decide)
theorem d31_41 : De c31 41 (.aload_n 1) 1 42 := dk (by decide +kernel)
theorem d31_42 : De c31 42 (.iconst 1) 1 43 := dk (by decide +kernel)
theorem d31_43 : De c31 43 (.iaload) 1 44 := dk (by decide +kernel)
theorem d31_44 : De c31 44 (.i2l) 1 45 := dk (by decide +kernel)
theorem d31_45 : De c31 45 (.ldc2_w 636) 3 48 := dk (by decide +kernel)
theorem d31_48 : De c31 48 (.land) 1 49 := dk (by decide +kernel)
theorem d31_49 : De c31 49 (.iload_n 3) 1 50 := dk (by decide +kernel)
theorem d31_50 : De c31 50 (.i2l) 1 51 := dk (by decide +kernel)
theorem d31_51 : De c31 51 (.bipush 32) 2 53 := dk (by decide +kernel)
theorem d31_53 : De c31 53 (.lshl) 1 54 := dk (by decide +kernel)
theorem d31_54 : De c31 54 (.ladd) 1 55 := dk (by decide +kernel)
theorem d31_55 : DeJ c31 55 .goto 58 64 := dj 9 (by decide +kernel) (by decide)
theorem d31_58 : De c31 58 (.iload_n 3) 1 59 := dk (by decide +kernel)
theorem d31_59 : De c31 59 (.i2l) 1 60 := dk (by decide +kernel)
theorem d31_60 : De c31 60 (.ldc2_w 636) 3 63 := dk (by decide +kernel)
theorem d31_63 : De c31 63 (.land) 1 64 := dk (by decide +kernel)
theorem d31_64 : De c31 64 (.lstore 4) 2 66 := dk (by decide +kernel)
theorem d31_66 : De c31 66 (.aload_n 0) 1 67 := dk (by decide +kernel)
theorem d31_67 : De c31 67 (.getfield 870) 3 70 := dk (by decide +kernel)
theorem d31_70 : DeJ c31 70 (.ifCond .ge) 73 79 := dj 9 (by decide +kernel) (by decide)
theorem d31_73 : De c31 73 (.lload 4) 2 75 := dk (by decide +kernel)
theorem d31_75 : De c31 75 (.lneg) 1 76 := dk (by decide +kernel)
theorem d31_76 : DeJ c31 76 .goto 79 81 := dj 5 (by decide +kernel) (by decide)
theorem d31_79 : De c31 79 (.lload 4) 2 81 := dk (by decide +kernel)
theorem d31_81 : De c31 81 (.lreturn) 1 82 := dk (by decide +kernel)
theorem d32_0 : De c32 0 (.aload_n 0) 1 1 := dk (by decide +kernel)
theorem d32_1 : De c32 1 (.getfield 17) 3 4 := dk (by decide +kernel)
theorem d32_4 : De c32 4 (.ireturn) 1 5 := dk (by decide +kernel)
theorem d33_0 : De c33 0 (.aload_n 0) 1 1 := dk (by decide +kernel)
theorem d33_1 : De c33 1 (.invokevirtual 302) 3 4 := dk (by decide +kernel)
theorem d33_4 : De c33 4 (.areturn) 1 5 := dk (by decide +kernel)
theorem d34_0 : De c34 0 (.aload_n 0) 1 1 := dk (by decide +kernel)
theorem d34_1 : De c34 1 (.getfield 28) 3 4 := dk (by decide +kernel)
theorem d34_4 : DeJ c34 4 .ifnonnull 7 15 := dj 11 (by decide +kernel) (by decide)
theorem d34_15 : De c34 15 (.aload_n 0) 1 16 := dk (by decide +kernel)
theorem d34_16 : De c34 16 (.getfield 28) 3 19 := dk (by decide +kernel)
theorem d34_19 : De c34 19 (.areturn) 1 20 := dk (by decide +kernel)
theorem d35_0 : De c35 0 (.aload_n 0) 1 1 := dk (by decide +kernel)
theorem d35_1 : De c35 1 (.getfield 747) 3 4 := dk (by decide +kernel)
theorem d35_4 : De c35 4 (.iconst 1) 1 5 := dk (by decide +kernel)
theorem d35_5 : De c35 5 (.isub) 1 6 := dk (by decide +kernel)
theorem d35_6 : De c35 6 (.istore_n 1) 1 7 := dk (by decide +kernel)
theorem d35_7 : De c35 7 (.iload_n 1) 1 8 := dk (by decide +kernel)
theorem d35_8 : De c35 8 (.iconst (-1)) 1 9 := dk (by decide +kernel)
theorem d35_9 : DeJ c35 9 (.if_icmp .ne) 12 138 := dj 129 (by decide +kernel) (by decide)
theorem d35_12 : De c35 12 (.aload_n 0) 1 13 := dk (by decide +kernel)
theorem d35_13 : De c35 13 (.getfield 28) 3 16 := dk (by decide +kernel)
theorem d35_16 : De c35 16 (.astore_n 2) 1 17 := dk (by decide +kernel)
theorem d35_17 : De c35 17 (.aload_n 2) 1 18 := dk (by decide +kernel)
theorem d35_18 : De c35 18 (.arraylength) 1 19 := dk (by decide +kernel)
theorem d35_19 : De c35 19 (.istore_n 3) 1 20 := dk (by decide +kernel)
theorem d35_20 : De c35 20 (.iload_n 3) 1 21 := dk (by decide +kernel)
theorem d35_21 : DeJ c35 21 (.ifCond .ne) 24 29 := dj 8 (by decide +kernel) (by decide)
theorem d35_24 : De c35 24 (.iconst 0) 1 25 := dk (by decide +kernel)
theorem d35_25 : De c35 25 (.istore_n 1) 1 26 := dk (by decide +kernel)
theorem d35_26 : DeJ c35 26 .goto 29 131 := dj 105 (by decide +kernel) (by decide)
theorem d35_29 : De c35 29 (.iload_n 3) 1 30 := dk (by decide +kernel)
theorem d35_30 : De c35 30 (.iconst 1) 1 31 := dk (by decide +kernel)
theorem d35_31 : De c35 31 (.isub) 1 32 := dk (by decide +kernel)
theorem d35_32 : De c35 32 (.iconst 5) 1 33 := dk (by decide +kernel)
theorem d35_33 : De c35 33 (.ishl) 1 34 := dk (by decide +kernel)
theorem d35_34 : De c35 34 (.aload_n 0) 1 35 := dk (by decide +kernel)
theorem d35_35 : De c35 35 (.getfield 28) 3 38 := dk (by decide +kernel)
theorem d35_38 : De c35 38 (.iconst 0) 1 39 := dk (by decide +kernel)
theorem d35_39 : De c35 39 (.iaload) 1 40 := dk (by decide +kernel)
theorem d35_40 : De c35 40 (.invokestatic 605) 3 43 := dk (by decide +kernel)
theorem d35_43 : De c35 43 (.iadd) 1 44 := dk (by decide +kernel)
theorem d35_44 : De c35 44 (.istore 4) 2 46 := dk (by decide +kernel)
theorem d35_46 : De c35 46 (.aload_n 0) 1 47 := dk (by decide +kernel)
theorem d35_47 : De c35 47 (.getfield 32) 3 50 := dk (by decide +kernel)
theorem d35_50 : DeJ c35 50 (.ifCond .ge) 53 128 := dj 78 (by decide +kernel) (by decide)
theorem d35_53 : De c35 53 (.aload_n 0) 1 54 := dk (by decide +kernel)
theorem d35_54 : De c35 54 (.getfield 28) 3 57 := dk (by decide +kernel)
theorem d35_57 : De c35 57 (.iconst 0) 1 58 := dk (by decide +kernel)
theorem d35_58 : De c35 58 (.iaload) 1 59 := dk (by decide +kernel)
theorem d35_59 : De c35 59 (.invokestatic 423) 3 62 := dk (by decide +kernel)
theorem d35_62 : De c35 62 (.iconst 1) 1 63 := dk (by decide +kernel)
theorem d35_63 : DeJ c35 63 (.if_icmp .ne) 66 70 := dj 7 (by decide +kernel) (by decide)
theorem d35_66 : De c35 66 (.iconst 1) 1 67 := dk (by decide +kernel)
theorem d35_67 : DeJ c35 67 .goto 70 71 := dj 4 (by decide +kernel) (by decide)
theorem d35_70 : De c35 70 (.iconst 0) 1 71 := dk (by decide +kernel)
theorem d35_71 : De c35 71 (.istore 5) 2 73 := dk (by decide +kernel)
theorem d35_73 : De c35 73 (.iconst 1) 1 74 := dk (by decide +kernel)
theorem d35_74 : De c35 74 (.istore 6) 2 76 := dk (by decide +kernel)
theorem d35_76 : De c35 76 (.iload 6) 2 78 := dk (by decide +kernel)
theorem d35_78 : De c35 78 (.iload_n 3) 1 79 := dk (by decide +kernel)
theorem d35_79 : DeJ c35 79 (.if_icmp .ge) 82 110 := dj 31 (by decide +kernel) (by decide)
theorem d35_82 : De c35 82 (.iload 5) 2 84 := dk (by decide +kernel)
theorem d35_84 : DeJ c35 84 (.ifCond .eq) 87 110 := dj 26 (by decide +kernel) (by decide)
theorem d35_87 : De c35 87 (.aload_n 0) 1 88 := dk (by decide +kernel)
theorem d35_88 : De c35 88 (.getfield 28) 3 91 := dk (by decide +kernel)
theorem d35_91 : De c35 91 (.iload 6) 2 93 := dk (by decide +kernel)
theorem d35_93 : De c35 93 (.iaload) 1 94 := dk (by decide +kernel)
theorem d35_94 : DeJ c35 94 (.ifCond .ne) 97 101 := dj 7 (by decide +kernel) (by decide)
theorem d35_97 : De c35 97 (.iconst 1) 1 98 := dk (by decide +kernel)
theorem d35_98 : DeJ c35 98 .goto 101 102 := dj 4 (by decide +kernel) (by decide)
theorem d35_101 : De c35 101 (.iconst 0) 1 102 := dk (by decide +kernel)
theorem d35_102 : De c35 102 (.istore 5) 2 104 := dk (by decide +kernel)
theorem d35_104 : De c35 104 (.iinc 6 1) 3 107 := dk (by decide +kernel)
theorem d35_107 : DeJ c35 107 .goto 110 76 := dj (-31) (by decide +kernel) (by decide)
theorem d35_110 : De c35 110 (.iload 5) 2 112 := dk (by decide +kernel)
theorem d35_112 : DeJ c35 112 (.ifCond .eq) 115 122 := dj 10 (by decide +kernel) (by decide)
theorem d35_115 : De c35 115 (.iload 4) 2 117 := dk (by decide +kernel)
theorem d35_117 : De c35 117 (.iconst 1) 1 118 := dk (by decide +kernel)
theorem d35_118 : De c35 118 (.isub) 1 119 := dk (by decide +kernel)
theorem d35_119 : DeJ c35 119 .goto 122 124 := dj 5 (by decide +kernel) (by decide)
theorem d35_122 : De c35 122 (.iload 4) 2 124 := dk (by decide +kernel)
theorem d35_124 : De c35 124 (.istore_n 1) 1 125 := dk (by decide +kernel)
theorem d35_125 : DeJ c35 125 .goto 128 131 := dj 6 (by decide +kernel) (by decide)
theorem d35_128 : De c35 128 (.iload 4) 2 130 := dk (by decide +kernel)
theorem d35_130 : De c35 130 (.istore_n 1) 1 131 := dk (by decide +kernel)
theorem d35_131 : De c35 131 (.aload_n 0) 1 132 := dk (by decide +kernel)
theorem d35_132 : De c35 132 (.iload_n 1) 1 133 := dk (by decide +kernel)
theorem d35_133 : De c35 133 (.iconst 1) 1 134 := dk (by decide +kernel)
theorem d35_134 : De c35 134 (.iadd) 1 135 := dk (by decide +kernel)
theorem d35_135 : De c35 135 (.putfield 747) 3 138 := dk (by decide +kernel)
theorem d35_138 : De c35 138 (.iload_n 1) 1 139 := dk (by decide +kernel)
theorem d35_139 : De c35 139 (.ireturn) 1 140 := dk (by decide +kernel)
theorem d36_0 : De c36 0 (.bipush 32) 2 2 := dk (by decide +kernel)
theorem d36_2 : De c36 2 (.iload_n 0) 1 3 := dk (by decide +kernel)
theorem d36_3 : De c36 3 (.invokestatic 602) 3 6 := dk (by decide +kernel)
theorem d36_6 : De c36 6 (.isub) 1 7 := dk (by decide +kernel)
theorem d36_7 : De c36 7 (.ireturn) 1 8 := dk (by decide +kernel)
theorem d37_0 : De c37 0 (.iload_n 0) 1 1 := dk (by decide +kernel)
theorem d37_1 : DeJ c37 1 (.ifCond .gt) 4 15 := dj 14 (by decide +kernel) (by decide)
theorem d37_4 : De c37 4 (.iload_n 0) 1 5 := dk (by decide +kernel)
theorem d37_5 : DeJ c37 5 (.ifCond .ne) 8 13 := dj 8 (by decide +kernel) (by decide)
theorem d37_8 : De c37 8 (.bipush 32) 2 10 := dk (by decide +kernel)
theorem d37_10 : DeJ c37 10 .goto 13 14 := dj 4 (by decide +kernel) (by decide)
theorem d37_13 : De c37 13 (.iconst 0) 1 14 := dk (by decide +kernel)
theorem d37_14 : De c37 14 (.ireturn) 1 15 := dk (by decide +kernel)
theorem d37_15 : De c37 15 (.bipush 31) 2 17 := dk (by decide +kernel)
theorem d37_17 : De c37 17 (.istore_n 1) 1 18 := dk (by decide +kernel)
theorem d37_18 : De c37 18 (.iload_n 0) 1 19 := dk (by decide +kernel)
theorem d37_19 : De c37 19 (.ldc_w 264) 3 22 := dk (by decide +kernel)
theorem d37_22 : DeJ c37 22 (.if_icmp .lt) 25 33 := dj 11 (by decide +kernel) (by decide)
theorem d37_25 : De c37 25 (.iinc 1 (-16)) 3 28 := dk (by decide +kernel)
theorem d37_28 : De c37 28 (.iload_n 0) 1 29 := dk (by decide +kernel)
theorem d37_29 : De c37 29 (.bipush 16) 2 31 := dk (by decide +kernel)
theorem d37_31 : De c37 31 (.iushr) 1 32 := dk (by decide +kernel)
theorem d37_32 : De c37 32 (.istore_n 0) 1 33 := dk (by decide +kernel)
theorem d37_33 : De c37 33 (.iload_n 0) 1 34 := dk (by decide +kernel)
theorem d37_34 : De c37 34 (.sipush 256) 3 37 := dk (by decide +kernel)
theorem d37_37 : DeJ c37 37 (.if_icmp .lt) 40 48 := dj 11 (by decide +kernel) (by decide)
theorem d37_40 : De c37 40 (.iinc 1 (-8)) 3 43 := dk (by decide +kernel)
theorem d37_43 : De c37 43 (.iload_n 0) 1 44 := dk (by decide +kernel)
theorem d37_44 : De c37 44 (.bipush 8) 2 46 := dk (by decide +kernel)
theorem d37_46 : De c37 46 (.iushr) 1 47 := dk (by decide +kernel)
theorem d37_47 : De c37 47 (.istore_n 0) 1 48 := dk (by decide +kernel)
theorem d37_48 : De c37 48 (.iload_n 0) 1 49 := dk (by decide +kernel)
theorem d37_49 : De c37 49 (.bipush 16) 2 51 := dk (by decide +kernel)
theorem d37_51 : DeJ c37 51 (.if_icmp .lt) 54 61 := dj 10 (by decide +kernel) (by decide)
theorem d37_54 : De c37 54 (.iinc 1 (-4)) 3 57 := dk (by decide +kernel)
theorem d37_57 : De c37 57 (.iload_n 0) 1 58 := dk (by decide +kernel)
theorem d37_58 : De c37 58 (.iconst 4) 1 59 := dk (by decide +kernel)
theorem d37_59 : De c37 59 (.iushr) 1 60 := dk (by decide +kernel)
theorem d37_60 : De c37 60 (.istore_n 0) 1 61 := dk (by decide +kernel)
theorem d37_61 : De c37 61 (.iload_n 0) 1 62 := dk (by decide +kernel)
theorem d37_62 : De c37 62 (.iconst 4) 1 63 := dk (by decide +kernel)
theorem d37_63 : DeJ c37 63 (.if_icmp .lt) 66 73 := dj 10 (by decide +kernel) (by decide)
theorem d37_66 : De c37 66 (.iinc 1 (-2)) 3 69 := dk (by decide +kernel)
theorem d37_69 : De c37 69 (.iload_n 0) 1 70 := dk (by decide +kernel)
theorem d37_70 : De c37 70 (.iconst 2) 1 71 := dk (by decide +kernel)
theorem d37_71 : De c37 71 (.iushr) 1 72 := dk (by decide +kernel)
theorem d37_72 : De c37 72 (.istore_n 0) 1 73 := dk (by decide +kernel)
theorem d37_73 : De c37 73 (.iload_n 1) 1 74 := dk (by decide +kernel)
theorem d37_74 : De c37 74 (.iload_n 0) 1 75 := dk (by decide +kernel)
theorem d37_75 : De c37 75 (.iconst 1) 1 76 := dk (by decide +kernel)
theorem d37_76 : De c37 76 (.iushr) 1 77 := dk (by decide +kernel)
theorem d37_77 : De c37 77 (.isub) 1 78 := dk (by decide +kernel)
theorem d37_78 : De c37 78 (.ireturn) 1 79 := dk (by decide +kernel)
theorem d38_0 : De c38 0 (.lconst 0) 1 1 := dk (by decide +kernel)
theorem d38_1 : De c38 1 (.lstore_n 1) 1 2 := dk (by decide +kernel)
theorem d38_2 : De c38 2 (.iconst 1) 1 3 := dk (by decide +kernel)
theorem d38_3 : De c38 3 (.istore_n 3) 1 4 := dk (by decide +kernel)
theorem d38_4 : De c38 4 (.iload_n 3) 1 5 := dk (by decide +kernel)
theorem d38_5 : DeJ c38 5 (.ifCond .lt) 8 30 := dj 25 (by decide +kernel) (by decide)
theorem d38_8 : De c38 8 (.lload_n 1) 1 9 := dk (by decide +kernel)
theorem d38_9 : De c38 9 (.bipush 32) 2 11 := dk (by decide +kernel)
theorem d38_11 : De c38 11 (.lshl) 1 12 := dk (by decide +kernel)
theorem d38_12 : De c38 12 (.aload_n 0) 1 13 := dk (by decide +kernel)
theorem d38_13 : De c38 13 (.iload_n 3) 1 14 := dk (by decide +kernel)
theorem d38_14 : De c38 14 (.invokevirtual 736) 3 17 := dk (by decide +kernel)
theorem d38_17 : De c38 17 (.i2l) 1 18 := dk (by decide +kernel)
theorem d38_18 : De c38 18 (.ldc2_w 130) 3 21 := dk (by decide +kernel)
theorem d38_21 : De c38 21 (.land) 1 22 := dk (by decide +kernel)
theorem d38_22 : De c38 22 (.ladd) 1 23 := dk (by decide +kernel)
theorem d38_23 : De c38 23 (.lstore_n 1) 1 24 := dk (by decide +kernel)
theorem d38_24 : De c38 24 (.iinc 3 (-1)) 3 27 := dk (by decide +kernel)
theorem d38_27 : DeJ c38 27 .goto 30 4 := dj (-23) (by decide +kernel) (by decide)
theorem d38_30 : De c38 30 (.lload_n 1) 1 31 := dk (by decide +kernel)
theorem d38_31 : De c38 31 (.lreturn) 1 32 := dk (by decide +kernel)
theorem d39_0 : De c39 0 (.iload_n 1) 1 1 := dk (by decide +kernel)
theorem d39_1 : DeJ c39 1 (.ifCond .ge) 4 6 := dj 5 (by decide +kernel) (by decide)
theorem d39_6 : De c39 6 (.iload_n 1) 1 7 := dk (by decide +kernel)
theorem d39_7 : De c39 7 (.aload_n 0) 1 8 := dk (by decide +kernel)
theorem d39_8 : De c39 8 (.getfield 28) 3 11 := dk (by decide +kernel)
theorem d39_11 : De c39 11 (.arraylength) 1 12 := dk (by decide +kernel)
theorem d39_12 : DeJ c39 12 (.if_icmp .lt) 15 20 := dj 8 (by decide +kernel) (by decide)
theorem d39_15 : De c39 15 (.aload_n 0) 1 16 := dk (by decide +kernel)
theorem d39_16 : De c39 16 (.invokevirtual 860) 3 19 := dk (by decide +kernel)
theorem d39_19 : De c39 19 (.ireturn) 1 20 := dk (by decide +kernel)
theorem d39_20 : De c39 20 (.aload_n 0) 1 21 := dk (by decide +kernel)
theorem d39_21 : De c39 21 (.getfield 28) 3 24 := dk (by decide +kernel)
theorem d39_24 : De c39 24 (.aload_n 0) 1 25 := dk (by decide +kernel)
theorem d39_25 : De c39 25 (.getfield 28) 3 28 := dk (by decide +kernel)
theorem d39_28 : De c39 28 (.arraylength) 1 29 := dk (by decide +kernel)
theorem d39_29 : De c39 29 (.iload_n 1) 1 30 := dk (by decide +kernel)
theorem d39_30 : De c39 30 (.isub) 1 31 := dk (by decide +kernel)
theorem d39_31 : De c39 31 (.iconst 1) 1 32 := dk (by decide +kernel)
theorem d39_32 : De c39 32 (.isub) 1 33 := dk (by decide +kernel)
theorem d39_33 : De c39 33 (.iaload) 1 34 := dk (by decide +kernel)
theorem d39_34 : De c39 34 (.istore_n 2) 1 35 := dk (by decide +kernel)
theorem d39_35 : De c39 35 (.aload_n 0) 1 36 := dk (by decide +kernel)
theorem d39_36 : De c39 36 (.getfield 32) 3 39 := dk (by decide +kernel)
theorem d39_39 : DeJ c39 39 (.ifCond .lt) 42 46 := dj 7 (by decide +kernel) (by decide)
theorem d39_42 : De c39 42 (.iload_n 2) 1 43 := dk (by decide +kernel)
theorem d39_43 : DeJ c39 43 .goto 46 62 := dj 19 (by decide +kernel) (by decide)
theorem d39_46 : De c39 46 (.iload_n 1) 1 47 := dk (by decide +kernel)
theorem d39_47 : De c39 47 (.aload_n 0) 1 48 := dk (by decide +kernel)
theorem d39_48 : De c39 48 (.invokevirtual 863) 3 51 := dk (by decide +kernel)
theorem d39_51 : DeJ c39 51 (.if_icmp .gt) 54 59 := dj 8 (by decide +kernel) (by decide)
theorem d39_54 : De c39 54 (.iload_n 2) 1 55 := dk (by decide +kernel)
theorem d39_55 : De c39 55 (.ineg) 1 56 := dk (by decide +kernel)
theorem d39_56 : DeJ c39 56 .goto 59 62 := dj 6 (by decide +kernel) (by decide)
theorem d39_59 : De c39 59 (.iload_n 2) 1 60 := dk (by decide +kernel)
theorem d39_60 : De c39 60 (.iconst (-1)) 1 61 := dk (by decide +kernel)
theorem d39_61 : De c39 61 (.ixor) 1 62 := dk (by decide +kernel)
theorem d39_62 : De c39 62 (.ireturn) 1 63 := dk (by decide +kernel)
theorem d40_0 : De c40 0 (.aload_n 0) 1 1 := dk (by decide +kernel)
theorem d40_1 : De c40 1 (.getfield 32) 3 4 := dk (by decide +kernel)
theorem d40_4 : DeJ c40 4 (.ifCond .ge) 7 11 := dj 7 (by decide +kernel) (by decide)
theorem d40_7 : De c40 7 (.iconst (-1)) 1 8 := dk (by decide +kernel)
theorem d40_8 : DeJ c40 8 .goto 11 12 := dj 4 (by decide +kernel) (by decide)
theorem d40_11 : De c40 11 (.iconst 0) 1 12 := dk (by decide +kernel)
theorem d40_12 : De c40 12 (.ireturn) 1 13 := dk (by decide +kernel)
theorem d41_0 : De c41 0 (.iload 6) 2 2 := dk (by decide +kernel)
theorem d41_2 : DeJ c41 2 (.ifCond .eq) 5 11 := dj 9 (by decide +kernel) (by decide)
theorem d41_11 : De c41 11 (.getstatic 99) 3 14 := dk (by decide +kernel)
theorem d41_14 : De c41 14 (.astore 8) 2 16 := dk (by decide +kernel)
theorem d41_16 : De c41 16 (.iload_n 2) 1 17 := dk (by decide +kernel)
theorem d41_17 : De c41 17 (.iload_n 3) 1 18 := dk (by decide +kernel)
theorem d41_18 : De c41 18 (.iload_n 2) 1 19 := dk (by decide +kernel)
theorem d41_19 : De c41 19 (.isub) 1 20 := dk (by decide +kernel)
theorem d41_20 : De c41 20 (.bipush (-4)) 2 22 := dk (by decide +kernel)
theorem d41_22 : De c41 22 (.iand) 1 23 := dk (by decide +kernel)
theorem d41_23 : De c41 23 (.iadd) 1 24 := dk (by decide +kernel)
theorem d41_24 : De c41 24 (.istore 9) 2 26 := dk (by decide +kernel)
theorem d41_26 : De c41 26 (.iload 5) 2 28 := dk (by decide +kernel)
theorem d41_28 : De c41 28 (.istore 10) 2 30 := dk (by decide +kernel)
theorem d41_30 : De c41 30 (.iload_n 2) 1 31 := dk (by decide +kernel)
theorem d41_31 : De c41 31 (.iload 9) 2 33 := dk (by decide +kernel)
theorem d41_33 : DeJ c41 33 (.if_icmp .ge) 36 180 := dj 147 (by decide +kernel) (by decide)
theorem d41_36 : De c41 36 (.aload 8) 2 38 := dk (by decide +kernel)
theorem d41_38 : De c41 38 (.aload_n 1) 1 39 := dk (by decide +kernel)
theorem d41_39 : De c41 39 (.iload_n 2) 1 40 := dk (by decide +kernel)
theorem d41_40 : De c41 40 (.iinc 2 1) 3 43 := dk (by decide +kernel)
theorem d41_43 : De c41 43 (.baload) 1 44 := dk (by decide +kernel)
theorem d41_44 : De c41 44 (.sipush 255) 3 47 := dk (by decide +kernel)
theorem d41_47 : De c41 47 (.iand) 1 48 := dk (by decide +kernel)
theorem d41_48 : De c41 48 (.iaload) 1 49 := dk (by decide +kernel)
theorem d41_49 : De c41 49 (.istore 11) 2 51 := dk (by decide +kernel)
theorem d41_51 : De c41 51 (.aload 8) 2 53 := dk (by decide +kernel)
theorem d41_53 : De c41 53 (.aload_n 1) 1 54 := dk (by decide +kernel)
theorem d41_54 : De c41 54 (.iload_n 2) 1 55 := dk (by decide +kernel)
theorem d41_55 : De c41 55 (.iinc 2 1) 3 58 := dk (by decide +kernel)
theorem d41_58 : De c41 58 (.baload) 1 59 := dk (by decide +kernel)
theorem d41_59 : De c41 59 (.sipush 255) 3 62 := dk (by decide +kernel)
theorem d41_62 : De c41 62 (.iand) 1 63 := dk (by decide +kernel)
theorem d41_63 : De c41 63 (.iaload) 1 64 := dk (by decide +kernel)
theorem d41_64 : De c41 64 (.istore 12) 2 66 := dk (by decide +kernel)
theorem d41_66 : De c41 66 (.aload 8) 2 68 := dk (by decide +kernel)
theorem d41_68 : De c41 68 (.aload_n 1) 1 69 := dk (by decide +kernel)
theorem d41_69 : De c41 69 (.iload_n 2) 1 70 := dk (by decide +kernel)
theorem d41_70 : De c41 70 (.iinc 2 1) 3 73 := dk (by decide +kernel)
theorem d41_73 : De c41 73 (.baload) 1 74 := dk (by decide +kernel)
theorem d41_74 : De c41 74 (.sipush 255) 3 77 := dk (by decide +kernel)
theorem d41_77 : De c41 77 (.iand) 1 78 := dk (by decide +kernel)
theorem d41_78 : De c41 78 (.iaload) 1 79 := dk (by decide +kernel)
theorem d41_79 : De c41 79 (.istore 13) 2 81 := dk (by decide +kernel)
theorem d41_81 : De c41 81 (.aload 8) 2 83 := dk (by decide +kernel)
theorem d41_83 : De c41 83 (.aload_n 1) 1 84 := dk (by decide +kernel)
theorem d41_84 : De c41 84 (.iload_n 2) 1 85 := dk (by decide +kernel)
theorem d41_85 : De c41 85 (.iinc 2 1) 3 88 := dk (by decide +kernel)
theorem d41_88 : De c41 88 (.baload) 1 89 := dk (by decide +kernel)
theorem d41_89 : De c41 89 (.sipush 255) 3 92 := dk (by decide +kernel)
theorem d41_92 : De c41 92 (.iand) 1 93 := dk (by decide +kernel)
theorem d41_93 : De c41 93 (.iaload) 1 94 := dk (by decide +kernel)
theorem d41_94 : De c41 94 (.istore 14) 2 96 := dk (by decide +kernel)
theorem d41_96 : De c41 96 (.iload 11) 2 98 := dk (by decide +kernel)
theorem d41_98 : De c41 98 (.iload 12) 2 100 := dk (by decide +kernel)
theorem d41_100 : De c41 100 (.ior) 1 101 := dk (by decide +kernel)
theorem d41_101 : De c41 101 (.iload 13) 2 103 := dk (by decide +kernel)
theorem d41_103 : De c41 103 (.ior) 1 104 := dk (by decide +kernel)
theorem d41_104 : De c41 104 (.iload 14) 2 106 := dk (by decide +kernel)
theorem d41_106 : De c41 106 (.ior) 1 107 := dk (by decide +kernel)
theorem d41_107 : DeJ c41 107 (.ifCond .ge) 110 116 := dj 9 (by decide +kernel) (by decide)
theorem d41_110 : De c41 110 (.iload 10) 2 112 := dk (by decide +kernel)
theorem d41_112 : De c41 112 (.iload 5) 2 114 := dk (by decide +kernel)
theorem d41_114 : De c41 114 (.isub) 1 115 := dk (by decide +kernel)
theorem d41_115 : De c41 115 (.ireturn) 1 116 := dk (by decide +kernel)
theorem d41_116 : De c41 116 (.iload 11) 2 118 := dk (by decide +kernel)
theorem d41_118 : De c41 118 (.bipush 18) 2 120 := dk (by decide +kernel)
theorem d41_120 : De c41 120 (.ishl) 1 121 := dk (by decide +kernel)
theorem d41_121 : De c41 121 (.iload 12) 2 123 := dk (by decide +kernel)
theorem d41_123 : De c41 123 (.bipush 12) 2 125 := dk (by decide +kernel)
theorem d41_125 : De c41 125 (.ishl) 1 126 := dk (by decide +kernel)
theorem d41_126 : De c41 126 (.ior) 1 127 := dk (by decide +kernel)
theorem d41_127 : De c41 127 (.iload 13) 2 129 := dk (by decide +kernel)
theorem d41_129 : De c41 129 (.bipush 6) 2 131 := dk (by decide +kernel)
theorem d41_131 : De c41 131 (.ishl) 1 132 := dk (by decide +kernel)
theorem d41_132 : De c41 132 (.ior) 1 133 := dk (by decide +kernel)
theorem d41_133 : De c41 133 (.iload 14) 2 135 := dk (by decide +kernel)
theorem d41_135 : De c41 135 (.ior) 1 136 := dk (by decide +kernel)
theorem d41_136 : De c41 136 (.istore 15) 2 138 := dk (by decide +kernel)
theorem d41_138 : De c41 138 (.aload 4) 2 140 := dk (by decide +kernel)
theorem d41_140 : De c41 140 (.iload 10) 2 142 := dk (by decide +kernel)
theorem d41_142 : De c41 142 (.iinc 10 1) 3 145 := dk (by decide +kernel)
theorem d41_145 : De c41 145 (.iload 15) 2 147 := dk (by decide +kernel)
theorem d41_147 : De c41 147 (.bipush 16) 2 149 := dk (by decide +kernel)
theorem d41_149 : De c41 149 (.ishr) 1 150 := dk (by decide +kernel)
theorem d41_150 : De c41 150 (.i2b) 1 151 := dk (by decide +kernel)
theorem d41_151 : De c41 151 (.bastore) 1 152 := dk (by decide +kernel)
theorem d41_152 : De c41 152 (.aload 4) 2 154 := dk (by decide +kernel)
theorem d41_154 : De c41 154 (.iload 10) 2 156 := dk (by decide +kernel)
theorem d41_156 : De c41 156 (.iinc 10 1) 3 159 := dk (by decide +kernel)
theorem d41_159 : De c41 159 (.iload 15) 2 161 := dk (by decide +kernel)
theorem d41_161 : De c41 161 (.bipush 8) 2 163 := dk (by decide +kernel)
theorem d41_163 : De c41 163 (.ishr) 1 164 := dk (by decide +kernel)
theorem d41_164 : De c41 164 (.i2b) 1 165 := dk (by decide +kernel)
theorem d41_165 : De c41 165 (.bastore) 1 166 := dk (by decide +kernel)
theorem d41_166 : De c41 166 (.aload 4) 2 168 := dk (by decide +kernel)
theorem d41_168 : De c41 168 (.iload 10) 2 170 := dk (by decide +kernel)
theorem d41_170 : De c41 170 (.iinc 10 1) 3 173 := dk (by decide +kernel)
theorem d41_173 : De c41 173 (.iload 15) 2 175 := dk (by decide +kernel)
theorem d41_175 : De c41 175 (.i2b) 1 176 := dk (by decide +kernel)
theorem d41_176 : De c41 176 (.bastore) 1 177 := dk (by decide +kernel)
theorem d41_177 : DeJ c41 177 .goto 180 30 := dj (-147) (by decide +kernel) (by decide)
theorem d41_180 : De c41 180 (.iload 10) 2 182 := dk (by decide +kernel)
theorem d41_182 : De c41 182 (.iload 5) 2 184 := dk (by decide +kernel)
theorem d41_184 : De c41 184 (.isub) 1 185 := dk (by decide +kernel)
theorem d41_185 : De c41 185 (.ireturn) 1 186 := dk (by decide +kernel)
theorem d42_0 : De c42 0 (.iload_n 2) 1 1 := dk (by decide +kernel)
theorem d42_1 : De c42 1 (.iload_n 3) 1 2 := dk (by decide +kernel)
theorem d42_2 : De c42 2 (.iadd) 1 3 := dk (by decide +kernel)
theorem d42_3 : De c42 3 (.istore 4) 2 5 := dk (by decide +kernel)
theorem d42_5 : De c42 5 (.iinc 2 1) 3 8 := dk (by decide +kernel)
theorem d42_8 : De c42 8 (.iload_n 0) 1 9 := dk (by decide +kernel)
theorem d42_9 : De c42 9 (.iconst (-1)) 1 10 := dk (by decide +kernel)
theorem d42_10 : DeJ c42 10 (.if_icmp .ne) 13 29 := dj 19 (by decide +kernel) (by decide)
theorem d42_13 : De c42 13 (.iload_n 2) 1 14 := dk (by decide +kernel)
theorem d42_14 : De c42 14 (.iload 4) 2 16 := dk (by decide +kernel)
theorem d42_16 : DeJ c42 16 (.if_icmp .ge) 19 29 := dj 13 (by decide +kernel) (by decide)
theorem d42_19 : De c42 19 (.aload_n 1) 1 20 := dk (by decide +kernel)
theorem d42_20 : De c42 20 (.iload_n 2) 1 21 := dk (by decide +kernel)
theorem d42_21 : De c42 21 (.iinc 2 1) 3 24 := dk (by decide +kernel)
theorem d42_24 : De c42 24 (.baload) 1 25 := dk (by decide +kernel)
theorem d42_25 : De c42 25 (.istore_n 0) 1 26 := dk (by decide +kernel)
theorem d42_26 : DeJ c42 26 .goto 29 8 := dj (-18) (by decide +kernel) (by decide)
theorem d42_29 : De c42 29 (.sipush (-256)) 3 32 := dk (by decide +kernel)
theorem d42_32 : De c42 32 (.iload_n 0) 1 33 := dk (by decide +kernel)
theorem d42_33 : De c42 33 (.sipush 255) 3 36 := dk (by decide +kernel)
theorem d42_36 : De c42 36 (.iand) 1 37 := dk (by decide +kernel)
theorem d42_37 : De c42 37 (.ior) 1 38 := dk (by decide +kernel)
theorem d42_38 : De c42 38 (.istore 5) 2 40 := dk (by decide +kernel)
theorem d42_40 : De c42 40 (.iload 4) 2 42 := dk (by decide +kernel)
theorem d42_42 : De c42 42 (.iload_n 2) 1 43 := dk (by decide +kernel)
theorem d42_43 : De c42 43 (.isub) 1 44 := dk (by decide +kernel)
theorem d42_44 : De c42 44 (.iconst 3) 1 45 := dk (by decide +kernel)
theorem d42_45 : De c42 45 (.iand) 1 46 := dk (by decide +kernel)
theorem d42_46 : DeJ c42 46 (.ifCond .eq) 49 72 := dj 26 (by decide +kernel) (by decide)
theorem d42_49 : De c42 49 (.iload 5) 2 51 := dk (by decide +kernel)
theorem d42_51 : De c42 51 (.bipush 8) 2 53 := dk (by decide +kernel)
theorem d42_53 : De c42 53 (.ishl) 1 54 := dk (by decide +kernel)
theorem d42_54 : De c42 54 (.aload_n 1) 1 55 := dk (by decide +kernel)
theorem d42_55 : De c42 55 (.iload_n 2) 1 56 := dk (by decide +kernel)
theorem d42_56 : De c42 56 (.iinc 2 1) 3 59 := dk (by decide +kernel)
theorem d42_59 : De c42 59 (.baload) 1 60 := dk (by decide +kernel)
theorem d42_60 : De c42 60 (.dup) 1 61 := dk (by decide +kernel)
theorem d42_61 : De c42 61 (.istore_n 0) 1 62 := dk (by decide +kernel)
theorem d42_62 : De c42 62 (.sipush 255) 3 65 := dk (by decide +kernel)
theorem d42_65 : De c42 65 (.iand) 1 66 := dk (by decide +kernel)
theorem d42_66 : De c42 66 (.ior) 1 67 := dk (by decide +kernel)
theorem d42_67 : De c42 67 (.istore 5) 2 69 := dk (by decide +kernel)
theorem d42_69 : DeJ c42 69 .goto 72 40 := dj (-29) (by decide +kernel) (by decide)
theorem d42_72 : De c42 72 (.iload_n 2) 1 73 := dk (by decide +kernel)
theorem d42_73 : De c42 73 (.istore 6) 2 75 := dk (by decide +kernel)
theorem d42_75 : De c42 75 (.iload_n 0) 1 76 := dk (by decide +kernel)
theorem d42_76 : DeJ c42 76 (.ifCond .ne) 79 95 := dj 19 (by decide +kernel) (by decide)
theorem d42_79 : De c42 79 (.iload_n 2) 1 80 := dk (by decide +kernel)
theorem d42_80 : De c42 80 (.iload 4) 2 82 := dk (by decide +kernel)
theorem d42_82 : DeJ c42 82 (.if_icmp .ge) 85 95 := dj 13 (by decide +kernel) (by decide)
theorem d42_85 : De c42 85 (.aload_n 1) 1 86 := dk (by decide +kernel)
theorem d42_86 : De c42 86 (.iload_n 2) 1 87 := dk (by decide +kernel)
theorem d42_87 : De c42 87 (.iinc 2 1) 3 90 := dk (by decide +kernel)
theorem d42_90 : De c42 90 (.baload) 1 91 := dk (by decide +kernel)
theorem d42_91 : De c42 91 (.istore_n 0) 1 92 := dk (by decide +kernel)
theorem d42_92 : DeJ c42 92 .goto 95 75 := dj (-17) (by decide +kernel) (by decide)
theorem d42_95 : De c42 95 (.iload_n 0) 1 96 := dk (by decide +kernel)
theorem d42_96 : De c42 96 (.sipush 255) 3 99 := dk (by decide +kernel)
theorem d42_99 : De c42 99 (.iand) 1 100 := dk (by decide +kernel)
theorem d42_100 : De c42 100 (.istore 7) 2 102 := dk (by decide +kernel)
theorem d42_102 : De c42 102 (.iload 4) 2 104 := dk (by decide +kernel)
theorem d42_104 : De c42 104 (.iload_n 2) 1 105 := dk (by decide +kernel)
theorem d42_105 : De c42 105 (.isub) 1 106 := dk (by decide +kernel)
theorem d42_106 : De c42 106 (.iconst 3) 1 107 := dk (by decide +kernel)
theorem d42_107 : De c42 107 (.iand) 1 108 := dk (by decide +kernel)
theorem d42_108 : DeJ c42 108 (.ifCond .eq) 111 132 := dj 24 (by decide +kernel) (by decide)
theorem d42_111 : De c42 111 (.iload 7) 2 113 := dk (by decide +kernel)
theorem d42_113 : De c42 113 (.bipush 8) 2 115 := dk (by decide +kernel)
theorem d42_115 : De c42 115 (.ishl) 1 116 := dk (by decide +kernel)
theorem d42_116 : De c42 116 (.aload_n 1) 1 117 := dk (by decide +kernel)
theorem d42_117 : De c42 117 (.iload_n 2) 1 118 := dk (by decide +kernel)
theorem d42_118 : De c42 118 (.iinc 2 1) 3 121 := dk (by decide +kernel)
theorem d42_121 : De c42 121 (.baload) 1 122 := dk (by decide +kernel)
theorem d42_122 : De c42 122 (.sipush 255) 3 125 := dk (by decide +kernel)
theorem d42_125 : De c42 125 (.iand) 1 126 := dk (by decide +kernel)
theorem d42_126 : De c42 126 (.ior) 1 127 := dk (by decide +kernel)
theorem d42_127 : De c42 127 (.istore 7) 2 129 := dk (by decide +kernel)
theorem d42_129 : DeJ c42 129 .goto 132 102 := dj (-27) (by decide +kernel) (by decide)
theorem d42_132 : De c42 132 (.iload 4) 2 134 := dk (by decide +kernel)
theorem d42_134 : De c42 134 (.iload_n 2) 1 135 := dk (by decide +kernel)
theorem d42_135 : De c42 135 (.isub) 1 136 := dk (by decide +kernel)
theorem d42_136 : De c42 136 (.iload 5) 2 138 := dk (by decide +kernel)
theorem d42_138 : De c42 138 (.ior) 1 139 := dk (by decide +kernel)
theorem d42_139 : De c42 139 (.iload 7) 2 141 := dk (by decide +kernel)
theorem d42_141 : De c42 141 (.ior) 1 142 := dk (by decide +kernel)
theorem d42_142 : DeJ c42 142 (.ifCond .ne) 145 149 := dj 7 (by decide +kernel) (by decide)
theorem d42_145 : De c42 145 (.iconst 1) 1 146 := dk (by decide +kernel)
theorem d42_146 : DeJ c42 146 .goto 149 150 := dj 4 (by decide +kernel) (by decide)
theorem d42_149 : De c42 149 (.iconst 0) 1 150 := dk (by decide +kernel)
theorem d42_150 : De c42 150 (.istore 8) 2 152 := dk (by decide +kernel)
theorem d42_152 : De c42 152 (.iload 8) 2 154 := dk (by decide +kernel)
theorem d42_154 : De c42 154 (.iconst 1) 1 155 := dk (by decide +kernel)
theorem d42_155 : De c42 155 (.iadd) 1 156 := dk (by decide +kernel)
theorem d42_156 : De c42 156 (.iload 4) 2 158 := dk (by decide +kernel)
theorem d42_158 : De c42 158 (.iload 6) 2 160 := dk (by decide +kernel)
theorem d42_160 : De c42 160 (.isub) 1 161 := dk (by decide +kernel)
theorem d42_161 : De c42 161 (.iconst 2) 1 162 := dk (by decide +kernel)
theorem d42_162 : De c42 162 (.ishr) 1 163 := dk (by decide +kernel)
theorem d42_163 : De c42 163 (.iadd) 1 164 := dk (by decide +kernel)
theorem d42_164 : De c42 164 (.newarray .int) 2 166 := dk (by decide +kernel)
theorem d42_166 : De c42 166 (.astore 9) 2 168 := dk (by decide +kernel)
theorem d42_168 : De c42 168 (.aload 9) 2 170 := dk (by decide +kernel)
theorem d42_170 : De c42 170 (.iconst 0) 1 171 := dk (by decide +kernel)
theorem d42_171 : De c42 171 (.iload 8) 2 173 := dk (by decide +kernel)
theorem d42_173 : DeJ c42 173 (.ifCond .ne) 176 181 := dj 8 (by decide +kernel) (by decide)
theorem d42_176 : De c42 176 (.iload 5) 2 178 := dk (by decide +kernel)
theorem d42_178 : DeJ c42 178 .goto 181 182 := dj 4 (by decide +kernel) (by decide)
theorem d42_181 : De c42 181 (.iconst (-1)) 1 182 := dk (by decide +kernel)
theorem d42_182 : De c42 182 (.iastore) 1 183 := dk (by decide +kernel)
theorem d42_183 : De c42 183 (.aload 9) 2 185 := dk (by decide +kernel)
theorem d42_185 : De c42 185 (.arraylength) 1 186 := dk (by decide +kernel)
theorem d42_186 : De c42 186 (.iload 4) 2 188 := dk (by decide +kernel)
theorem d42_188 : De c42 188 (.iload_n 2) 1 189 := dk (by decide +kernel)
theorem d42_189 : De c42 189 (.isub) 1 190 := dk (by decide +kernel)
theorem d42_190 : De c42 190 (.iconst 2) 1 191 := dk (by decide +kernel)
theorem d42_191 : De c42 191 (.ishr) 1 192 := dk (by decide +kernel)
theorem d42_192 : De c42 192 (.isub) 1 193 := dk (by decide +kernel)
theorem d42_193 : De c42 193 (.istore 10) 2 195 := dk (by decide +kernel)
theorem d42_195 : De c42 195 (.iload 10) 2 197 := dk (by decide +kernel)
theorem d42_197 : De c42 197 (.iconst 1) 1 198 := dk (by decide +kernel)
theorem d42_198 : DeJ c42 198 (.if_icmp .le) 201 210 := dj 12 (by decide +kernel) (by decide)
theorem d42_201 : De c42 201 (.aload 9) 2 203 := dk (by decide +kernel)
theorem d42_203 : De c42 203 (.iload 10) 2 205 := dk (by decide +kernel)
theorem d42_205 : De c42 205 (.iconst 1) 1 206 := dk (by decide +kernel)
theorem d42_206 : De c42 206 (.isub) 1 207 := dk (by decide +kernel)
theorem d42_207 : De c42 207 (.iload 7) 2 209 := dk (by decide +kernel)
theorem d42_209 : De c42 209 (.iastore) 1 210 := dk (by decide +kernel)
theorem d42_210 : De c42 210 (.iload_n 2) 1 211 := dk (by decide +kernel)
theorem d42_211 : De c42 211 (.iload 4) 2 213 := dk (by decide +kernel)
theorem d42_213 : DeJ c42 213 (.if_icmp .ge) 216 275 := dj 62 (by decide +kernel) (by decide)
theorem d42_216 : De c42 216 (.aload 9) 2 218 := dk (by decide +kernel)
theorem d42_218 : De c42 218 (.iload 10) 2 220 := dk (by decide +kernel)
theorem d42_220 : De c42 220 (.iinc 10 1) 3 223 := dk (by decide +kernel)
theorem d42_223 : De c42 223 (.aload_n 1) 1 224 := dk (by decide +kernel)
theorem d42_224 : De c42 224 (.iload_n 2) 1 225 := dk (by decide +kernel)
theorem d42_225 : De c42 225 (.iinc 2 1) 3 228 := dk (by decide +kernel)
theorem d42_228 : De c42 228 (.baload) 1 229 := dk (by decide +kernel)
theorem d42_229 : De c42 229 (.bipush 24) 2 231 := dk (by decide +kernel)
theorem d42_231 : De c42 231 (.ishl) 1 232 := dk (by decide +kernel)
theorem d42_232 : De c42 232 (.aload_n 1) 1 233 := dk (by decide +kernel)
theorem d42_233 : De c42 233 (.iload_n 2) 1 234 := dk (by decide +kernel)
theorem d42_234 : De c42 234 (.iinc 2 1) 3 237 := dk (by decide +kernel)
theorem d42_237 : De c42 237 (.baload) 1 238 := dk (by decide +kernel)
theorem d42_238 : De c42 238 (.sipush 255) 3 241 := dk (by decide +kernel)
theorem d42_241 : De c42 241 (.iand) 1 242 := dk (by decide +kernel)
theorem d42_242 : De c42 242 (.bipush 16) 2 244 := dk (by decide +kernel)
theorem d42_244 : De c42 244 (.ishl) 1 245 := dk (by decide +kernel)
theorem d42_245 : De c42 245 (.ior) 1 246 := dk (by decide +kernel)
theorem d42_246 : De c42 246 (.aload_n 1) 1 247 := dk (by decide +kernel)
theorem d42_247 : De c42 247 (.iload_n 2) 1 248 := dk (by decide +kernel)
theorem d42_248 : De c42 248 (.iinc 2 1) 3 251 := dk (by decide +kernel)
theorem d42_251 : De c42 251 (.baload) 1 252 := dk (by decide +kernel)
theorem d42_252 : De c42 252 (.sipush 255) 3 255 := dk (by decide +kernel)
theorem d42_255 : De c42 255 (.iand) 1 256 := dk (by decide +kernel)
theorem d42_256 : De c42 256 (.bipush 8) 2 258 := dk (by decide +kernel)
theorem d42_258 : De c42 258 (.ishl) 1 259 := dk (by decide +kernel)
theorem d42_259 : De c42 259 (.ior) 1 260 := dk (by decide +kernel)
theorem d42_260 : De c42 260 (.aload_n 1) 1 261 := dk (by decide +kernel)
theorem d42_261 : De c42 261 (.iload_n 2) 1 262 := dk (by decide +kernel)
theorem d42_262 : De c42 262 (.iinc 2 1) 3 265 := dk (by decide +kernel)
theorem d42_265 : De c42 265 (.baload) 1 266 := dk (by decide +kernel)
theorem d42_266 : De c42 266 (.sipush 255) 3 269 := dk (by decide +kernel)
theorem d42_269 : De c42 269 (.iand) 1 270 := dk (by decide +kernel)
theorem d42_270 : De c42 270 (.ior) 1 271 := dk (by decide +kernel)
theorem d42_271 : De c42 271 (.iastore) 1 272 := dk (by decide +kernel)
theorem d42_272 : DeJ c42 272 .goto 275 210 := dj (-62) (by decide +kernel) (by decide)
theorem d42_275 : De c42 275 (.iinc 10 (-1)) 3 278 := dk (by decide +kernel)
theorem d42_278 : De c42 278 (.iload 10) 2 280 := dk (by decide +kernel)
theorem d42_280 : DeJ c42 280 (.ifCond .lt) 283 294 := dj 14 (by decide +kernel) (by decide)
theorem d42_283 : De c42 283 (.aload 9) 2 285 := dk (by decide +kernel)
theorem d42_285 : De c42 285 (.iload 10) 2 287 := dk (by decide +kernel)
theorem d42_287 : De c42 287 (.iaload) 1 288 := dk (by decide +kernel)
theorem d42_288 : DeJ c42 288 (.ifCond .ne) 291 294 := dj 6 (by decide +kernel) (by decide)
theorem d42_291 : DeJ c42 291 .goto 294 275 := dj (-16) (by decide +kernel) (by decide)
theorem d42_294 : De c42 294 (.aload 9) 2 296 := dk (by decide +kernel)
theorem d42_296 : De c42 296 (.iload 10) 2 298 := dk (by decide +kernel)
theorem d42_298 : De c42 298 (.aload 9) 2 300 := dk (by decide +kernel)
theorem d42_300 : De c42 300 (.iload 10) 2 302 := dk (by decide +kernel)
theorem d42_302 : De c42 302 (.iaload) 1 303 := dk (by decide +kernel)
theorem d42_303 : De c42 303 (.ineg) 1 304 := dk (by decide +kernel)
theorem d42_304 : De c42 304 (.iastore) 1 305 := dk (by decide +kernel)
theorem d42_305 : De c42 305 (.iinc 10 (-1)) 3 308 := dk (by decide +kernel)
theorem d42_308 : De c42 308 (.iload 10) 2 310 := dk (by decide +kernel)
theorem d42_310 : DeJ c42 310 (.ifCond .lt) 313 328 := dj 18 (by decide +kernel) (by decide)
theorem d42_313 : De c42 313 (.aload 9) 2 315 := dk (by decide +kernel)
theorem d42_315 : De c42 315 (.iload 10) 2 317 := dk (by decide +kernel)
theorem d42_317 : De c42 317 (.aload 9) 2 319 := dk (by decide +kernel)
theorem d42_319 : De c42 319 (.iload 10) 2 321 := dk (by decide +kernel)
theorem d42_321 : De c42 321 (.iaload) 1 322 := dk (by decide +kernel)
theorem d42_322 : De c42 322 (.iconst (-1)) 1 323 := dk (by decide +kernel)
theorem d42_323 : De c42 323 (.ixor) 1 324 := dk (by decide +kernel)
theorem d42_324 : De c42 324 (.iastore) 1 325 := dk (by decide +kernel)
theorem d42_325 : DeJ c42 325 .goto 328 305 := dj (-20) (by decide +kernel) (by decide)
theorem d42_328 : De c42 328 (.aload 9) 2 330 := dk (by decide +kernel)
theorem d42_330 : De c42 330 (.areturn) 1 331 := dk (by decide +kernel)
theorem d43_0 : De c43 0 (.iload_n 0) 1 1 := dk (by decide +kernel)
theorem d43_1 : De c43 1 (.iload_n 0) 1 2 := dk (by decide +kernel)
theorem d43_2 : De c43 2 (.iconst 1) 1 3 := dk (by decide +kernel)
theorem d43_3 : De c43 3 (.iushr) 1 4 := dk (by decide +kernel)
theorem d43_4 : De c43 4 (.ldc_w 265) 3 7 := dk (by decide +kernel)
theorem d43_7 : De c43 7 (.iand) 1 8 := dk (by decide +kernel)
theorem d43_8 : De c43 8 (.isub) 1 9 := dk (by decide +kernel)
theorem d43_9 : De c43 9 (.istore_n 0) 1 10 := dk (by decide +kernel)
theorem d43_10 : De c43 10 (.iload_n 0) 1 11 := dk (by decide +kernel)
theorem d43_11 : De c43 11 (.ldc_w 266) 3 14 := dk (by decide +kernel)
theorem d43_14 : De c43 14 (.iand) 1 15 := dk (by decide +kernel)
theorem d43_15 : De c43 15 (.iload_n 0) 1 16 := dk (by decide +kernel)
theorem d43_16 : De c43 16 (.iconst 2) 1 17 := dk (by decide +kernel)
theorem d43_17 : De c43 17 (.iushr) 1 18 := dk (by decide +kernel)
theorem d43_18 : De c43 18 (.ldc_w 266) 3 21 := dk (by decide +kernel)
theorem d43_21 : De c43 21 (.iand) 1 22 := dk (by decide +kernel)
theorem d43_22 : De c43 22 (.iadd) 1 23 := dk (by decide +kernel)
theorem d43_23 : De c43 23 (.istore_n 0) 1 24 := dk (by decide +kernel)
theorem d43_24 : De c43 24 (.iload_n 0) 1 25 := dk (by decide +kernel)
theorem d43_25 : De c43 25 (.iload_n 0) 1 26 := dk (by decide +kernel)
theorem d43_26 : De c43 26 (.iconst 4) 1 27 := dk (by decide +kernel)
theorem d43_27 : De c43 27 (.iushr) 1 28 := dk (by decide +kernel)
theorem d43_28 : De c43 28 (.iadd) 1 29 := dk (by decide +kernel)
theorem d43_29 : De c43 29 (.ldc_w 267) 3 32 := dk (by decide +kernel)
theorem d43_32 : De c43 32 (.iand) 1 33 := dk (by decide +kernel)
theorem d43_33 : De c43 33 (.istore_n 0) 1 34 := dk (by decide +kernel)
theorem d43_34 : De c43 34 (.iload_n 0) 1 35 := dk (by decide +kernel)
theorem d43_35 : De c43 35 (.iload_n 0) 1 36 := dk (by decide +kernel)
theorem d43_36 : De c43 36 (.bipush 8) 2 38 := dk (by decide +kernel)
theorem d43_38 : De c43 38 (.iushr) 1 39 := dk (by decide +kernel)
theorem d43_39 : De c43 39 (.iadd) 1 40 := dk (by decide +kernel)
theorem d43_40 : De c43 40 (.istore_n 0) 1 41 := dk (by decide +kernel)
theorem d43_41 : De c43 41 (.iload_n 0) 1 42 := dk (by decide +kernel)
theorem d43_42 : De c43 42 (.iload_n 0) 1 43 := dk (by decide +kernel)
theorem d43_43 : De c43 43 (.bipush 16) 2 45 := dk (by decide +kernel)
theorem d43_45 : De c43 45 (.iushr) 1 46 := dk (by decide +kernel)
theorem d43_46 : De c43 46 (.iadd) 1 47 := dk (by decide +kernel)
theorem d43_47 : De c43 47 (.istore_n 0) 1 48 := dk (by decide +kernel)
theorem d43_48 : De c43 48 (.iload_n 0) 1 49 := dk (by decide +kernel)
theorem d43_49 : De c43 49 (.bipush 63) 2 51 := dk (by decide +kernel)
theorem d43_51 : De c43 51 (.iand) 1 52 := dk (by decide +kernel)
theorem d43_52 : De c43 52 (.ireturn) 1 53 := dk (by decide +kernel)
theorem d44_0 : De c44 0 (.aload_n 0) 1 1 := dk (by decide +kernel)
theorem d44_1 : De c44 1 (.getfield 866) 3 4 := dk (by decide +kernel)
theorem d44_4 : De c44 4 (.iconst 2) 1 5 := dk (by decide +kernel)
theorem d44_5 : De c44 5 (.isub) 1 6 := dk (by decide +kernel)
theorem d44_6 : De c44 6 (.istore_n 1) 1 7 := dk (by decide +kernel)
theorem d44_7 : De c44 7 (.iload_n 1) 1 8 := dk (by decide +kernel)
theorem d44_8 : De c44 8 (.bipush (-2)) 2 10 := dk (by decide +kernel)
theorem d44_10 : DeJ c44 10 (.if_icmp .ne) 13 55 := dj 45 (by decide +kernel) (by decide)
theorem d44_13 : De c44 13 (.aload_n 0) 1 14 := dk (by decide +kernel)
theorem d44_14 : De c44 14 (.getfield 28) 3 17 := dk (by decide +kernel)
theorem d44_17 : De c44 17 (.arraylength) 1 18 := dk (by decide +kernel)
theorem d44_18 : De c44 18 (.istore_n 3) 1 19 := dk (by decide +kernel)
theorem d44_19 : De c44 19 (.iload_n 3) 1 20 := dk (by decide +kernel)
theorem d44_20 : De c44 20 (.iconst 1) 1 21 := dk (by decide +kernel)
theorem d44_21 : De c44 21 (.isub) 1 22 := dk (by decide +kernel)
theorem d44_22 : De c44 22 (.istore_n 2) 1 23 := dk (by decide +kernel)
theorem d44_23 : De c44 23 (.iload_n 2) 1 24 := dk (by decide +kernel)
theorem d44_24 : DeJ c44 24 (.ifCond .lt) 27 42 := dj 18 (by decide +kernel) (by decide)
theorem d44_27 : De c44 27 (.aload_n 0) 1 28 := dk (by decide +kernel)
theorem d44_28 : De c44 28 (.getfield 28) 3 31 := dk (by decide +kernel)
theorem d44_31 : De c44 31 (.iload_n 2) 1 32 := dk (by decide +kernel)
theorem d44_32 : De c44 32 (.iaload) 1 33 := dk (by decide +kernel)
theorem d44_33 : DeJ c44 33 (.ifCond .ne) 36 42 := dj 9 (by decide +kernel) (by decide)
theorem d44_36 : De c44 36 (.iinc 2 (-1)) 3 39 := dk (by decide +kernel)
theorem d44_39 : DeJ c44 39 .goto 42 23 := dj (-16) (by decide +kernel) (by decide)
theorem d44_42 : De c44 42 (.iload_n 3) 1 43 := dk (by decide +kernel)
theorem d44_43 : De c44 43 (.iload_n 2) 1 44 := dk (by decide +kernel)
theorem d44_44 : De c44 44 (.isub) 1 45 := dk (by decide +kernel)
theorem d44_45 : De c44 45 (.iconst 1) 1 46 := dk (by decide +kernel)
theorem d44_46 : De c44 46 (.isub) 1 47 := dk (by decide +kernel)
theorem d44_47 : De c44 47 (.istore_n 1) 1 48 := dk (by decide +kernel)
theorem d44_48 : De c44 48 (.aload_n 0) 1 49 := dk (by decide +kernel)
theorem d44_49 : De c44 49 (.iload_n 1) 1 50 := dk (by decide +kernel)
theorem d44_50 : De c44 50 (.iconst 2) 1 51 := dk (by decide +kernel)
theorem d44_51 : De c44 51 (.iadd) 1 52 := dk (by decide +kernel)
theorem d44_52 : De c44 52 (.putfield 866) 3 55 := dk (by decide +kernel)
theorem d44_55 : De c44 55 (.iload_n 1) 1 56 := dk (by decide +kernel)
theorem d44_56 : De c44 56 (.ireturn) 1 57 := dk (by decide +kernel)
theorem pd_0 : parseMethodDescriptor "([CI[BII)I" = some ⟨[(.array .char), .int, (.array .byte), .int, .int], some .int⟩ := by decide +kernel
theorem pd_1 : parseMethodDescriptor "([CII)[B" = some ⟨[(.array .char), .int, .int], some (.array .byte)⟩ := by decide +kernel
theorem pd_2 : parseMethodDescriptor "([BI)B" = some ⟨[(.array .byte), .int], some .byte⟩ := by decide +kernel
theorem pd_3 : parseMethodDescriptor "([CIILjava/lang/Void;)V" = some ⟨[(.array .char), .int, .int, (.object "java/lang/Void")], none⟩ := by decide +kernel
theorem pd_4 : parseMethodDescriptor "(I)C" = some ⟨[.int], some .char⟩ := by decide +kernel
theorem pd_5 : parseMethodDescriptor "(B[BZ)[B" = some ⟨[.byte, (.array .byte), .boolean], some (.array .byte)⟩ := by decide +kernel
theorem pd_6 : parseMethodDescriptor "(B[B)[B" = some ⟨[.byte, (.array .byte)], some (.array .byte)⟩ := by decide +kernel
theorem pd_7 : parseMethodDescriptor "()B" = some ⟨[], some .byte⟩ := by decide +kernel
theorem pd_8 : parseMethodDescriptor "(Ljava/nio/charset/Charset;B[B)[B" = some ⟨[(.object "java/nio/charset/Charset"), .byte, (.array .byte)], some (.array .byte)⟩ := by decide +kernel
theorem pd_9 : parseMethodDescriptor "([BII)I" = some ⟨[(.array .byte), .int, .int], some .int⟩ := by decide +kernel
theorem pd_10 : parseMethodDescriptor "([BII[B)I" = some ⟨[(.array .byte), .int, .int, (.array .byte)], some .int⟩ := by decide +kernel
theorem pd_11 : parseMethodDescriptor "(Ljava/nio/charset/Charset;)[B" = some ⟨[(.object "java/nio/charset/Charset")], some (.array .byte)⟩ := by decide +kernel
theorem pd_12 : parseMethodDescriptor "([B)[B" = some ⟨[(.array .byte)], some (.array .byte)⟩ := by decide +kernel
theorem pd_13 : parseMethodDescriptor "([BII[BIZZ)I" = some ⟨[(.array .byte), .int, .int, (.array .byte), .int, .boolean, .boolean], some .int⟩ := by decide +kernel
theorem pd_14 : parseMethodDescriptor "(IIILjava/util/function/BiFunction;)I" = some ⟨[.int, .int, .int, (.object "java/util/function/BiFunction")], some .int⟩ := by decide +kernel
theorem pd_15 : parseMethodDescriptor "()V" = some ⟨[], none⟩ := by decide +kernel
theorem pd_16 : parseMethodDescriptor "(III)I" = some ⟨[.int, .int, .int], some .int⟩ := by decide +kernel
theorem pd_17 : parseMethodDescriptor "(I[BII)[I" = some ⟨[.int, (.array .byte), .int, .int], some (.array .int)⟩ := by decide +kernel
theorem pd_18 : parseMethodDescriptor "([BII)V" = some ⟨[(.array .byte), .int, .int], none⟩ := by decide +kernel
theorem pd_19 : parseMethodDescriptor "(I)I" = some ⟨[.int], some .int⟩ := by decide +kernel
theorem pd_20 : parseMethodDescriptor "()I" = some ⟨[], some .int⟩ := by decide +kernel
theorem pd_21 : parseMethodDescriptor "(Ljava/math/BigInteger;)Ljava/math/BigInteger;" = some ⟨[(.object "java/math/BigInteger")], some (.object "java/math/BigInteger")⟩ := by decide +kernel
theorem pd_22 : parseMethodDescriptor "(Ljava/math/BigInteger;)J" = some ⟨[(.object "java/math/BigInteger")], some .long⟩ := by decide +kernel
theorem pd_23 : parseMethodDescriptor "()Ljava/math/BigInteger;" = some ⟨[], some (.object "java/math/BigInteger")⟩ := by decide +kernel
theorem pd_24 : parseMethodDescriptor "(Ljava/math/BigInteger;I)V" = some ⟨[(.object "java/math/BigInteger"), .int], none⟩ := by decide +kernel
theorem pd_25 : parseMethodDescriptor "(Ljava/lang/Object;Ljava/lang/String;)Ljava/lang/Object;" = some ⟨[(.object "java/lang/Object"), (.object "java/lang/String")], some (.object "java/lang/Object")⟩ := by decide +kernel
theorem pd_26 : parseMethodDescriptor "()Ljava/util/Base64$Decoder;" = some ⟨[], some (.object "java/util/Base64$Decoder")⟩ := by decide +kernel
theorem pd_27 : parseMethodDescriptor "(Ljava/lang/String;)[B" = some ⟨[(.object "java/lang/String")], some (.array .byte)⟩ := by decide +kernel
theorem pd_28 : parseMethodDescriptor "([B)V" = some ⟨[(.array .byte)], none⟩ := by decide +kernel
theorem pd_29 : parseMethodDescriptor "(JII)I" = some ⟨[.long, .int, .int], some .int⟩ := by decide +kernel
theorem pd_30 : parseMethodDescriptor "([CIIIII)V" = some ⟨[(.array .char), .int, .int, .int, .int, .int], none⟩ := by decide +kernel
theorem pd_31 : parseMethodDescriptor "([C)V" = some ⟨[(.array .char)], none⟩ := by decide +kernel
theorem pd_32 : parseMethodDescriptor "(I)V" = some ⟨[.int], none⟩ := by decide +kernel
theorem pd_33 : parseMethodDescriptor "(Ljava/lang/String;)Ljava/math/BigDecimal;" = some ⟨[(.object "java/lang/String")], some (.object "java/math/BigDecimal")⟩ := by decide +kernel
theorem pd_34 : parseMethodDescriptor "()J" = some ⟨[], some .long⟩ := by decide +kernel
def W0 (Z : State) (a0 : Array Value) : Prop := (∀ d ∈ tables_1, d.before a0 Z = true) ∧ (∀ d ∈ jdkStatics_1, d.before a0 Z = true)
theorem w_0 (hW : W0 Z a0) : Bf Z a0 (.constant "com/example/atomicity/atomicity/cdc/DecimalReaderReadPinLaw" 7 (2147483647 : Int32)) := hW.1 _ (mi 0 rfl)
theorem w_1 (hW : W0 Z a0) : Bf Z a0 (.arrayClass Jvm.ClassFile.FieldType.char) := hW.1 _ (mi 1 rfl)
theorem w_2 (hW : W0 Z a0) : Bf Z a0 (.methodLink "com/example/atomicity/atomicity/cdc/DecimalReaderReadPinLaw" 8 y_6) := hW.1 _ (mi 2 rfl)
theorem w_3 (hW : W0 Z a0) : Bf Z a0 (.static y_6) := hW.1 _ (mi 3 rfl)
theorem w_4 (hW : W0 Z a0) : Bf Z a0 (.initialized "com/example/atomicity/atomicity/cdc/DecimalReaderReadPinLaw") := hW.1 _ (mi 4 rfl)
theorem w_5 (hW : W0 Z a0) : Bf Z a0 (.code y_6 method_3_code 4 (Option.some Jvm.ClassFile.FieldType.int)) := hW.1 _ (mi 5 rfl)
theorem w_6 (hW : W0 Z a0) : Bf Z a0 (.constantLong "com/example/atomicity/atomicity/cdc/DecimalReaderReadPinLaw" 51 (255 : Int64)) := hW.1 _ (mi 6 rfl)
theorem w_7 (hW : W0 Z a0) : Bf Z a0 (.methodLink "com/example/atomicity/atomicity/cdc/DecimalReaderReadPinLaw" 14 y_7) := hW.1 _ (mi 7 rfl)
theorem w_8 (hW : W0 Z a0) : Bf Z a0 (.static y_7) := hW.1 _ (mi 8 rfl)
theorem w_9 (hW : W0 Z a0) : Bf Z a0 (.code y_7 method_4_code 7 (Option.none : Option Jvm.ClassFile.FieldType)) := hW.1 _ (mi 9 rfl)
theorem w_10 (hW : W0 Z a0) : Bf Z a0 (.methodLink "com/example/atomicity/atomicity/cdc/DecimalReaderReadPinLaw" 53 y_5) := hW.1 _ (mi 10 rfl)
theorem w_11 (hW : W0 Z a0) : Bf Z a0 (.static y_5) := hW.1 _ (mi 11 rfl)
theorem w_12 (hW : W0 Z a0) : Bf Z a0 (.code y_5 method_5_code 1 (Option.some Jvm.ClassFile.FieldType.char)) := hW.1 _ (mi 12 rfl)
theorem w_13 (hW : W0 Z a0) : Bf Z a0 (.classLink "com/example/atomicity/atomicity/cdc/DecimalReaderReadPinLaw" 18 "java/lang/String") := hW.1 _ (mi 13 rfl)
theorem w_14 (hW : W0 Z a0) : Bf Z a0 (.instantiable "java/lang/String" 4) := hW.1 _ (mi 14 rfl)
theorem w_15 (hW : W0 Z a0) : Bf Z a0 (.initialized "java/lang/String") := hW.1 _ (mi 15 rfl)
theorem w_16 (hW : W0 Z a0) : Bf Z a0 (.methodLink "com/example/atomicity/atomicity/cdc/DecimalReaderReadPinLaw" 20 y_4) := hW.1 _ (mi 16 rfl)
theorem w_17 (hW : W0 Z a0) : Bf Z a0 (.instanceMethod y_4) := hW.1 _ (mi 17 rfl)
theorem w_18 (hW : W0 Z a0) : Bf Z a0 (.code y_4 c4 2 (Option.none : Option Jvm.ClassFile.FieldType)) := hW.1 _ (mi 18 rfl)
theorem w_19 (hW : W0 Z a0) : Bf Z a0 (.methodLink "java/lang/String" 27 y_3) := hW.1 _ (mi 19 rfl)
theorem w_20 (hW : W0 Z a0) : Bf Z a0 (.instanceMethod y_3) := hW.1 _ (mi 20 rfl)
theorem w_22 (hW : W0 Z a0) : Bf Z a0 (.code y_3 c5 6 (Option.none : Option Jvm.ClassFile.FieldType)) := hW.1 _ (mi 22 rfl)
theorem w_23 (hW : W0 Z a0) : Bf Z a0 (.methodLink "java/lang/String" 1 ⟨"java/lang/Object", "<init>", "()V"⟩) := hW.1 _ (mi 23 rfl)
theorem w_24 (hW : W0 Z a0) : Bf Z a0 (.instanceMethod ⟨"java/lang/Object", "<init>", "()V"⟩) := hW.1 _ (mi 24 rfl)
theorem w_25 (hW : W0 Z a0) : Bf Z a0 (.code ⟨"java/lang/Object", "<init>", "()V"⟩ object_method_1_code 1 (Option.none : Option Jvm.ClassFile.FieldType)) := hW.1 _ (mi 25 rfl)
theorem w_26 (hW : W0 Z a0) : Bf Z a0 (.fieldLink "java/lang/String" 38 "java/lang/String" "COMPACT_STRINGS" "Z") := hW.1 _ (mi 26 rfl)
theorem w_27 (hW : W0 Z a0) : Bf Z a0 (.methodLink "java/lang/String" 177 y_1) := hW.1 _ (mi 27 rfl)
theorem w_28 (hW : W0 Z a0) : Bf Z a0 (.static y_1) := hW.1 _ (mi 28 rfl)
theorem w_29 (hW : W0 Z a0) : Bf Z a0 (.initialized "java/lang/StringUTF16") := hW.1 _ (mi 29 rfl)
theorem w_30 (hW : W0 Z a0) : Bf Z a0 (.code y_1 c7 6 (Option.some (Jvm.ClassFile.FieldType.array Jvm.ClassFile.FieldType.byte))) := hW.1 _ (mi 30 rfl)
theorem w_31 (hW : W0 Z a0) : Bf Z a0 (.arrayClass Jvm.ClassFile.FieldType.byte) := hW.1 _ (mi 31 rfl)
theorem w_32 (hW : W0 Z a0) : Bf Z a0 (.methodLink "java/lang/StringUTF16" 115 y_0) := hW.1 _ (mi 32 rfl)
theorem w_33 (hW : W0 Z a0) : Bf Z a0 (.static y_0) := hW.1 _ (mi 33 rfl)
theorem w_34 (hW : W0 Z a0) : Bf Z a0 (.code y_0 c8 7 (Option.some Jvm.ClassFile.FieldType.int)) := hW.1 _ (mi 34 rfl)
theorem w_35 (hW : W0 Z a0) : Bf Z a0 (.methodLink "java/lang/String" 47 y_2) := hW.1 _ (mi 35 rfl)
theorem w_36 (hW : W0 Z a0) : Bf Z a0 (.static y_2) := hW.1 _ (mi 36 rfl)
theorem w_37 (hW : W0 Z a0) : Bf Z a0 (.code y_2 c9 2 (Option.some Jvm.ClassFile.FieldType.byte)) := hW.1 _ (mi 37 rfl)
theorem w_38 (hW : W0 Z a0) : Bf Z a0 (.fieldLink "java/lang/String" 15 "java/lang/String" "coder" "B") := hW.1 _ (mi 38 rfl)
theorem w_39 (hW : W0 Z a0) : Bf Z a0 (.laysFinal "java/lang/String" "java/lang/String" "coder" "B") := hW.1 _ (mi 39 rfl)
theorem w_40 (hW : W0 Z a0) : Bf Z a0 (.fieldLink "java/lang/String" 9 "java/lang/String" "value" "[B") := hW.1 _ (mi 40 rfl)
theorem w_41 (hW : W0 Z a0) : Bf Z a0 (.laysFinal "java/lang/String" "java/lang/String" "value" "[B") := hW.1 _ (mi 41 rfl)
theorem w_42 (hW : W0 Z a0) : Bf Z a0 (.classLink "com/example/atomicity/atomicity/cdc/DecimalReaderReadPinLaw" 23 "com/example/atomicity/atomicity/cdc/DecimalReader") := hW.1 _ (mi 42 rfl)
theorem w_43 (hW : W0 Z a0) : Bf Z a0 (.instantiable "com/example/atomicity/atomicity/cdc/DecimalReader" 1) := hW.1 _ (mi 43 rfl)
theorem w_44 (hW : W0 Z a0) : Bf Z a0 (.initialized "com/example/atomicity/atomicity/cdc/DecimalReader") := hW.1 _ (mi 44 rfl)
theorem w_45 (hW : W0 Z a0) : Bf Z a0 (.methodLink "com/example/atomicity/atomicity/cdc/DecimalReaderReadPinLaw" 25 y_8) := hW.1 _ (mi 45 rfl)
theorem w_46 (hW : W0 Z a0) : Bf Z a0 (.instanceMethod y_8) := hW.1 _ (mi 46 rfl)
theorem w_47 (hW : W0 Z a0) : Bf Z a0 (.code y_8 c10 2 (Option.none : Option Jvm.ClassFile.FieldType)) := hW.1 _ (mi 47 rfl)
theorem w_48 (hW : W0 Z a0) : Bf Z a0 (.methodLink "com/example/atomicity/atomicity/cdc/DecimalReader" 1 ⟨"java/lang/Object", "<init>", "()V"⟩) := hW.1 _ (mi 48 rfl)
theorem w_49 (hW : W0 Z a0) : Bf Z a0 (.fieldLink "com/example/atomicity/atomicity/cdc/DecimalReader" 7 "com/example/atomicity/atomicity/cdc/DecimalReader" "scale" "I") := hW.1 _ (mi 49 rfl)
theorem w_50 (hW : W0 Z a0) : Bf Z a0 (.laysFinal "com/example/atomicity/atomicity/cdc/DecimalReader" "com/example/atomicity/atomicity/cdc/DecimalReader" "scale" "I") := hW.1 _ (mi 50 rfl)
theorem w_51 (hW : W0 Z a0) : Bf Z a0 (.methodLink "com/example/atomicity/atomicity/cdc/DecimalReaderReadPinLaw" 28 y_42) := hW.1 _ (mi 51 rfl)
theorem w_52 (hW : W0 Z a0) : Bf Z a0 (.declares y_42) := hW.1 _ (mi 52 rfl)
theorem w_53 (hW : W0 Z a0) : Bf Z a0 (.instanceMethod y_42) := hW.1 _ (mi 53 rfl)
theorem w_54 (hW : W0 Z a0) : Bf Z a0 (.selects "com/example/atomicity/atomicity/cdc/DecimalReader" y_42 y_42) := hW.1 _ (mi 54 rfl)
theorem w_55 (hW : W0 Z a0) : Bf Z a0 (.codeWith y_42 c11 4 (Option.some (Jvm.ClassFile.FieldType.object "java/math/BigDecimal")) [(7, 15, 18, 33)]) := hW.1 _ (mi 55 rfl)
theorem w_56 (hW : W0 Z a0) : Bf Z a0 (.stringLink "com/example/atomicity/atomicity/cdc/DecimalReader" 13 "text") := hW.1 _ (mi 56 rfl)
theorem w_57 (hW : W0 Z a0) : Bf Z a0 (.soleField "java/lang/String" "value") := hW.1 _ (mi 57 rfl)
theorem w_58 (hW : W0 Z a0) : Bf Z a0 (.soleField "java/lang/String" "coder") := hW.1 _ (mi 58 rfl)
theorem w_59 (hW : W0 Z a0) : Bf Z a0 (.methodLink "com/example/atomicity/atomicity/cdc/DecimalReader" 15 y_9) := hW.1 _ (mi 59 rfl)
theorem w_60 (hW : W0 Z a0) : Bf Z a0 (.static y_9) := hW.1 _ (mi 60 rfl)
theorem w_61 (hW : W0 Z a0) : Bf Z a0 (.initialized "java/util/Objects") := hW.1 _ (mi 61 rfl)
theorem w_62 (hW : W0 Z a0) : Bf Z a0 (.code y_9 c12 2 (Option.some (Jvm.ClassFile.FieldType.object "java/lang/Object"))) := hW.1 _ (mi 62 rfl)
theorem w_63 (hW : W0 Z a0) : Bf Z a0 (.methodLink "com/example/atomicity/atomicity/cdc/DecimalReader" 21 y_10) := hW.1 _ (mi 63 rfl)
theorem w_64 (hW : W0 Z a0) : Bf Z a0 (.static y_10) := hW.1 _ (mi 64 rfl)
theorem w_65 (hW : W0 Z a0) : Bf Z a0 (.initialized "java/util/Base64") := hW.1 _ (mi 65 rfl)
theorem w_66 (hW : W0 Z a0) : Bf Z a0 (.code y_10 c13 0 (Option.some (Jvm.ClassFile.FieldType.object "java/util/Base64$Decoder"))) := hW.1 _ (mi 66 rfl)
theorem w_67 (hW : W0 Z a0) : Bf Z a0 (.fieldLink "java/util/Base64" 57 "java/util/Base64$Decoder" "RFC4648" "Ljava/util/Base64$Decoder;") := hW.1 _ (mi 67 rfl)
theorem w_68 (hW : W0 Z a0) : Bf Z a0 (.initialized "java/util/Base64$Decoder") := hW.1 _ (mi 68 rfl)
theorem w_69 (hW : W0 Z a0) : Bf Z a0 (.methodLink "com/example/atomicity/atomicity/cdc/DecimalReader" 27 y_19) := hW.1 _ (mi 69 rfl)
theorem w_70 (hW : W0 Z a0) : Bf Z a0 (.declares y_19) := hW.1 _ (mi 70 rfl)
theorem w_71 (hW : W0 Z a0) : Bf Z a0 (.instanceMethod y_19) := hW.1 _ (mi 71 rfl)
theorem w_72 (hW : W0 Z a0) : Bf Z a0 (.selects "java/util/Base64$Decoder" y_19 y_19) := hW.1 _ (mi 72 rfl)
theorem w_73 (hW : W0 Z a0) : Bf Z a0 (.code y_19 c14 2 (Option.some (Jvm.ClassFile.FieldType.array Jvm.ClassFile.FieldType.byte))) := hW.1 _ (mi 73 rfl)
theorem w_74 (hW : W0 Z a0) : Bf Z a0 (.fieldLink "java/util/Base64$Decoder" 30 "sun/nio/cs/ISO_8859_1" "INSTANCE" "Lsun/nio/cs/ISO_8859_1;") := hW.1 _ (mi 74 rfl)
theorem w_76 (hW : W0 Z a0) : Bf Z a0 (.methodLink "java/util/Base64$Decoder" 36 y_15) := hW.1 _ (mi 76 rfl)
theorem w_77 (hW : W0 Z a0) : Bf Z a0 (.declares y_15) := hW.1 _ (mi 77 rfl)
theorem w_78 (hW : W0 Z a0) : Bf Z a0 (.instanceMethod y_15) := hW.1 _ (mi 78 rfl)
theorem w_79 (hW : W0 Z a0) : Bf Z a0 (.selects "java/lang/String" y_15 y_15) := hW.1 _ (mi 79 rfl)
theorem w_80 (hW : W0 Z a0) : Bf Z a0 (.code y_15 c15 2 (Option.some (Jvm.ClassFile.FieldType.array Jvm.ClassFile.FieldType.byte))) := hW.1 _ (mi 80 rfl)
theorem w_81 (hW : W0 Z a0) : Bf Z a0 (.methodLink "java/lang/String" 335 y_11) := hW.1 _ (mi 81 rfl)
theorem w_82 (hW : W0 Z a0) : Bf Z a0 (.declares y_11) := hW.1 _ (mi 82 rfl)
theorem w_83 (hW : W0 Z a0) : Bf Z a0 (.instanceMethod y_11) := hW.1 _ (mi 83 rfl)
theorem w_84 (hW : W0 Z a0) : Bf Z a0 (.selects "java/lang/String" y_11 y_11) := hW.1 _ (mi 84 rfl)
theorem w_85 (hW : W0 Z a0) : Bf Z a0 (.code y_11 c16 1 (Option.some Jvm.ClassFile.FieldType.byte)) := hW.1 _ (mi 85 rfl)
theorem w_86 (hW : W0 Z a0) : Bf Z a0 (.methodLink "java/lang/String" 535 y_14) := hW.1 _ (mi 86 rfl)
theorem w_87 (hW : W0 Z a0) : Bf Z a0 (.static y_14) := hW.1 _ (mi 87 rfl)
theorem w_88 (hW : W0 Z a0) : Bf Z a0 (.code y_14 c17 3 (Option.some (Jvm.ClassFile.FieldType.array Jvm.ClassFile.FieldType.byte))) := hW.1 _ (mi 88 rfl)
theorem w_89 (hW : W0 Z a0) : Bf Z a0 (.fieldLink "java/lang/String" 86 "sun/nio/cs/UTF_8" "INSTANCE" "Lsun/nio/cs/UTF_8;") := hW.1 _ (mi 89 rfl)
theorem w_91 (hW : W0 Z a0) : Bf Z a0 (.fieldLink "java/lang/String" 116 "sun/nio/cs/ISO_8859_1" "INSTANCE" "Lsun/nio/cs/ISO_8859_1;") := hW.1 _ (mi 91 rfl)
theorem w_92 (hW : W0 Z a0) : Bf Z a0 (.methodLink "java/lang/String" 256 y_13) := hW.1 _ (mi 92 rfl)
theorem w_93 (hW : W0 Z a0) : Bf Z a0 (.static y_13) := hW.1 _ (mi 93 rfl)
theorem w_94 (hW : W0 Z a0) : Bf Z a0 (.code y_13 c18 2 (Option.some (Jvm.ClassFile.FieldType.array Jvm.ClassFile.FieldType.byte))) := hW.1 _ (mi 94 rfl)
theorem w_95 (hW : W0 Z a0) : Bf Z a0 (.methodLink "java/lang/String" 351 y_12) := hW.1 _ (mi 95 rfl)
theorem w_96 (hW : W0 Z a0) : Bf Z a0 (.static y_12) := hW.1 _ (mi 96 rfl)
theorem w_97 (hW : W0 Z a0) : Bf Z a0 (.code y_12 c19 10 (Option.some (Jvm.ClassFile.FieldType.array Jvm.ClassFile.FieldType.byte))) := hW.1 _ (mi 97 rfl)
theorem w_98 (hW : W0 Z a0) : Bf Z a0 (.methodLink "java/lang/String" 279 ⟨"[B", "clone", "()Ljava/lang/Object;"⟩) := hW.1 _ (mi 98 rfl)
theorem w_99 (hW : W0 Z a0) : Bf Z a0 (.sameMethod "[B" "java/lang/Object" "clone" "()Ljava/lang/Object;") := hW.1 _ (mi 99 rfl)
theorem w_101 (hW : W0 Z a0) : Bf Z a0 (.instanceMethod ⟨"java/lang/Object", "clone", "()Ljava/lang/Object;"⟩) := hW.1 _ (mi 101 rfl)
theorem w_102 (hW : W0 Z a0) : Bf Z a0 (.selects "[B" ⟨"[B", "clone", "()Ljava/lang/Object;"⟩ ⟨"java/lang/Object", "clone", "()Ljava/lang/Object;"⟩) := hW.1 _ (mi 102 rfl)
theorem w_103 (hW : W0 Z a0) : Bf Z a0 (.native ⟨"java/lang/Object", "clone", "()Ljava/lang/Object;"⟩) := hW.1 _ (mi 103 rfl)
theorem w_104 (hW : W0 Z a0) : Bf Z a0 (.castable "[B" "java/lang/Cloneable") := hW.1 _ (mi 104 rfl)
theorem w_105 (hW : W0 Z a0) : Bf Z a0 (.classLink "java/lang/String" 280 "[B") := hW.1 _ (mi 105 rfl)
theorem w_107 (hW : W0 Z a0) : Bf Z a0 (.methodLink "java/util/Base64$Decoder" 42 y_18) := hW.1 _ (mi 107 rfl)
theorem w_108 (hW : W0 Z a0) : Bf Z a0 (.declares y_18) := hW.1 _ (mi 108 rfl)
theorem w_109 (hW : W0 Z a0) : Bf Z a0 (.instanceMethod y_18) := hW.1 _ (mi 109 rfl)
theorem w_110 (hW : W0 Z a0) : Bf Z a0 (.selects "java/util/Base64$Decoder" y_18 y_18) := hW.1 _ (mi 110 rfl)
theorem w_111 (hW : W0 Z a0) : Bf Z a0 (.code y_18 c20 4 (Option.some (Jvm.ClassFile.FieldType.array Jvm.ClassFile.FieldType.byte))) := hW.1 _ (mi 111 rfl)
theorem w_112 (hW : W0 Z a0) : Bf Z a0 (.methodLink "java/util/Base64$Decoder" 16 y_16) := hW.1 _ (mi 112 rfl)
theorem w_113 (hW : W0 Z a0) : Bf Z a0 (.instanceMethod y_16) := hW.1 _ (mi 113 rfl)
theorem w_114 (hW : W0 Z a0) : Bf Z a0 (.privateMethod y_16) := hW.1 _ (mi 114 rfl)
theorem w_115 (hW : W0 Z a0) : Bf Z a0 (.selects "java/util/Base64$Decoder" y_16 y_16) := hW.1 _ (mi 115 rfl)
theorem w_116 (hW : W0 Z a0) : Bf Z a0 (.code y_16 c21 9 (Option.some Jvm.ClassFile.FieldType.int)) := hW.1 _ (mi 116 rfl)
theorem w_117 (hW : W0 Z a0) : Bf Z a0 (.fieldLink "java/util/Base64$Decoder" 7 "java/util/Base64$Decoder" "isURL" "Z") := hW.1 _ (mi 117 rfl)
theorem w_118 (hW : W0 Z a0) : Bf Z a0 (.laysFinal "java/util/Base64$Decoder" "java/util/Base64$Decoder" "isURL" "Z") := hW.1 _ (mi 118 rfl)
theorem w_119 (hW : W0 Z a0) : Bf Z a0 (.fieldLink "java/util/Base64$Decoder" 99 "java/util/Base64$Decoder" "fromBase64" "[I") := hW.1 _ (mi 119 rfl)
theorem w_120 (hW : W0 Z a0) : Bf Z a0 (.fieldLink "java/util/Base64$Decoder" 13 "java/util/Base64$Decoder" "isMIME" "Z") := hW.1 _ (mi 120 rfl)
theorem w_121 (hW : W0 Z a0) : Bf Z a0 (.laysFinal "java/util/Base64$Decoder" "java/util/Base64$Decoder" "isMIME" "Z") := hW.1 _ (mi 121 rfl)
theorem w_122 (hW : W0 Z a0) : Bf Z a0 (.constantLong "java/util/Base64$Decoder" 107 (3 : Int64)) := hW.1 _ (mi 122 rfl)
theorem w_123 (hW : W0 Z a0) : Bf Z a0 (.constantLong "java/util/Base64$Decoder" 109 (4 : Int64)) := hW.1 _ (mi 123 rfl)
theorem w_124 (hW : W0 Z a0) : Bf Z a0 (.methodLink "java/util/Base64$Decoder" 20 y_17) := hW.1 _ (mi 124 rfl)
theorem w_125 (hW : W0 Z a0) : Bf Z a0 (.instanceMethod y_17) := hW.1 _ (mi 125 rfl)
theorem w_126 (hW : W0 Z a0) : Bf Z a0 (.privateMethod y_17) := hW.1 _ (mi 126 rfl)
theorem w_127 (hW : W0 Z a0) : Bf Z a0 (.selects "java/util/Base64$Decoder" y_17 y_17) := hW.1 _ (mi 127 rfl)
theorem w_128 (hW : W0 Z a0) : Bf Z a0 (.code y_17 c22 11 (Option.some Jvm.ClassFile.FieldType.int)) := hW.1 _ (mi 128 rfl)
theorem w_129 (hW : W0 Z a0) : Bf Z a0 (.classLink "com/example/atomicity/atomicity/cdc/DecimalReader" 39 "java/math/BigDecimal") := hW.1 _ (mi 129 rfl)
theorem w_130 (hW : W0 Z a0) : Bf Z a0 (.instantiable "java/math/BigDecimal" 5) := hW.1 _ (mi 130 rfl)
theorem w_131 (hW : W0 Z a0) : Bf Z a0 (.initialized "java/math/BigDecimal") := hW.1 _ (mi 131 rfl)
theorem w_132 (hW : W0 Z a0) : Bf Z a0 (.classLink "com/example/atomicity/atomicity/cdc/DecimalReader" 41 "java/math/BigInteger") := hW.1 _ (mi 132 rfl)
theorem w_133 (hW : W0 Z a0) : Bf Z a0 (.instantiable "java/math/BigInteger" 6) := hW.1 _ (mi 133 rfl)
theorem w_134 (hW : W0 Z a0) : Bf Z a0 (.initialized "java/math/BigInteger") := hW.1 _ (mi 134 rfl)
theorem w_135 (hW : W0 Z a0) : Bf Z a0 (.methodLink "com/example/atomicity/atomicity/cdc/DecimalReader" 43 y_27) := hW.1 _ (mi 135 rfl)
theorem w_136 (hW : W0 Z a0) : Bf Z a0 (.instanceMethod y_27) := hW.1 _ (mi 136 rfl)
theorem w_137 (hW : W0 Z a0) : Bf Z a0 (.code y_27 c23 2 (Option.none : Option Jvm.ClassFile.FieldType)) := hW.1 _ (mi 137 rfl)
theorem w_138 (hW : W0 Z a0) : Bf Z a0 (.methodLink "java/math/BigInteger" 47 y_26) := hW.1 _ (mi 138 rfl)
theorem w_139 (hW : W0 Z a0) : Bf Z a0 (.instanceMethod y_26) := hW.1 _ (mi 139 rfl)
theorem w_141 (hW : W0 Z a0) : Bf Z a0 (.code y_26 c24 5 (Option.none : Option Jvm.ClassFile.FieldType)) := hW.1 _ (mi 141 rfl)
theorem w_142 (hW : W0 Z a0) : Bf Z a0 (.methodLink "java/math/BigInteger" 3 y_23) := hW.1 _ (mi 142 rfl)
theorem w_143 (hW : W0 Z a0) : Bf Z a0 (.instanceMethod y_23) := hW.1 _ (mi 143 rfl)
theorem w_146 (hW : W0 Z a0) : Bf Z a0 (.initialized "java/lang/Number") := hW.1 _ (mi 146 rfl)
theorem w_147 (hW : W0 Z a0) : Bf Z a0 (.code y_23 c25 1 (Option.none : Option Jvm.ClassFile.FieldType)) := hW.1 _ (mi 147 rfl)
theorem w_148 (hW : W0 Z a0) : Bf Z a0 (.methodLink "java/lang/Number" 1 ⟨"java/lang/Object", "<init>", "()V"⟩) := hW.1 _ (mi 148 rfl)
theorem w_149 (hW : W0 Z a0) : Bf Z a0 (.methodLink "java/math/BigInteger" 16 y_25) := hW.1 _ (mi 149 rfl)
theorem w_150 (hW : W0 Z a0) : Bf Z a0 (.static y_25) := hW.1 _ (mi 150 rfl)
theorem w_151 (hW : W0 Z a0) : Bf Z a0 (.code y_25 c26 3 (Option.some Jvm.ClassFile.FieldType.int)) := hW.1 _ (mi 151 rfl)
theorem w_152 (hW : W0 Z a0) : Bf Z a0 (.methodLink "java/util/Objects" 115 y_24) := hW.1 _ (mi 152 rfl)
theorem w_153 (hW : W0 Z a0) : Bf Z a0 (.static y_24) := hW.1 _ (mi 153 rfl)
theorem w_154 (hW : W0 Z a0) : Bf Z a0 (.initialized "jdk/internal/util/Preconditions") := hW.1 _ (mi 154 rfl)
theorem w_155 (hW : W0 Z a0) : Bf Z a0 (.code y_24 c27 4 (Option.some Jvm.ClassFile.FieldType.int)) := hW.1 _ (mi 155 rfl)
theorem w_156 (hW : W0 Z a0) : Bf Z a0 (.methodLink "java/math/BigInteger" 40 y_21) := hW.1 _ (mi 156 rfl)
theorem w_157 (hW : W0 Z a0) : Bf Z a0 (.static y_21) := hW.1 _ (mi 157 rfl)
theorem w_158 (hW : W0 Z a0) : Bf Z a0 (.code y_21 c28 8 (Option.some (Jvm.ClassFile.FieldType.array Jvm.ClassFile.FieldType.int))) := hW.1 _ (mi 158 rfl)
theorem w_159 (hW : W0 Z a0) : Bf Z a0 (.arrayClass Jvm.ClassFile.FieldType.int) := hW.1 _ (mi 159 rfl)
theorem w_160 (hW : W0 Z a0) : Bf Z a0 (.fieldLink "java/math/BigInteger" 28 "java/math/BigInteger" "mag" "[I") := hW.1 _ (mi 160 rfl)
theorem w_161 (hW : W0 Z a0) : Bf Z a0 (.laysFinal "java/math/BigInteger" "java/math/BigInteger" "mag" "[I") := hW.1 _ (mi 161 rfl)
theorem w_162 (hW : W0 Z a0) : Bf Z a0 (.fieldLink "java/math/BigInteger" 32 "java/math/BigInteger" "signum" "I") := hW.1 _ (mi 162 rfl)
theorem w_163 (hW : W0 Z a0) : Bf Z a0 (.laysFinal "java/math/BigInteger" "java/math/BigInteger" "signum" "I") := hW.1 _ (mi 163 rfl)
theorem w_164 (hW : W0 Z a0) : Bf Z a0 (.constant "java/math/BigInteger" 43 (67108864 : Int32)) := hW.1 _ (mi 164 rfl)
theorem w_165 (hW : W0 Z a0) : Bf Z a0 (.methodLink "com/example/atomicity/atomicity/cdc/DecimalReader" 46 y_38) := hW.1 _ (mi 165 rfl)
theorem w_166 (hW : W0 Z a0) : Bf Z a0 (.instanceMethod y_38) := hW.1 _ (mi 166 rfl)
theorem w_167 (hW : W0 Z a0) : Bf Z a0 (.code y_38 c29 3 (Option.none : Option Jvm.ClassFile.FieldType)) := hW.1 _ (mi 167 rfl)
theorem w_168 (hW : W0 Z a0) : Bf Z a0 (.methodLink "java/math/BigDecimal" 11 y_23) := hW.1 _ (mi 168 rfl)
theorem w_170 (hW : W0 Z a0) : Bf Z a0 (.methodLink "java/math/BigDecimal" 229 y_37) := hW.1 _ (mi 170 rfl)
theorem w_171 (hW : W0 Z a0) : Bf Z a0 (.static y_37) := hW.1 _ (mi 171 rfl)
theorem w_172 (hW : W0 Z a0) : Bf Z a0 (.code y_37 c30 1 (Option.some (Jvm.ClassFile.FieldType.object "java/math/BigInteger"))) := hW.1 _ (mi 172 rfl)
theorem w_173 (hW : W0 Z a0) : Bf Z a0 (.methodLink "java/math/BigDecimal" 210 ⟨"java/lang/Object", "getClass", "()Ljava/lang/Class;"⟩) := hW.1 _ (mi 173 rfl)
theorem w_174 (hW : W0 Z a0) : Bf Z a0 (.declares ⟨"java/lang/Object", "getClass", "()Ljava/lang/Class;"⟩) := hW.1 _ (mi 174 rfl)
theorem w_175 (hW : W0 Z a0) : Bf Z a0 (.instanceMethod ⟨"java/lang/Object", "getClass", "()Ljava/lang/Class;"⟩) := hW.1 _ (mi 175 rfl)
theorem w_176 (hW : W0 Z a0) : Bf Z a0 (.selects "java/math/BigInteger" ⟨"java/lang/Object", "getClass", "()Ljava/lang/Class;"⟩ ⟨"java/lang/Object", "getClass", "()Ljava/lang/Class;"⟩) := hW.1 _ (mi 176 rfl)
theorem w_177 (hW : W0 Z a0) : Bf Z a0 (.native ⟨"java/lang/Object", "getClass", "()Ljava/lang/Class;"⟩) := hW.1 _ (mi 177 rfl)
theorem w_178 (hW : W0 Z a0) : Bf Z a0 (.classLink "java/math/BigDecimal" 9 "java/math/BigInteger") := hW.1 _ (mi 178 rfl)
theorem w_179 (hW : W0 Z a0) : Bf Z a0 (.fieldLink "java/math/BigDecimal" 28 "java/math/BigDecimal" "intVal" "Ljava/math/BigInteger;") := hW.1 _ (mi 179 rfl)
theorem w_180 (hW : W0 Z a0) : Bf Z a0 (.laysFinal "java/math/BigDecimal" "java/math/BigDecimal" "intVal" "Ljava/math/BigInteger;") := hW.1 _ (mi 180 rfl)
theorem w_181 (hW : W0 Z a0) : Bf Z a0 (.methodLink "java/math/BigDecimal" 121 y_36) := hW.1 _ (mi 181 rfl)
theorem w_182 (hW : W0 Z a0) : Bf Z a0 (.static y_36) := hW.1 _ (mi 182 rfl)
theorem w_183 (hW : W0 Z a0) : Bf Z a0 (.code y_36 c31 6 (Option.some Jvm.ClassFile.FieldType.long)) := hW.1 _ (mi 183 rfl)
theorem w_184 (hW : W0 Z a0) : Bf Z a0 (.fieldLink "java/math/BigDecimal" 878 "java/math/BigInteger" "mag" "[I") := hW.1 _ (mi 184 rfl)
theorem w_185 (hW : W0 Z a0) : Bf Z a0 (.constantLong "java/math/BigDecimal" 636 (4294967295 : Int64)) := hW.1 _ (mi 185 rfl)
theorem w_186 (hW : W0 Z a0) : Bf Z a0 (.fieldLink "java/math/BigDecimal" 870 "java/math/BigInteger" "signum" "I") := hW.1 _ (mi 186 rfl)
theorem w_187 (hW : W0 Z a0) : Bf Z a0 (.fieldLink "java/math/BigDecimal" 24 "java/math/BigDecimal" "intCompact" "J") := hW.1 _ (mi 187 rfl)
theorem w_188 (hW : W0 Z a0) : Bf Z a0 (.laysFinal "java/math/BigDecimal" "java/math/BigDecimal" "intCompact" "J") := hW.1 _ (mi 188 rfl)
theorem w_189 (hW : W0 Z a0) : Bf Z a0 (.fieldLink "java/math/BigDecimal" 17 "java/math/BigDecimal" "scale" "I") := hW.1 _ (mi 189 rfl)
theorem w_190 (hW : W0 Z a0) : Bf Z a0 (.laysFinal "java/math/BigDecimal" "java/math/BigDecimal" "scale" "I") := hW.1 _ (mi 190 rfl)
theorem w_191 (hW : W0 Z a0) : Bf Z a0 (.methodLink "com/example/atomicity/atomicity/cdc/DecimalReaderReadPinLaw" 32 y_39) := hW.1 _ (mi 191 rfl)
theorem w_192 (hW : W0 Z a0) : Bf Z a0 (.declares y_39) := hW.1 _ (mi 192 rfl)
theorem w_193 (hW : W0 Z a0) : Bf Z a0 (.instanceMethod y_39) := hW.1 _ (mi 193 rfl)
theorem w_194 (hW : W0 Z a0) : Bf Z a0 (.selects "java/math/BigDecimal" y_39 y_39) := hW.1 _ (mi 194 rfl)
theorem w_195 (hW : W0 Z a0) : Bf Z a0 (.code y_39 c32 1 (Option.some Jvm.ClassFile.FieldType.int)) := hW.1 _ (mi 195 rfl)
theorem w_196 (hW : W0 Z a0) : Bf Z a0 (.methodLink "com/example/atomicity/atomicity/cdc/DecimalReaderReadPinLaw" 38 y_41) := hW.1 _ (mi 196 rfl)
theorem w_197 (hW : W0 Z a0) : Bf Z a0 (.declares y_41) := hW.1 _ (mi 197 rfl)
theorem w_198 (hW : W0 Z a0) : Bf Z a0 (.instanceMethod y_41) := hW.1 _ (mi 198 rfl)
theorem w_199 (hW : W0 Z a0) : Bf Z a0 (.selects "java/math/BigDecimal" y_41 y_41) := hW.1 _ (mi 199 rfl)
theorem w_200 (hW : W0 Z a0) : Bf Z a0 (.code y_41 c33 1 (Option.some (Jvm.ClassFile.FieldType.object "java/math/BigInteger"))) := hW.1 _ (mi 200 rfl)
theorem w_201 (hW : W0 Z a0) : Bf Z a0 (.methodLink "java/math/BigDecimal" 302 y_40) := hW.1 _ (mi 201 rfl)
theorem w_202 (hW : W0 Z a0) : Bf Z a0 (.instanceMethod y_40) := hW.1 _ (mi 202 rfl)
theorem w_203 (hW : W0 Z a0) : Bf Z a0 (.privateMethod y_40) := hW.1 _ (mi 203 rfl)
theorem w_204 (hW : W0 Z a0) : Bf Z a0 (.selects "java/math/BigDecimal" y_40 y_40) := hW.1 _ (mi 204 rfl)
theorem w_205 (hW : W0 Z a0) : Bf Z a0 (.code y_40 c34 1 (Option.some (Jvm.ClassFile.FieldType.object "java/math/BigInteger"))) := hW.1 _ (mi 205 rfl)
theorem w_206 (hW : W0 Z a0) : Bf Z a0 (.methodLink "com/example/atomicity/atomicity/cdc/DecimalReaderReadPinLaw" 42 y_31) := hW.1 _ (mi 206 rfl)
theorem w_207 (hW : W0 Z a0) : Bf Z a0 (.declares y_31) := hW.1 _ (mi 207 rfl)
theorem w_208 (hW : W0 Z a0) : Bf Z a0 (.instanceMethod y_31) := hW.1 _ (mi 208 rfl)
theorem w_209 (hW : W0 Z a0) : Bf Z a0 (.selects "java/math/BigInteger" y_31 y_31) := hW.1 _ (mi 209 rfl)
theorem w_210 (hW : W0 Z a0) : Bf Z a0 (.code y_31 c35 7 (Option.some Jvm.ClassFile.FieldType.int)) := hW.1 _ (mi 210 rfl)
theorem w_211 (hW : W0 Z a0) : Bf Z a0 (.fieldLink "java/math/BigInteger" 747 "java/math/BigInteger" "bitLengthPlusOne" "I") := hW.1 _ (mi 211 rfl)
theorem w_212 (hW : W0 Z a0) : Bf Z a0 (.lays "java/math/BigInteger" "java/math/BigInteger" "bitLengthPlusOne" "I") := hW.1 _ (mi 212 rfl)
theorem w_213 (hW : W0 Z a0) : Bf Z a0 (.methodLink "java/math/BigInteger" 605 y_29) := hW.1 _ (mi 213 rfl)
theorem w_214 (hW : W0 Z a0) : Bf Z a0 (.static y_29) := hW.1 _ (mi 214 rfl)
theorem w_215 (hW : W0 Z a0) : Bf Z a0 (.code y_29 c36 1 (Option.some Jvm.ClassFile.FieldType.int)) := hW.1 _ (mi 215 rfl)
theorem w_216 (hW : W0 Z a0) : Bf Z a0 (.methodLink "java/math/BigInteger" 602 y_28) := hW.1 _ (mi 216 rfl)
theorem w_217 (hW : W0 Z a0) : Bf Z a0 (.static y_28) := hW.1 _ (mi 217 rfl)
theorem w_218 (hW : W0 Z a0) : Bf Z a0 (.initialized "java/lang/Integer") := hW.1 _ (mi 218 rfl)
theorem w_219 (hW : W0 Z a0) : Bf Z a0 (.code y_28 c37 2 (Option.some Jvm.ClassFile.FieldType.int)) := hW.1 _ (mi 219 rfl)
theorem w_220 (hW : W0 Z a0) : Bf Z a0 (.constant "java/lang/Integer" 264 (65536 : Int32)) := hW.1 _ (mi 220 rfl)
theorem w_221 (hW : W0 Z a0) : Bf Z a0 (.methodLink "com/example/atomicity/atomicity/cdc/DecimalReaderReadPinLaw" 47 y_35) := hW.1 _ (mi 221 rfl)
theorem w_222 (hW : W0 Z a0) : Bf Z a0 (.declares y_35) := hW.1 _ (mi 222 rfl)
theorem w_223 (hW : W0 Z a0) : Bf Z a0 (.instanceMethod y_35) := hW.1 _ (mi 223 rfl)
theorem w_224 (hW : W0 Z a0) : Bf Z a0 (.selects "java/math/BigInteger" y_35 y_35) := hW.1 _ (mi 224 rfl)
theorem w_225 (hW : W0 Z a0) : Bf Z a0 (.code y_35 c38 4 (Option.some Jvm.ClassFile.FieldType.long)) := hW.1 _ (mi 225 rfl)
theorem w_226 (hW : W0 Z a0) : Bf Z a0 (.methodLink "java/math/BigInteger" 736 y_34) := hW.1 _ (mi 226 rfl)
theorem w_227 (hW : W0 Z a0) : Bf Z a0 (.instanceMethod y_34) := hW.1 _ (mi 227 rfl)
theorem w_228 (hW : W0 Z a0) : Bf Z a0 (.privateMethod y_34) := hW.1 _ (mi 228 rfl)
theorem w_229 (hW : W0 Z a0) : Bf Z a0 (.selects "java/math/BigInteger" y_34 y_34) := hW.1 _ (mi 229 rfl)
theorem w_230 (hW : W0 Z a0) : Bf Z a0 (.code y_34 c39 3 (Option.some Jvm.ClassFile.FieldType.int)) := hW.1 _ (mi 230 rfl)
theorem w_231 (hW : W0 Z a0) : Bf Z a0 (.methodLink "java/math/BigInteger" 860 y_32) := hW.1 _ (mi 231 rfl)
theorem w_232 (hW : W0 Z a0) : Bf Z a0 (.instanceMethod y_32) := hW.1 _ (mi 232 rfl)
theorem w_233 (hW : W0 Z a0) : Bf Z a0 (.privateMethod y_32) := hW.1 _ (mi 233 rfl)
theorem w_234 (hW : W0 Z a0) : Bf Z a0 (.selects "java/math/BigInteger" y_32 y_32) := hW.1 _ (mi 234 rfl)
theorem w_235 (hW : W0 Z a0) : Bf Z a0 (.code y_32 c40 1 (Option.some Jvm.ClassFile.FieldType.int)) := hW.1 _ (mi 235 rfl)
theorem w_236 (hW : W0 Z a0) : Bf Z a0 (.constantLong "java/math/BigInteger" 130 (4294967295 : Int64)) := hW.1 _ (mi 236 rfl)
theorem w_237 (hW : W0 Z a0) : Bf Z a0 (.methodLink "java/util/Base64$Decoder" 111 y_20) := hW.1 _ (mi 237 rfl)
theorem w_238 (hW : W0 Z a0) : Bf Z a0 (.instanceMethod y_20) := hW.1 _ (mi 238 rfl)
theorem w_239 (hW : W0 Z a0) : Bf Z a0 (.privateMethod y_20) := hW.1 _ (mi 239 rfl)
theorem w_240 (hW : W0 Z a0) : Bf Z a0 (.selects "java/util/Base64$Decoder" y_20 y_20) := hW.1 _ (mi 240 rfl)
theorem w_241 (hW : W0 Z a0) : Bf Z a0 (.code y_20 c41 16 (Option.some Jvm.ClassFile.FieldType.int)) := hW.1 _ (mi 241 rfl)
theorem w_242 (hW : W0 Z a0) : Bf Z a0 (.methodLink "java/math/BigInteger" 36 y_22) := hW.1 _ (mi 242 rfl)
theorem w_243 (hW : W0 Z a0) : Bf Z a0 (.static y_22) := hW.1 _ (mi 243 rfl)
theorem w_244 (hW : W0 Z a0) : Bf Z a0 (.code y_22 c42 11 (Option.some (Jvm.ClassFile.FieldType.array Jvm.ClassFile.FieldType.int))) := hW.1 _ (mi 244 rfl)
theorem w_245 (hW : W0 Z a0) : Bf Z a0 (.methodLink "java/math/BigInteger" 423 y_30) := hW.1 _ (mi 245 rfl)
theorem w_246 (hW : W0 Z a0) : Bf Z a0 (.static y_30) := hW.1 _ (mi 246 rfl)
theorem w_247 (hW : W0 Z a0) : Bf Z a0 (.code y_30 c43 1 (Option.some Jvm.ClassFile.FieldType.int)) := hW.1 _ (mi 247 rfl)
theorem w_248 (hW : W0 Z a0) : Bf Z a0 (.constant "java/lang/Integer" 265 (1431655765 : Int32)) := hW.1 _ (mi 248 rfl)
theorem w_249 (hW : W0 Z a0) : Bf Z a0 (.constant "java/lang/Integer" 266 (858993459 : Int32)) := hW.1 _ (mi 249 rfl)
theorem w_250 (hW : W0 Z a0) : Bf Z a0 (.constant "java/lang/Integer" 267 (252645135 : Int32)) := hW.1 _ (mi 250 rfl)
theorem w_251 (hW : W0 Z a0) : Bf Z a0 (.methodLink "java/math/BigInteger" 863 y_33) := hW.1 _ (mi 251 rfl)
theorem w_252 (hW : W0 Z a0) : Bf Z a0 (.instanceMethod y_33) := hW.1 _ (mi 252 rfl)
theorem w_253 (hW : W0 Z a0) : Bf Z a0 (.privateMethod y_33) := hW.1 _ (mi 253 rfl)
theorem w_254 (hW : W0 Z a0) : Bf Z a0 (.selects "java/math/BigInteger" y_33 y_33) := hW.1 _ (mi 254 rfl)
theorem w_255 (hW : W0 Z a0) : Bf Z a0 (.code y_33 c44 4 (Option.some Jvm.ClassFile.FieldType.int)) := hW.1 _ (mi 255 rfl)
theorem w_256 (hW : W0 Z a0) : Bf Z a0 (.fieldLink "java/math/BigInteger" 866 "java/math/BigInteger" "firstNonzeroIntNumPlusTwo" "I") := hW.1 _ (mi 256 rfl)
theorem w_257 (hW : W0 Z a0) : Bf Z a0 (.lays "java/math/BigInteger" "java/math/BigInteger" "firstNonzeroIntNumPlusTwo" "I") := hW.1 _ (mi 257 rfl)
theorem w_258 (hW : W0 Z a0) : Bf Z a0 (.fieldLink "java/math/BigInteger" 22 "java/math/BigInteger" "ZERO" "Ljava/math/BigInteger;") := hW.1 _ (mi 258 rfl)
theorem s_0 (hW : W0 Z a0) : Bf Z a0 (.initializedFor "java/lang/String" "COMPACT_STRINGS" "Z") := hW.2 _ (mi 0 rfl)
theorem s_1 (hW : W0 Z a0) : Bf Z a0 (.isInt (Jvm.Term.static "java/lang/String" "COMPACT_STRINGS" "Z")) := hW.2 _ (mi 1 rfl)
theorem s_2 {Z : State} {a0 : Array Value} (hW : W0 Z a0) : (Jvm.Cond.not (Jvm.Cond.eq (Jvm.Term.static "java/lang/String" "COMPACT_STRINGS" "Z") (Jvm.Term.int (0 : Int32)))).before a0 Z = true := hW.2 _ (mi 2 rfl)
theorem s_10 (hW : W0 Z a0) : Bf Z a0 (.initializedFor "java/util/Base64$Decoder" "RFC4648" "Ljava/util/Base64$Decoder;") := hW.2 _ (mi 10 rfl)
theorem s_11 (hW : W0 Z a0) : Bf Z a0 (.exactly (Jvm.Term.static "java/util/Base64$Decoder" "RFC4648" "Ljava/util/Base64$Decoder;") "java/util/Base64$Decoder") := hW.2 _ (mi 11 rfl)
theorem s_12 (hW : W0 Z a0) : Bf Z a0 (.eq (Jvm.Term.field (Jvm.Term.static "java/util/Base64$Decoder" "RFC4648" "Ljava/util/Base64$Decoder;") "java/util/Base64$Decoder" "isURL" "Z") (Jvm.Term.int (0 : Int32))) := hW.2 _ (mi 12 rfl)
theorem s_13 (hW : W0 Z a0) : Bf Z a0 (.eq (Jvm.Term.field (Jvm.Term.static "java/util/Base64$Decoder" "RFC4648" "Ljava/util/Base64$Decoder;") "java/util/Base64$Decoder" "isMIME" "Z") (Jvm.Term.int (0 : Int32))) := hW.2 _ (mi 13 rfl)
theorem s_15 (hW : W0 Z a0) : Bf Z a0 (.initializedFor "sun/nio/cs/ISO_8859_1" "INSTANCE" "Lsun/nio/cs/ISO_8859_1;") := hW.2 _ (mi 15 rfl)
theorem s_16 (hW : W0 Z a0) : Bf Z a0 (.exactly (Jvm.Term.static "sun/nio/cs/ISO_8859_1" "INSTANCE" "Lsun/nio/cs/ISO_8859_1;") "sun/nio/cs/ISO_8859_1") := hW.2 _ (mi 16 rfl)
theorem s_18 (hW : W0 Z a0) : Bf Z a0 (.initializedFor "sun/nio/cs/UTF_8" "INSTANCE" "Lsun/nio/cs/UTF_8;") := hW.2 _ (mi 18 rfl)
theorem s_19 (hW : W0 Z a0) : Bf Z a0 (.exactly (Jvm.Term.static "sun/nio/cs/UTF_8" "INSTANCE" "Lsun/nio/cs/UTF_8;") "sun/nio/cs/UTF_8") := hW.2 _ (mi 19 rfl)
theorem s_21 (hW : W0 Z a0) : Bf Z a0 (.initializedFor "java/util/Base64$Decoder" "fromBase64" "[I") := hW.2 _ (mi 21 rfl)
theorem s_22 (hW : W0 Z a0) : Bf Z a0 (.arrayOf (Jvm.Term.static "java/util/Base64$Decoder" "fromBase64" "[I") Jvm.ClassFile.FieldType.int) := hW.2 _ (mi 22 rfl)
theorem s_23 (hW : W0 Z a0) : Bf Z a0 (.exactly (Jvm.Term.static "java/util/Base64$Decoder" "fromBase64" "[I") "[I") := hW.2 _ (mi 23 rfl)
theorem s_24 (hW : W0 Z a0) : Bf Z a0 (.eq (Jvm.Term.length (Jvm.Term.static "java/util/Base64$Decoder" "fromBase64" "[I")) (Jvm.Term.int (256 : Int32))) := hW.2 _ (mi 24 rfl)
theorem s_282 (hW : W0 Z a0) : Bf Z a0 (.initializedFor "java/math/BigInteger" "ZERO" "Ljava/math/BigInteger;") := hW.2 _ (mi 282 rfl)
theorem s_283 (hW : W0 Z a0) : Bf Z a0 (.exactly (Jvm.Term.static "java/math/BigInteger" "ZERO" "Ljava/math/BigInteger;") "java/math/BigInteger") := hW.2 _ (mi 283 rfl)
theorem s_284 (hW : W0 Z a0) : Bf Z a0 (.eq (Jvm.Term.field (Jvm.Term.static "java/math/BigInteger" "ZERO" "Ljava/math/BigInteger;") "java/math/BigInteger" "signum" "I") (Jvm.Term.int (0 : Int32))) := hW.2 _ (mi 284 rfl)
theorem s_285 (hW : W0 Z a0) : Bf Z a0 (.arrayOf (Jvm.Term.field (Jvm.Term.static "java/math/BigInteger" "ZERO" "Ljava/math/BigInteger;") "java/math/BigInteger" "mag" "[I") Jvm.ClassFile.FieldType.int) := hW.2 _ (mi 285 rfl)
theorem s_286 (hW : W0 Z a0) : Bf Z a0 (.exactly (Jvm.Term.field (Jvm.Term.static "java/math/BigInteger" "ZERO" "Ljava/math/BigInteger;") "java/math/BigInteger" "mag" "[I") "[I") := hW.2 _ (mi 286 rfl)
theorem s_287 (hW : W0 Z a0) : Bf Z a0 (.eq (Jvm.Term.length (Jvm.Term.field (Jvm.Term.static "java/math/BigInteger" "ZERO" "Ljava/math/BigInteger;") "java/math/BigInteger" "mag" "[I")) (Jvm.Term.int (0 : Int32))) := hW.2 _ (mi 287 rfl)
theorem fl_0 {Z : State} {a0 : Array Value} (hW : W0 Z a0) : LaidL Z a0 "java/lang/String" fStr := ⟨⟨Or.inr (w_41 hW), (.array .byte), by decide +kernel⟩, ⟨⟨Or.inr (w_39 hW), .byte, by decide +kernel⟩, trivial⟩⟩
theorem nd_0 : (fStr.map (fun q => q.2.1)).Nodup := by decide +kernel
theorem dv_0 : fStr.map (fun q => (parseFieldDescriptor q.2.2).map defaultValue) = [.null, .int 0].map some := by decide +kernel
def f_1 : FL := [("java/util/Base64$Decoder", "isURL", "Z"), ("java/util/Base64$Decoder", "isMIME", "Z")]
theorem fl_1 {Z : State} {a0 : Array Value} (hW : W0 Z a0) : LaidL Z a0 "java/util/Base64$Decoder" f_1 := ⟨⟨Or.inr (w_118 hW), .boolean, by decide +kernel⟩, ⟨⟨Or.inr (w_121 hW), .boolean, by decide +kernel⟩, trivial⟩⟩
theorem nd_1 : (f_1.map (fun q => q.2.1)).Nodup := by decide +kernel
theorem dv_1 : f_1.map (fun q => (parseFieldDescriptor q.2.2).map defaultValue) = [.int 0, .int 0].map some := by decide +kernel
def f_2 : FL := [("com/example/atomicity/atomicity/cdc/DecimalReader", "scale", "I")]
theorem fl_2 {Z : State} {a0 : Array Value} (hW : W0 Z a0) : LaidL Z a0 "com/example/atomicity/atomicity/cdc/DecimalReader" f_2 := ⟨⟨Or.inr (w_50 hW), .int, by decide +kernel⟩, trivial⟩
theorem nd_2 : (f_2.map (fun q => q.2.1)).Nodup := by decide +kernel
theorem dv_2 : f_2.map (fun q => (parseFieldDescriptor q.2.2).map defaultValue) = [.int 0].map some := by decide +kernel
def f_3 : FL := [("java/math/BigInteger", "mag", "[I"), ("java/math/BigInteger", "signum", "I"), ("java/math/BigInteger", "bitLengthPlusOne", "I"), ("java/math/BigInteger", "firstNonzeroIntNumPlusTwo", "I")]
theorem fl_3 {Z : State} {a0 : Array Value} (hW : W0 Z a0) : LaidL Z a0 "java/math/BigInteger" f_3 := ⟨⟨Or.inr (w_161 hW), (.array .int), by decide +kernel⟩, ⟨⟨Or.inr (w_163 hW), .int, by decide +kernel⟩, ⟨⟨Or.inl (w_212 hW), .int, by decide +kernel⟩, ⟨⟨Or.inl (w_257 hW), .int, by decide +kernel⟩, trivial⟩⟩⟩⟩
theorem nd_3 : (f_3.map (fun q => q.2.1)).Nodup := by decide +kernel
theorem dv_3 : f_3.map (fun q => (parseFieldDescriptor q.2.2).map defaultValue) = [.null, .int 0, .int 0, .int 0].map some := by decide +kernel
def f_4 : FL := [("java/math/BigDecimal", "intVal", "Ljava/math/BigInteger;"), ("java/math/BigDecimal", "intCompact", "J"), ("java/math/BigDecimal", "scale", "I")]
theorem fl_4 {Z : State} {a0 : Array Value} (hW : W0 Z a0) : LaidL Z a0 "java/math/BigDecimal" f_4 := ⟨⟨Or.inr (w_180 hW), (.object "java/math/BigInteger"), by decide +kernel⟩, ⟨⟨Or.inr (w_188 hW), .long, by decide +kernel⟩, ⟨⟨Or.inr (w_190 hW), .int, by decide +kernel⟩, trivial⟩⟩⟩
theorem nd_4 : (f_4.map (fun q => q.2.1)).Nodup := by decide +kernel
theorem dv_4 : f_4.map (fun q => (parseFieldDescriptor q.2.2).map defaultValue) = [.null, .long (0 : Int64), .int 0].map some := by decide +kernel
theorem o_ew {Z : State} {a0 : Array Value} (hW : W0 Z a0) : EW Z a0 o_EL := EW.nil
theorem o_cs {Z : State} {a0 : Array Value} (hW : W0 Z a0) : ∃ cz : Int32, Sta Z Z.heap "java/lang/String" "COMPACT_STRINGS" "Z" (.int cz) ∧ ¬ cz = 0 := by
  obtain ⟨cz, ev⟩ := is_v (Cond.before_iff.mp (s_1 hW))
  refine ⟨cz, Sta.start ev (Or.inl (s_0 hW)), fun e => ?_⟩
  subst e
  have q := (s_2 hW)
  simp [Cond.before, Cond.holds, Cond.value, ev, Term.int_eval] at q
theorem o_sa {Z : State} {a0 : Array Value} (hW : W0 Z a0) : ∀ a ∈ Bundle.stringAtoms, a.before a0 Z = true := by
  intro a ha
  simp only [Bundle.stringAtoms, List.mem_cons, List.not_mem_nil, or_false] at ha
  rcases ha with rfl | rfl | rfl | rfl | rfl | rfl | rfl
  · exact (w_15 hW)
  · exact (w_14 hW)
  · exact (w_31 hW)
  · exact (w_41 hW)
  · exact (w_39 hW)
  · exact (w_57 hW)
  · exact (w_58 hW)
theorem o_adB : "[" ++ FieldType.toString .byte = "[B" := by decide
theorem o_exaB {Z : State} {h : Heap} {a : Addr} {vs : List Value} (V : Av Z h a .byte vs) : Exa Z h a "[B" := by
  have q := V.exa (ty := .byte) rfl
  rw [o_adB] at q; exact q
theorem o_obj2 {Z : State} {h : Heap} {a : Addr} {C O1 n1 d1 O2 n2 d2 : String} {v w : Value} (E : Exa Z h a C) (F : Fld Z h a O1 n1 d1 v) (G : Fld Z h a O2 n2 d2 w) : Obj Z h a C [(O1, n1, d1), (O2, n2, d2)] [v, w] := ⟨E, rfl, fun i q z h1 h2 => by
  match i with
  | 0 => cases h1; cases h2; exact F
  | 1 => cases h1; cases h2; exact G
  | n + 2 => cases h1⟩
def fZ : FL := [("java/math/BigInteger", "mag", "[I"), ("java/math/BigInteger", "signum", "I")]
def o_SD (Z : State) (dec fb : Addr) : Prop := Sta Z Z.heap "java/util/Base64$Decoder" "RFC4648" "Ljava/util/Base64$Decoder;" (.ref dec) ∧ Obj Z Z.heap dec "java/util/Base64$Decoder" f_1 [.int 0, .int 0] ∧ Sta Z Z.heap "java/util/Base64$Decoder" "fromBase64" "[I" (.ref fb) ∧ Av Z Z.heap fb .int (List.map Value.int o_fb)
def o_SC (Z : State) (iso utf : Addr) : Prop := Sta Z Z.heap "sun/nio/cs/ISO_8859_1" "INSTANCE" "Lsun/nio/cs/ISO_8859_1;" (.ref iso) ∧ Exa Z Z.heap iso "sun/nio/cs/ISO_8859_1" ∧ Sta Z Z.heap "sun/nio/cs/UTF_8" "INSTANCE" "Lsun/nio/cs/UTF_8;" (.ref utf) ∧ Exa Z Z.heap utf "sun/nio/cs/UTF_8"
def o_SZ (Z : State) (zz zm : Addr) : Prop := Sta Z Z.heap "java/math/BigInteger" "ZERO" "Ljava/math/BigInteger;" (.ref zz) ∧ Obj Z Z.heap zz "java/math/BigInteger" fZ [.ref zm, .int 0] ∧ Av Z Z.heap zm .int []
theorem o_hl {cl : Cell} {i : Nat} {v : Value} {r : List Value} (e : cl.slots[i]? = some v) (H : HasL cl (i + 1) r) : HasL cl i (v :: r) := ⟨e, H⟩
theorem o_el {Z : State} {a0 : Array Value} {t : Term} {x : Addr} {cl : Cell} {L : List Jvm.Cond} (ht : t.eval a0 Z none [] Z = some (.ref x)) (hc : Z.heap[x]? = some cl) (hs : ∀ d ∈ L, d.before a0 Z = true) (i : Nat) {jj v : Int32} (w : L[i]? = some (Jvm.Cond.eq (Term.elem t (Term.int jj)) (Term.int v))) {j : Nat} (hj : jj.toNatClampNeg = j) : cl.slots[j]? = some (.int v) := hj ▸ (elem_in (eqv_i (Term.int_eval v) (Cond.before_iff.mp (hs _ (List.mem_of_getElem? w)))) ht (Term.int_eval jj) hc).2
theorem o_len {Z : State} {a0 : Array Value} {t : Term} {x : Addr} {cl : Cell} {ty : FieldType} {n : Int32} (ht : t.eval a0 Z none [] Z = some (.ref x)) (A : Arr Z Z.heap x cl ty) (h : (Term.length t).eval a0 Z none [] Z = some (.int n)) : cl.slots.size < 2 ^ 31 ∧ cl.slots.size.toInt32 = n := by
  have ha : Z.arrayAt? x = some cl := A.fin (State.Warmed39.refl Z).alike
  by_cases hl : cl.slots.size < 2 ^ 31
  · rw [len_f ht ha hl] at h; exact ⟨hl, Value.int.inj (Option.some.inj h)⟩
  · simp [Term.eval, ht, ha, hl] at h
theorem o_avI {Z : State} {a0 : Array Value} {t : Term} {x : Addr} {n : Int32} {vs : List Value} (hf : Fit Z) (ev : t.eval a0 Z none [] Z = some (.ref x)) (wa : (Cond.arrayOf t .int).before a0 Z = true) (we : (Cond.exactly t "[I").before a0 Z = true) (wl : (Cond.eq (Term.length t) (Term.int n)).before a0 Z = true) (hz : ¬ n < 0) (hl : n.toNatClampNeg = vs.length) (H : ∀ cl, Z.heap[x]? = some cl → HasL cl 0 vs) : Av Z Z.heap x .int vs := by
  obtain ⟨cl, A⟩ := Arr.start ev (Cond.before_iff.mp wa)
  obtain ⟨q1, q2⟩ := o_len ev A (eqv_i (Term.int_eval n) (Cond.before_iff.mp wl))
  refine ⟨cl.cls, n, Arv.start hf A q1 q2 hz hl (H cl A.1), hl, fun _ => ?_⟩
  obtain ⟨c', k', e1, e2, -⟩ := Exa.start ev (Cond.before_iff.mp we)
  cases A.1.symm.trans e1
  rw [show "[" ++ FieldType.toString .int = "[I" from by decide]; exact e2
theorem o_stD {Z : State} {a0 : Array Value} (hf : Fit Z) (hW : W0 Z a0) : ∃ dec fb, o_SD Z dec fb := by
  obtain ⟨dec, e1⟩ := exa_v (Cond.before_iff.mp (s_11 hW))
  have u := eqv_i (Term.int_eval 0) (Cond.before_iff.mp (s_12 hW))
  have v := eqv_i (Term.int_eval 0) (Cond.before_iff.mp (s_13 hW))
  rw [fld_at e1] at u v
  obtain ⟨fb, ev⟩ := exa_v (Cond.before_iff.mp (s_23 hW))
  refine ⟨dec, fb, Sta.start e1 (Or.inl (s_10 hW)), o_obj2 (Exa.start e1 (Cond.before_iff.mp (s_11 hW))) (Fld.start u) (Fld.start v), Sta.start ev (Or.inl (s_21 hW)), o_avI hf ev (s_22 hW) (s_23 hW) (s_24 hW) (by decide) rfl (fun cl hc => ?_)⟩
  have E := @o_el Z a0 _ fb cl _ ev hc hW.2
  exact (o_hl (E 25 rfl rfl) (o_hl (E 26 rfl rfl) (o_hl (E 27 rfl rfl) (o_hl (E 28 rfl rfl) (o_hl (E 29 rfl rfl) (o_hl (E 30 rfl rfl) (o_hl (E 31 rfl rfl) (o_hl (E 32 rfl rfl) (o_hl (E 33 rfl rfl) (o_hl (E 34 rfl rfl) (o_hl (E 35 rfl rfl) (o_hl (E 36 rfl rfl) (o_hl (E 37 rfl rfl) (o_hl (E 38 rfl rfl) (o_hl (E 39 rfl rfl) (o_hl (E 40 rfl rfl) (o_hl (E 41 rfl rfl) (o_hl (E 42 rfl rfl) (o_hl (E 43 rfl rfl) (o_hl (E 44 rfl rfl) (o_hl (E 45 rfl rfl) (o_hl (E 46 rfl rfl) (o_hl (E 47 rfl rfl) (o_hl (E 48 rfl rfl) (o_hl (E 49 rfl rfl) (o_hl (E 50 rfl rfl) (o_hl (E 51 rfl rfl) (o_hl (E 52 rfl rfl) (o_hl (E 53 rfl rfl) (o_hl (E 54 rfl rfl) (o_hl (E 55 rfl rfl) (o_hl (E 56 rfl rfl) (o_hl (E 57 rfl rfl) (o_hl (E 58 rfl rfl) (o_hl (E 59 rfl rfl) (o_hl (E 60 rfl rfl) (o_hl (E 61 rfl rfl) (o_hl (E 62 rfl rfl) (o_hl (E 63 rfl rfl) (o_hl (E 64 rfl rfl) (o_hl (E 65 rfl rfl) (o_hl (E 66 rfl rfl) (o_hl (E 67 rfl rfl) (o_hl (E 68 rfl rfl) (o_hl (E 69 rfl rfl) (o_hl (E 70 rfl rfl) (o_hl (E 71 rfl rfl) (o_hl (E 72 rfl rfl) (o_hl (E 73 rfl rfl) (o_hl (E 74 rfl rfl) (o_hl (E 75 rfl rfl) (o_hl (E 76 rfl rfl) (o_hl (E 77 rfl rfl) (o_hl (E 78 rfl rfl) (o_hl (E 79 rfl rfl) (o_hl (E 80 rfl rfl) (o_hl (E 81 rfl rfl) (o_hl (E 82 rfl rfl) (o_hl (E 83 rfl rfl) (o_hl (E 84 rfl rfl) (o_hl (E 85 rfl rfl) (o_hl (E 86 rfl rfl) (o_hl (E 87 rfl rfl) (o_hl (E 88 rfl rfl) (o_hl (E 89 rfl rfl) (o_hl (E 90 rfl rfl) (o_hl (E 91 rfl rfl) (o_hl (E 92 rfl rfl) (o_hl (E 93 rfl rfl) (o_hl (E 94 rfl rfl) (o_hl (E 95 rfl rfl) (o_hl (E 96 rfl rfl) (o_hl (E 97 rfl rfl) (o_hl (E 98 rfl rfl) (o_hl (E 99 rfl rfl) (o_hl (E 100 rfl rfl) (o_hl (E 101 rfl rfl) (o_hl (E 102 rfl rfl) (o_hl (E 103 rfl rfl) (o_hl (E 104 rfl rfl) (o_hl (E 105 rfl rfl) (o_hl (E 106 rfl rfl) (o_hl (E 107 rfl rfl) (o_hl (E 108 rfl rfl) (o_hl (E 109 rfl rfl) (o_hl (E 110 rfl rfl) (o_hl (E 111 rfl rfl) (o_hl (E 112 rfl rfl) (o_hl (E 113 rfl rfl) (o_hl (E 114 rfl rfl) (o_hl (E 115 rfl rfl) (o_hl (E 116 rfl rfl) (o_hl (E 117 rfl rfl) (o_hl (E 118 rfl rfl) (o_hl (E 119 rfl rfl) (o_hl (E 120 rfl rfl) (o_hl (E 121 rfl rfl) (o_hl (E 122 rfl rfl) (o_hl (E 123 rfl rfl) (o_hl (E 124 rfl rfl) (o_hl (E 125 rfl rfl) (o_hl (E 126 rfl rfl) (o_hl (E 127 rfl rfl) (o_hl (E 128 rfl rfl) (o_hl (E 129 rfl rfl) (o_hl (E 130 rfl rfl) (o_hl (E 131 rfl rfl) (o_hl (E 132 rfl rfl) (o_hl (E 133 rfl rfl) (o_hl (E 134 rfl rfl) (o_hl (E 135 rfl rfl) (o_hl (E 136 rfl rfl) (o_hl (E 137 rfl rfl) (o_hl (E 138 rfl rfl) (o_hl (E 139 rfl rfl) (o_hl (E 140 rfl rfl) (o_hl (E 141 rfl rfl) (o_hl (E 142 rfl rfl) (o_hl (E 143 rfl rfl) (o_hl (E 144 rfl rfl) (o_hl (E 145 rfl rfl) (o_hl (E 146 rfl rfl) (o_hl (E 147 rfl rfl) (o_hl (E 148 rfl rfl) (o_hl (E 149 rfl rfl) (o_hl (E 150 rfl rfl) (o_hl (E 151 rfl rfl) (o_hl (E 152 rfl rfl) (o_hl (E 153 rfl rfl) (o_hl (E 154 rfl rfl) (o_hl (E 155 rfl rfl) (o_hl (E 156 rfl rfl) (o_hl (E 157 rfl rfl) (o_hl (E 158 rfl rfl) (o_hl (E 159 rfl rfl) (o_hl (E 160 rfl rfl) (o_hl (E 161 rfl rfl) (o_hl (E 162 rfl rfl) (o_hl (E 163 rfl rfl) (o_hl (E 164 rfl rfl) (o_hl (E 165 rfl rfl) (o_hl (E 166 rfl rfl) (o_hl (E 167 rfl rfl) (o_hl (E 168 rfl rfl) (o_hl (E 169 rfl rfl) (o_hl (E 170 rfl rfl) (o_hl (E 171 rfl rfl) (o_hl (E 172 rfl rfl) (o_hl (E 173 rfl rfl) (o_hl (E 174 rfl rfl) (o_hl (E 175 rfl rfl) (o_hl (E 176 rfl rfl) (o_hl (E 177 rfl rfl) (o_hl (E 178 rfl rfl) (o_hl (E 179 rfl rfl) (o_hl (E 180 rfl rfl) (o_hl (E 181 rfl rfl) (o_hl (E 182 rfl rfl) (o_hl (E 183 rfl rfl) (o_hl (E 184 rfl rfl) (o_hl (E 185 rfl rfl) (o_hl (E 186 rfl rfl) (o_hl (E 187 rfl rfl) (o_hl (E 188 rfl rfl) (o_hl (E 189 rfl rfl) (o_hl (E 190 rfl rfl) (o_hl (E 191 rfl rfl) (o_hl (E 192 rfl rfl) (o_hl (E 193 rfl rfl) (o_hl (E 194 rfl rfl) (o_hl (E 195 rfl rfl) (o_hl (E 196 rfl rfl) (o_hl (E 197 rfl rfl) (o_hl (E 198 rfl rfl) (o_hl (E 199 rfl rfl) (o_hl (E 200 rfl rfl) (o_hl (E 201 rfl rfl) (o_hl (E 202 rfl rfl) (o_hl (E 203 rfl rfl) (o_hl (E 204 rfl rfl) (o_hl (E 205 rfl rfl) (o_hl (E 206 rfl rfl) (o_hl (E 207 rfl rfl) (o_hl (E 208 rfl rfl) (o_hl (E 209 rfl rfl) (o_hl (E 210 rfl rfl) (o_hl (E 211 rfl rfl) (o_hl (E 212 rfl rfl) (o_hl (E 213 rfl rfl) (o_hl (E 214 rfl rfl) (o_hl (E 215 rfl rfl) (o_hl (E 216 rfl rfl) (o_hl (E 217 rfl rfl) (o_hl (E 218 rfl rfl) (o_hl (E 219 rfl rfl) (o_hl (E 220 rfl rfl) (o_hl (E 221 rfl rfl) (o_hl (E 222 rfl rfl) (o_hl (E 223 rfl rfl) (o_hl (E 224 rfl rfl) (o_hl (E 225 rfl rfl) (o_hl (E 226 rfl rfl) (o_hl (E 227 rfl rfl) (o_hl (E 228 rfl rfl) (o_hl (E 229 rfl rfl) (o_hl (E 230 rfl rfl) (o_hl (E 231 rfl rfl) (o_hl (E 232 rfl rfl) (o_hl (E 233 rfl rfl) (o_hl (E 234 rfl rfl) (o_hl (E 235 rfl rfl) (o_hl (E 236 rfl rfl) (o_hl (E 237 rfl rfl) (o_hl (E 238 rfl rfl) (o_hl (E 239 rfl rfl) (o_hl (E 240 rfl rfl) (o_hl (E 241 rfl rfl) (o_hl (E 242 rfl rfl) (o_hl (E 243 rfl rfl) (o_hl (E 244 rfl rfl) (o_hl (E 245 rfl rfl) (o_hl (E 246 rfl rfl) (o_hl (E 247 rfl rfl) (o_hl (E 248 rfl rfl) (o_hl (E 249 rfl rfl) (o_hl (E 250 rfl rfl) (o_hl (E 251 rfl rfl) (o_hl (E 252 rfl rfl) (o_hl (E 253 rfl rfl) (o_hl (E 254 rfl rfl) (o_hl (E 255 rfl rfl) (o_hl (E 256 rfl rfl) (o_hl (E 257 rfl rfl) (o_hl (E 258 rfl rfl) (o_hl (E 259 rfl rfl) (o_hl (E 260 rfl rfl) (o_hl (E 261 rfl rfl) (o_hl (E 262 rfl rfl) (o_hl (E 263 rfl rfl) (o_hl (E 264 rfl rfl) (o_hl (E 265 rfl rfl) (o_hl (E 266 rfl rfl) (o_hl (E 267 rfl rfl) (o_hl (E 268 rfl rfl) (o_hl (E 269 rfl rfl) (o_hl (E 270 rfl rfl) (o_hl (E 271 rfl rfl) (o_hl (E 272 rfl rfl) (o_hl (E 273 rfl rfl) (o_hl (E 274 rfl rfl) (o_hl (E 275 rfl rfl) (o_hl (E 276 rfl rfl) (o_hl (E 277 rfl rfl) (o_hl (E 278 rfl rfl) (o_hl (E 279 rfl rfl) (o_hl (E 280 rfl rfl) trivial))))))))))))))))))))))))))))))))))))))))))))))))))))))))))))))))))))))))))))))))))))))))))))))))))))))))))))))))))))))))))))))))))))))))))))))))))))))))))))))))))))))))))))))))))))))))))))))))))))))))))))))))))))))))))))))))))))))))))))))))))))))))))))))))
theorem o_stC {Z : State} {a0 : Array Value} (hW : W0 Z a0) : ∃ iso utf, o_SC Z iso utf := by
  obtain ⟨i, ei⟩ := exa_v (Cond.before_iff.mp (s_16 hW))
  obtain ⟨u, eu⟩ := exa_v (Cond.before_iff.mp (s_19 hW))
  exact ⟨i, u, Sta.start ei (Or.inl (s_15 hW)), Exa.start ei (Cond.before_iff.mp (s_16 hW)), Sta.start eu (Or.inl (s_18 hW)), Exa.start eu (Cond.before_iff.mp (s_19 hW))⟩
theorem o_stZ {Z : State} {a0 : Array Value} (hf : Fit Z) (hW : W0 Z a0) : ∃ zz zm, o_SZ Z zz zm := by
  obtain ⟨zz, e1⟩ := exa_v (Cond.before_iff.mp (s_283 hW))
  have u := eqv_i (Term.int_eval 0) (Cond.before_iff.mp (s_284 hW))
  obtain ⟨zm, ev⟩ := exa_v (Cond.before_iff.mp (s_286 hW))
  have e2 := ev
  rw [fld_at e1] at u e2
  exact ⟨zz, zm, Sta.start e1 (Or.inl (s_282 hW)), o_obj2 (Exa.start e1 (Cond.before_iff.mp (s_283 hW))) (Fld.start e2) (Fld.start u), o_avI hf ev (s_285 hW) (s_286 hW) (s_287 hW) (by decide) rfl (fun _ _ => trivial)⟩
theorem o_lp_cmp {k : KT} {l : Launch} {Z : State} {a0 : Array Value} (hW : W0 Z a0) {h0 : Heap} {a t : Addr} {cs : List Int32} {QQ : QT}
    (C : Ctx k l y_0 c8 7 (some .int) ⟨0, 0, 0, 0⟩ Z a0 o_EL true [t] h0 QQ) (hcs : o_lat cs) (hne : a ≠ t) (hQ : ∀ h', Av Z h' t .byte (List.map Value.int (List.map o_b cs)) → QQ (some (.int (Int32.ofNat (List.length cs)))) h' []) :
    ∀ (n i : Nat) (h : Heap) (s6 : Slot), i + n = cs.length → Sl s6 → Av Z h a .char (List.map Value.int cs) → Av Z h t .byte (List.map Value.int ((cs.take i).map o_b ++ List.replicate n 0)) → Go k h [t] 0 0 3 #[vr a, vi (Int32.ofNat i), vr t, vi (Int32.ofNat i), vi (Int32.ofNat (List.length cs)), vi (Int32.ofNat i), s6] [] := by
  intro n
  induction n with
  | zero =>
    intro i h s6 hin hs6 V U
    have hi : i = cs.length := by omega
    subst hi
    have hl := V.lenI
    refine il C d8_3 rfl <| il C d8_5 rfl <| Go.icmpge C d8_7 (fun hc7 => ?_) (fun hc7 => absurd hc7 (by rw [nI_lt hl hl]; omega))
    refine il C d8_44 rfl <| Go.ireturn C d8_46 (nb rfl) (nb rfl) (by simp) rfl [] nx ?_
    exact hQ _ (by simpa using U)
  | succ n ih =>
    intro i h s6 hin hs6 V U
    have hl := V.lenI
    obtain ⟨c, hci⟩ : ∃ c, cs[i]? = some c := ⟨cs[i]'(by omega), List.getElem?_eq_getElem (by omega)⟩
    refine il C d8_3 rfl <| il C d8_5 rfl <| Go.icmpge C d8_7 (fun hc7 => absurd ((nI_lt (by omega) hl).mpr (by omega)) hc7) (fun hc7 => ?_)
    refine aN C d8_10 rfl <| iN C d8_11 rfl <| Go.caload C V i (nI_nn (by omega)) (nI_nat (by omega)) (by rw [List.getElem?_map, hci]; rfl) d8_12 ?_
    refine Go.istore C d8_13 (Ls' := #[vr a, vi (Int32.ofNat i), vr t, vi (Int32.ofNat i), vi (Int32.ofNat (List.length cs)), vi (Int32.ofNat i), vi c]) (sto1 rfl hs6 rfl rfl) <| il C d8_15 rfl <| Go.sipush C 255 d8_17 rfl <| Go.icmple C d8_20 (fun hc20 => ?_) (fun hc20 => absurd hc20 (hcs c (List.mem_of_getElem? hci)).2)
    refine aN C d8_26 rfl <| iN C d8_27 rfl <| il C d8_28 rfl <| Go.i2b C d8_30 <| Go.bastore C U (mi 0 rfl) i (nI_nn (by omega)) (nI_nat (by omega)) (by simp; omega) (x' := (o_b c)) (o_b_nar c) (vs' := (List.map Value.int ((cs.take (i + 1)).map o_b ++ List.replicate n 0))) (o_set (by omega) hci) d8_31 (fun h1 K2 U => ?_)
    replace V := V.keep K2 (ninS hne nin0)
    refine Go.iinc C (Int32.ofNat (i + 1)) d8_32 rfl (nI_succ _) (Ls' := #[vr a, vi (Int32.ofNat (i + 1)), vr t, vi (Int32.ofNat i), vi (Int32.ofNat (List.length cs)), vi (Int32.ofNat i), vi c]) rfl <| Go.iinc C (Int32.ofNat (i + 1)) d8_35 rfl (nI_succ _) (Ls' := #[vr a, vi (Int32.ofNat (i + 1)), vr t, vi (Int32.ofNat (i + 1)), vi (Int32.ofNat (List.length cs)), vi (Int32.ofNat i), vi c]) rfl <| Go.iinc C (Int32.ofNat (i + 1)) d8_38 rfl (nI_succ _) (Ls' := #[vr a, vi (Int32.ofNat (i + 1)), vr t, vi (Int32.ofNat (i + 1)), vi (Int32.ofNat (List.length cs)), vi (Int32.ofNat (i + 1)), vi c]) rfl <| Go.goto C d8_41 ?_
    exact ih (i + 1) _ _ (by omega) (Sl.val rfl) V U
theorem rm8 (hW : W0 Z a0) (h : Heap) (a t : Addr) (cs : List Int32) (V : Av Z h a .char (List.map Value.int cs)) (U : Av Z h t .byte (List.map Value.int (List.replicate (List.length cs) (0 : Int32)))) (hcs : o_lat cs) (hne : a ≠ t) :
    Con l Z o_EL true y_0 c8 7 (some .int) ⟨0, 0, 0, 0⟩ [] #[.ref a, .int 0, .ref t, .int 0, .int (Int32.ofNat (List.length cs))] h [t] (fun v h' os' => v = some (.int (Int32.ofNat (List.length cs))) ∧ os' = [] ∧ Av Z h' t .byte (List.map Value.int (List.map o_b cs))) := by
  refine Con.intro (Ls := #[vr a, vi 0, vr t, vi 0, vi (Int32.ofNat (List.length cs)), su, su]) (by decide +kernel) (o_ew hW) (fun _ => en (by simp [argsToLocals, Value.category])) ?_
  intro k C
  refine ic C 0 d8_0 rfl <| Go.istore C d8_1 (Ls' := #[vr a, vi 0, vr t, vi 0, vi (Int32.ofNat (List.length cs)), vi 0, su]) rfl ?_
  exact o_lp_cmp hW C hcs hne (fun h' q => ⟨rfl, rfl, q⟩) (List.length cs) 0 _ _ (by omega) Sl.u V (by simpa using U)
theorem rm7 (hW : W0 Z a0) (h : Heap) (a : Addr) (cs : List Int32) (V : Av Z h a .char (List.map Value.int cs)) (hcs : o_lat cs) (hcap : (List.length cs) ≤ 8) :
    Con l Z o_EL true y_1 c7 6 (some (.array .byte)) ⟨1, 1, 8, 18⟩ [] #[.ref a, .int 0, .int (Int32.ofNat (List.length cs))] h [] (fun v h' os' => ∃ t : Addr, v = some (.ref t) ∧ os' = [t] ∧ Av Z h' t .byte (List.map Value.int (List.map o_b cs))) := by
  refine Con.intro (Ls := #[vr a, vi 0, vi (Int32.ofNat (List.length cs)), su, su, su]) (by decide +kernel) (o_ew hW) (fun _ => en (by simp [argsToLocals, Value.category])) ?_
  intro k C
  have hl := V.lenI
  refine iN C d7_0 rfl <| Go.newarray C (aty := .byte) (w_31 hW) d7_1 (nI_nn hl) (List.length cs) (nI_nat hl) (cap := 8) hcap (by decide) (by decide) (by decide) (fun b1 h2 e3 K4 A5 => ?_)
  have A5 : Av Z h2 b1 .byte (List.replicate (List.length cs) (.int 0)) := A5
  have ge_b1 : h.size ≤ b1 := Nat.le_trans (Nat.le_refl _) (ge_of e3)
  have n_a_b1 : a ≠ b1 := ne_lt V.lt (ge_of e3)
  replace V := V.k0 K4
  replace A5 : Av Z h2 b1 .byte (List.map Value.int (List.replicate (List.length cs) (0 : Int32))) := by rw [List.map_replicate]; exact A5
  refine Go.astoreN C d7_3 rfl (Ls' := #[vr a, vi 0, vi (Int32.ofNat (List.length cs)), vr b1, su, su]) rfl <| aN C d7_4 rfl <| iN C d7_5 rfl <| aN C d7_6 rfl <| ic C 0 d7_7 rfl <| iN C d7_8 rfl <| Go.callS C (z := y_0) (argsL := [.ref a, .int 0, .ref b1, .int 0, .int (Int32.ofNat (List.length cs))]) (rm8 hW h2 a b1 cs V A5 (by assumption) n_a_b1) (w_32 hW) (w_33 hW) (w_29 hW) (w_34 hW) d7_9 pd_0 rfl (by decide) rfl (st := []) rfl (by decide) (nb rfl) (by decide) (by decide) (fm ⟨(mi 0 rfl), nx⟩) (fun _ _ _ q9 _ _ => ?_)
  obtain ⟨rfl, rfl, F12⟩ := q9
  show Go k _ _ _ _ _ _ [.int (Int32.ofNat (List.length cs))]
  refine Go.istore C d7_12 (Ls' := #[vr a, vi 0, vi (Int32.ofNat (List.length cs)), vr b1, vi (Int32.ofNat (List.length cs)), su]) rfl <| il C d7_14 rfl <| iN C d7_16 rfl <| Go.icmpeq C d7_17 (fun hc17 => ?_) (fun hc17 => absurd rfl hc17)
  refine aN C d7_57 rfl <| Go.areturn C d7_58 (nb rfl) (nb rfl) rfl rfl [b1] (fm ⟨⟨(mi 0 rfl), ge_b1⟩, nx⟩) ?_
  exact ⟨_, rfl, rfl, F12⟩
theorem rm9 (hW : W0 Z a0) (h : Heap) (t : Addr) (bs : List Int32) (n : Int32) (V : Av Z h t .byte (List.map Value.int bs)) (hn : n = Int32.ofNat (List.length bs)) :
    Con l Z o_EL true y_2 c9 2 (some .byte) ⟨0, 0, 0, 0⟩ [] #[.ref t, .int n] h [] (fun v h' os' => v = some (.int 0) ∧ os' = [] ∧ h = h') := by
  refine Con.intro (Ls := #[vr t, vi n]) (by decide +kernel) (o_ew hW) (fun _ => en (by simp [argsToLocals, Value.category])) ?_
  intro k C
  refine iN C d9_0 rfl <| aN C d9_1 rfl <| Go.arraylength C V (Int32.ofNat (List.length bs)) (by rw [List.length_map]) d9_2 <| Go.isub C d9_3 <| gq 0 (by rw [hn, Int32.sub_self]) <| Go.bipush C 31 d9_4 rfl <| Go.iushr C d9_6 <| gq 0 rfl <| Go.i2b C d9_7 <| gq 0 rfl <| Go.ireturn C d9_8 (nb rfl) (nb rfl) (by simp) rfl [] nx ?_
  exact ⟨rfl, rfl, rfl⟩
theorem rm5 (hW : W0 Z a0) (h : Heap) (x a : Addr) (cs : List Int32) (O : Obj Z h x "java/lang/String" fStr [.null, .int 0]) (V : Av Z h a .char (List.map Value.int cs)) (hcs : o_lat cs) (hcap : (List.length cs) ≤ 8) (hxa : a ≠ x) (hnn : ¬ cs = []) :
    Con l Z o_EL true y_3 c5 6 none ⟨2, 1, 8, 35⟩ [] #[.ref x, .ref a, .int 0, .int (Int32.ofNat (List.length cs)), .null] h [x] (fun v h' os' => ∃ t : Addr, v = none ∧ os' = [] ∧ Str Z h' x t (List.map o_b cs)) := by
  refine Con.intro (Ls := #[vr x, vr a, vi 0, vi (Int32.ofNat (List.length cs)), .val .null, su]) (by decide +kernel) (o_ew hW) (fun _ => en (by simp [argsToLocals, Value.category])) ?_
  intro k C
  obtain ⟨cz, Scs, ncz⟩ := o_cs hW
  have hl := V.lenI
  refine aN C d5_0 rfl <| Go.initO C (w_23 hW) (w_24 hW) (w_25 hW) d5_1 rfl (by decide) (nb rfl) <| iN C d5_4 rfl <| Go.ifne C d5_5 (fun hc5 => ?_) (fun hc5 => ?_)
  · refine Go.getS C Scs (host := "") (Or.inl (w_26 hW)) Via.refl d5_27 <| Go.ifeq C d5_30 (fun hc30 => absurd hc30 ncz) (fun hc30 => ?_)
    refine aN C d5_33 rfl <| iN C d5_34 rfl <| iN C d5_35 rfl <| Go.callS C (z := y_1) (argsL := [.ref a, .int 0, .int (Int32.ofNat (List.length cs))]) (rm7 hW h a cs V (by assumption) (by assumption)) (w_27 hW) (w_28 hW) (w_29 hW) (w_30 hW) d5_36 pd_1 rfl (by decide) rfl (st := []) rfl (by decide) (nb rfl) (by decide) (by decide) nx (fun _ h2 _ q4 K5 ho6 => ?_)
    obtain ⟨t7, rfl, rfl, F8⟩ := q4
    have g_t7 : h.size ≤ t7 := (ho6 _ (mi 0 rfl)).1
    have n_x_t7 : x ≠ t7 := ne_lt O.lt g_t7
    replace O := O.k0 K5
    show Go k _ _ _ _ _ _ [.ref t7]
    refine Go.astore C d5_39 rfl (Ls' := #[vr x, vr a, vi 0, vi (Int32.ofNat (List.length cs)), .val .null, vr t7]) rfl <| aN C d5_41 rfl <| al C d5_42 rfl <| iN C d5_44 rfl <| Go.callS C (z := y_2) (argsL := [.ref t7, .int (Int32.ofNat (List.length cs))]) (rm9 hW h2 t7 ((List.map o_b cs)) ((Int32.ofNat (List.length cs))) F8 (by rw [List.length_map])) (w_35 hW) (w_36 hW) (w_29 hW) (w_37 hW) d5_45 pd_2 rfl (by decide) rfl (st := [.ref x]) rfl (by decide) (nb rfl) (by decide) (by decide) nx (fun _ _ _ q12 _ _ => ?_)
    obtain ⟨rfl, rfl, rfl⟩ := q12
    show Go k _ _ _ _ _ _ [.int 0, .ref x]
    refine Go.putF C O (mi 1 rfl) 1 rfl (w_38 hW) Via.refl (Or.inr ⟨w_39 hW, rfl, rfl⟩) (w_14 hW) (fl_0 hW) nd_0 (ty := .byte) (by decide +kernel) (v' := (.int 0)) rfl rfl (vs' := [.null, .int 0]) rfl d5_48 (fun h15 K16 O => ?_)
    replace F8 := F8.keep K16 (ninS (Ne.symm n_x_t7) nin0)
    refine aN C d5_51 rfl <| al C d5_52 rfl <| Go.putF C O (mi 1 rfl) 0 rfl (w_40 hW) Via.refl (Or.inr ⟨w_41 hW, rfl, rfl⟩) (w_14 hW) (fl_0 hW) nd_0 (ty := (.array .byte)) (by decide +kernel) (v' := (.ref t7)) rfl rfl (vs' := [.ref t7, .int 0]) rfl d5_54 (fun h17 K18 O => ?_)
    replace F8 := F8.keep K18 (ninS (Ne.symm n_x_t7) nin0)
    refine Go.retV C d5_57 (nb rfl) (nb rfl) [] nx ?_
    exact ⟨_, rfl, rfl, ⟨O, F8⟩⟩
  exact absurd (o_nil hl hc5) hnn
theorem rm4 (hW : W0 Z a0) (h : Heap) (x a : Addr) (cs : List Int32) (O : Obj Z h x "java/lang/String" fStr [.null, .int 0]) (V : Av Z h a .char (List.map Value.int cs)) (hcs : o_lat cs) (hcap : (List.length cs) ≤ 8) (hxa : a ≠ x) (hnn : ¬ cs = []) :
    Con l Z o_EL true y_4 c4 2 none ⟨3, 1, 8, 60⟩ [] #[.ref x, .ref a] h [x] (fun v h' os' => ∃ t : Addr, v = none ∧ os' = [] ∧ Str Z h' x t (List.map o_b cs)) := by
  refine Con.intro (Ls := #[vr x, vr a]) (by decide +kernel) (o_ew hW) (fun _ => en (by simp [argsToLocals, Value.category])) ?_
  intro k C
  refine aN C d4_0 rfl <| aN C d4_1 rfl <| ic C 0 d4_2 rfl <| aN C d4_3 rfl <| Go.arraylength C V (Int32.ofNat (List.length cs)) (by rw [List.length_map]) d4_4 <| Go.aconstNull C d4_5 <| Go.callI C (z := y_3) (a := x) (argsL := [.ref a, .int 0, .int (Int32.ofNat (List.length cs)), .null]) (rm5 hW h x a cs O V (by assumption) (by assumption) (by assumption) (by assumption)) rfl (w_19 hW) (w_20 hW) (w_15 hW) (w_22 hW) d4_6 pd_3 rfl (by decide) rfl (st := []) rfl (by decide) (nb rfl) (by decide) (by decide) (fm ⟨(mi 0 rfl), nx⟩) (fun _ _ _ q4 _ _ => ?_)
  obtain ⟨t7, rfl, rfl, F8⟩ := q4
  show Go k _ _ _ _ _ _ []
  refine Go.retV C d4_9 (nb rfl) (nb rfl) [] nx ?_
  exact ⟨_, rfl, rfl, F8⟩
theorem rm3 (hW : W0 Z a0) (h : Heap) (i : Int32) :
    Con l Z o_EL true y_5 method_5_code 1 (some .char) ⟨0, 0, 0, 0⟩ [] #[.int i] h [] (fun v h' os' => v = some (.int (o_sym i)) ∧ os' = [] ∧ h = h') := by
  refine Con.intro (Ls := #[vi i]) (by decide +kernel) (o_ew hW) (fun _ => en (by simp [argsToLocals, Value.category])) ?_
  intro k C
  refine iN C d3_0 rfl <| Go.bipush C 26 d3_1 rfl <| Go.icmpge C d3_3 (fun hc3 => ?_) (fun hc3 => ?_)
  · refine iN C d3_12 rfl <| Go.bipush C 52 d3_13 rfl <| Go.icmpge C d3_15 (fun hc15 => ?_) (fun hc15 => ?_)
    · refine iN C d3_27 rfl <| Go.bipush C 62 d3_28 rfl <| Go.icmpge C d3_30 (fun hc30 => ?_) (fun hc30 => ?_)
      · refine iN C d3_42 rfl <| Go.bipush C 62 d3_43 rfl <| Go.icmpne C d3_45 (fun hc45 => ?_) (fun hc45 => ?_)
        · refine Go.bipush C 47 d3_51 rfl <| Go.ireturn C d3_53 (nb rfl) (nb rfl) (by simp) (show nar .char (47 : Int32) = 47 from by decide) [] nx ?_
          exact ⟨congrArg (fun z => some (Value.int z)) (by simp [o_sym, hc3, hc15, hc30, hc45]), rfl, rfl⟩
        refine Go.bipush C 43 d3_48 rfl <| Go.ireturn C d3_50 (nb rfl) (nb rfl) (by simp) (show nar .char (43 : Int32) = 43 from by decide) [] nx ?_
        exact ⟨congrArg (fun z => some (Value.int z)) (by simp [o_sym, hc3, hc15, hc30, hc45]), rfl, rfl⟩
      refine Go.bipush C 48 d3_33 rfl <| iN C d3_35 rfl <| Go.bipush C 52 d3_36 rfl <| Go.isub C d3_38 <| Go.iadd C d3_39 <| Go.i2c C d3_40 <| Go.ireturn C d3_41 (nb rfl) (nb rfl) (by simp) (o_c_nar _) [] nx ?_
      exact ⟨congrArg (fun z => some (Value.int z)) (by simp [o_sym, hc3, hc15, hc30]), rfl, rfl⟩
    refine Go.bipush C 97 d3_18 rfl <| iN C d3_20 rfl <| Go.bipush C 26 d3_21 rfl <| Go.isub C d3_23 <| Go.iadd C d3_24 <| Go.i2c C d3_25 <| Go.ireturn C d3_26 (nb rfl) (nb rfl) (by simp) (o_c_nar _) [] nx ?_
    exact ⟨congrArg (fun z => some (Value.int z)) (by simp [o_sym, hc3, hc15]), rfl, rfl⟩
  refine Go.bipush C 65 d3_6 rfl <| iN C d3_8 rfl <| Go.iadd C d3_9 <| Go.i2c C d3_10 <| Go.ireturn C d3_11 (nb rfl) (nb rfl) (by simp) (o_c_nar _) [] nx ?_
  exact ⟨congrArg (fun z => some (Value.int z)) (by simp [o_sym, hc3]), rfl, rfl⟩
theorem rm1 (hW : W0 Z a0) (h : Heap) (w : Int64) (n kk : Int32) :
    Con l Z o_EL true y_6 method_3_code 4 (some .int) ⟨0, 0, 0, 0⟩ [] #[.long w, .int n, .int kk] h [] (fun v h' os' => v = some (.int (o_byte w n kk)) ∧ os' = [] ∧ h = h') := by
  refine Con.intro (Ls := #[.val (.long w), .second, vi n, vi kk]) (by decide +kernel) (o_ew hW) (fun _ => en (by simp [argsToLocals, Value.category])) ?_
  intro k C
  refine iN C d1_0 rfl <| iN C d1_1 rfl <| Go.icmplt C d1_2 (fun hc2 => ?_) (fun hc2 => ?_)
  · refine Go.lloadN C d1_7 rfl <| Go.bipush C 8 d1_8 rfl <| iN C d1_10 rfl <| ic C 1 d1_11 rfl <| Go.isub C d1_12 <| iN C d1_13 rfl <| Go.isub C d1_14 <| Go.imul C d1_15 <| Go.lushr C d1_16 <| Go.ldcJ C (w_6 hW) d1_17 <| Go.land C d1_20 <| Go.l2i C d1_21 <| Go.ireturn C d1_22 (nb rfl) (nb rfl) (by simp) rfl [] nx ?_
    exact ⟨congrArg (fun z => some (Value.int z)) (if_pos hc2).symm, rfl, rfl⟩
  refine ic C 0 d1_5 rfl <| Go.ireturn C d1_6 (nb rfl) (nb rfl) (by simp) rfl [] nx ?_
  exact ⟨congrArg (fun z => some (Value.int z)) (if_neg hc2).symm, rfl, rfl⟩
theorem rm2a (hW : W0 Z a0) (h : Heap) (c : Addr) (a b d m : Int32) (V : Av Z h c .char [.int 0, .int 0, .int 0, .int 0]) :
    Con l Z o_EL true y_7 method_4_code 7 none ⟨1, 0, 0, 14⟩ [] #[.ref c, .int 0, .int a, .int b, .int d, .int m] h [c] (fun v h' os' => v = none ∧ os' = [] ∧ Av Z h' c .char [(.int (o_sym (((((a <<< ((16 : Int32) &&& 31)) ||| (b <<< ((8 : Int32) &&& 31))) ||| d).toUInt32 >>> ((18 : Int32) &&& 31).toUInt32).toInt32 &&& 63))), (.int (o_sym (((((a <<< ((16 : Int32) &&& 31)) ||| (b <<< ((8 : Int32) &&& 31))) ||| d).toUInt32 >>> ((12 : Int32) &&& 31).toUInt32).toInt32 &&& 63))), (.int (if m < 2 then (61 : Int32) else o_sym (((((a <<< ((16 : Int32) &&& 31)) ||| (b <<< ((8 : Int32) &&& 31))) ||| d).toUInt32 >>> ((6 : Int32) &&& 31).toUInt32).toInt32 &&& 63))), (.int (if m < 3 then (61 : Int32) else o_sym ((((a <<< ((16 : Int32) &&& 31)) ||| (b <<< ((8 : Int32) &&& 31))) ||| d) &&& 63)))]) := by
  refine Con.intro (Ls := #[vr c, vi 0, vi a, vi b, vi d, vi m, su]) (by decide +kernel) (o_ew hW) (fun _ => en (by simp [argsToLocals, Value.category])) ?_
  intro k C
  refine iN C d2_0 rfl <| Go.bipush C 16 d2_1 rfl <| Go.ishl C d2_3 <| iN C d2_4 rfl <| Go.bipush C 8 d2_5 rfl <| Go.ishl C d2_7 <| Go.ior C d2_8 <| il C d2_9 rfl <| Go.ior C d2_11 <| Go.istore C d2_12 (Ls' := #[vr c, vi 0, vi a, vi b, vi d, vi m, vi (((a <<< ((16 : Int32) &&& 31)) ||| (b <<< ((8 : Int32) &&& 31))) ||| d)]) rfl <| aN C d2_14 rfl <| iN C d2_15 rfl <| il C d2_16 rfl <| Go.bipush C 18 d2_18 rfl <| Go.iushr C d2_20 <| Go.bipush C 63 d2_21 rfl <| Go.iand C d2_23 <| Go.callS C (z := y_5) (argsL := [(.int ((((((a <<< ((16 : Int32) &&& 31)) ||| (b <<< ((8 : Int32) &&& 31))) ||| d).toUInt32 >>> ((18 : Int32) &&& 31).toUInt32).toInt32) &&& 63))]) (rm3 hW h (((((((a <<< ((16 : Int32) &&& 31)) ||| (b <<< ((8 : Int32) &&& 31))) ||| d).toUInt32 >>> ((18 : Int32) &&& 31).toUInt32).toInt32) &&& 63))) (w_10 hW) (w_11 hW) (w_4 hW) (w_12 hW) d2_24 pd_4 rfl (by decide) rfl (st := [.int 0, .ref c]) rfl (by decide) (nb rfl) (by decide) (by decide) nx (fun _ _ _ q4 _ _ => ?_)
  obtain ⟨rfl, rfl, rfl⟩ := q4
  show Go k _ _ _ _ _ _ [(.int (o_sym ((((((a <<< ((16 : Int32) &&& 31)) ||| (b <<< ((8 : Int32) &&& 31))) ||| d).toUInt32 >>> ((18 : Int32) &&& 31).toUInt32).toInt32) &&& 63))), .int 0, .ref c]
  refine Go.castore C V (mi 0 rfl) 0 (by decide) rfl (nb rfl) (x' := (o_sym ((((((a <<< ((16 : Int32) &&& 31)) ||| (b <<< ((8 : Int32) &&& 31))) ||| d).toUInt32 >>> ((18 : Int32) &&& 31).toUInt32).toInt32) &&& 63))) (o_sym_nar _) (vs' := [(.int (o_sym ((((((a <<< ((16 : Int32) &&& 31)) ||| (b <<< ((8 : Int32) &&& 31))) ||| d).toUInt32 >>> ((18 : Int32) &&& 31).toUInt32).toInt32) &&& 63))), .int 0, .int 0, .int 0]) rfl d2_27 (fun h7 K8 V => ?_)
  refine aN C d2_28 rfl <| iN C d2_29 rfl <| ic C 1 d2_30 rfl <| Go.iadd C d2_31 <| gq 1 rfl <| il C d2_32 rfl <| Go.bipush C 12 d2_34 rfl <| Go.iushr C d2_36 <| Go.bipush C 63 d2_37 rfl <| Go.iand C d2_39 <| Go.callS C (z := y_5) (argsL := [(.int ((((((a <<< ((16 : Int32) &&& 31)) ||| (b <<< ((8 : Int32) &&& 31))) ||| d).toUInt32 >>> ((12 : Int32) &&& 31).toUInt32).toInt32) &&& 63))]) (rm3 hW h7 (((((((a <<< ((16 : Int32) &&& 31)) ||| (b <<< ((8 : Int32) &&& 31))) ||| d).toUInt32 >>> ((12 : Int32) &&& 31).toUInt32).toInt32) &&& 63))) (w_10 hW) (w_11 hW) (w_4 hW) (w_12 hW) d2_40 pd_4 rfl (by decide) rfl (st := [.int 1, .ref c]) rfl (by decide) (nb rfl) (by decide) (by decide) nx (fun _ _ _ q12 _ _ => ?_)
  obtain ⟨rfl, rfl, rfl⟩ := q12
  show Go k _ _ _ _ _ _ [(.int (o_sym ((((((a <<< ((16 : Int32) &&& 31)) ||| (b <<< ((8 : Int32) &&& 31))) ||| d).toUInt32 >>> ((12 : Int32) &&& 31).toUInt32).toInt32) &&& 63))), .int 1, .ref c]
  refine Go.castore C V (mi 0 rfl) 1 (by decide) rfl (nb rfl) (x' := (o_sym ((((((a <<< ((16 : Int32) &&& 31)) ||| (b <<< ((8 : Int32) &&& 31))) ||| d).toUInt32 >>> ((12 : Int32) &&& 31).toUInt32).toInt32) &&& 63))) (o_sym_nar _) (vs' := [(.int (o_sym ((((((a <<< ((16 : Int32) &&& 31)) ||| (b <<< ((8 : Int32) &&& 31))) ||| d).toUInt32 >>> ((18 : Int32) &&& 31).toUInt32).toInt32) &&& 63))), (.int (o_sym ((((((a <<< ((16 : Int32) &&& 31)) ||| (b <<< ((8 : Int32) &&& 31))) ||| d).toUInt32 >>> ((12 : Int32) &&& 31).toUInt32).toInt32) &&& 63))), .int 0, .int 0]) rfl d2_43 (fun h15 K16 V => ?_)
  refine aN C d2_44 rfl <| iN C d2_45 rfl <| ic C 2 d2_46 rfl <| Go.iadd C d2_47 <| gq 2 rfl <| il C d2_48 rfl <| ic C 2 d2_50 rfl ?_
  suffices J51 : ∀ (s2 : Int32), s2 = (if m < 2 then (61 : Int32) else o_sym (((((a <<< ((16 : Int32) &&& 31)) ||| (b <<< ((8 : Int32) &&& 31))) ||| d).toUInt32 >>> ((6 : Int32) &&& 31).toUInt32).toInt32 &&& 63)) → Go k h15 [c] 0 0 70 #[vr c, vi 0, vi a, vi b, vi d, vi m, vi (((a <<< ((16 : Int32) &&& 31)) ||| (b <<< ((8 : Int32) &&& 31))) ||| d)] [.int s2, .int 2, .ref c] by
    refine Go.icmplt C d2_51 (fun hc51 => ?_) (fun hc51 => ?_)
    · refine Go.bipush C 61 d2_68 rfl ?_
      exact Go.more (nb rfl) (nb rfl) (Go.less (os' := [c]) (fun x hx => hx) (J51 (61 : Int32) (if_pos hc51).symm))
    refine il C d2_54 rfl <| Go.bipush C 6 d2_56 rfl <| Go.iushr C d2_58 <| Go.bipush C 63 d2_59 rfl <| Go.iand C d2_61 <| Go.callS C (z := y_5) (argsL := [(.int ((((((a <<< ((16 : Int32) &&& 31)) ||| (b <<< ((8 : Int32) &&& 31))) ||| d).toUInt32 >>> ((6 : Int32) &&& 31).toUInt32).toInt32) &&& 63))]) (rm3 hW h15 (((((((a <<< ((16 : Int32) &&& 31)) ||| (b <<< ((8 : Int32) &&& 31))) ||| d).toUInt32 >>> ((6 : Int32) &&& 31).toUInt32).toInt32) &&& 63))) (w_10 hW) (w_11 hW) (w_4 hW) (w_12 hW) d2_62 pd_4 rfl (by decide) rfl (st := [.int 2, .ref c]) rfl (by decide) (nb rfl) (by decide) (by decide) nx (fun _ _ _ q20 _ _ => ?_)
    obtain ⟨rfl, rfl, rfl⟩ := q20
    show Go k _ _ _ _ _ _ [(.int (o_sym ((((((a <<< ((16 : Int32) &&& 31)) ||| (b <<< ((8 : Int32) &&& 31))) ||| d).toUInt32 >>> ((6 : Int32) &&& 31).toUInt32).toInt32) &&& 63))), .int 2, .ref c]
    refine Go.goto C d2_65 ?_
    exact Go.more (nb rfl) (nb rfl) (Go.less (os' := [c]) (fun x hx => hx) (J51 (o_sym ((((((a <<< ((16 : Int32) &&& 31)) ||| (b <<< ((8 : Int32) &&& 31))) ||| d).toUInt32 >>> ((6 : Int32) &&& 31).toUInt32).toInt32) &&& 63)) (if_neg hc51).symm))
  intro s2 hs2
  have hns2 : nar .char s2 = s2 := by rw [hs2]; split <;> first | decide | exact o_sym_nar _
  refine Go.castore C V (mi 0 rfl) 2 (by decide) rfl (nb rfl) (x' := s2) hns2 (vs' := [(.int (o_sym ((((((a <<< ((16 : Int32) &&& 31)) ||| (b <<< ((8 : Int32) &&& 31))) ||| d).toUInt32 >>> ((18 : Int32) &&& 31).toUInt32).toInt32) &&& 63))), (.int (o_sym ((((((a <<< ((16 : Int32) &&& 31)) ||| (b <<< ((8 : Int32) &&& 31))) ||| d).toUInt32 >>> ((12 : Int32) &&& 31).toUInt32).toInt32) &&& 63))), .int s2, .int 0]) rfl d2_70 (fun h24 K25 V => ?_)
  refine aN C d2_71 rfl <| iN C d2_72 rfl <| ic C 3 d2_73 rfl <| Go.iadd C d2_74 <| gq 3 rfl <| il C d2_75 rfl <| ic C 3 d2_77 rfl ?_
  suffices J78 : ∀ (s3 : Int32), s3 = (if m < 3 then (61 : Int32) else o_sym ((((a <<< ((16 : Int32) &&& 31)) ||| (b <<< ((8 : Int32) &&& 31))) ||| d) &&& 63)) → Go k h24 [c] 0 0 94 #[vr c, vi 0, vi a, vi b, vi d, vi m, vi (((a <<< ((16 : Int32) &&& 31)) ||| (b <<< ((8 : Int32) &&& 31))) ||| d)] [.int s3, .int 3, .ref c] by
    refine Go.icmplt C d2_78 (fun hc78 => ?_) (fun hc78 => ?_)
    · refine Go.bipush C 61 d2_92 rfl ?_
      exact Go.more (nb rfl) (nb rfl) (Go.less (os' := [c]) (fun x hx => hx) (J78 (61 : Int32) (if_pos hc78).symm))
    refine il C d2_81 rfl <| Go.bipush C 63 d2_83 rfl <| Go.iand C d2_85 <| Go.callS C (z := y_5) (argsL := [(.int ((((a <<< ((16 : Int32) &&& 31)) ||| (b <<< ((8 : Int32) &&& 31))) ||| d) &&& 63))]) (rm3 hW h24 (((((a <<< ((16 : Int32) &&& 31)) ||| (b <<< ((8 : Int32) &&& 31))) ||| d) &&& 63))) (w_10 hW) (w_11 hW) (w_4 hW) (w_12 hW) d2_86 pd_4 rfl (by decide) rfl (st := [.int 3, .ref c]) rfl (by decide) (nb rfl) (by decide) (by decide) nx (fun _ _ _ q29 _ _ => ?_)
    obtain ⟨rfl, rfl, rfl⟩ := q29
    show Go k _ _ _ _ _ _ [(.int (o_sym ((((a <<< ((16 : Int32) &&& 31)) ||| (b <<< ((8 : Int32) &&& 31))) ||| d) &&& 63))), .int 3, .ref c]
    refine Go.goto C d2_89 ?_
    exact Go.more (nb rfl) (nb rfl) (Go.less (os' := [c]) (fun x hx => hx) (J78 (o_sym ((((a <<< ((16 : Int32) &&& 31)) ||| (b <<< ((8 : Int32) &&& 31))) ||| d) &&& 63)) (if_neg hc78).symm))
  intro s3 hs3
  have hns3 : nar .char s3 = s3 := by rw [hs3]; split <;> first | decide | exact o_sym_nar _
  refine Go.castore C V (mi 0 rfl) 3 (by decide) rfl (nb rfl) (x' := s3) hns3 (vs' := [(.int (o_sym ((((((a <<< ((16 : Int32) &&& 31)) ||| (b <<< ((8 : Int32) &&& 31))) ||| d).toUInt32 >>> ((18 : Int32) &&& 31).toUInt32).toInt32) &&& 63))), (.int (o_sym ((((((a <<< ((16 : Int32) &&& 31)) ||| (b <<< ((8 : Int32) &&& 31))) ||| d).toUInt32 >>> ((12 : Int32) &&& 31).toUInt32).toInt32) &&& 63))), .int s2, .int s3]) rfl d2_94 (fun h33 K34 V => ?_)
  refine Go.retV C d2_95 (nb rfl) (nb rfl) [] nx ?_
  subst hs2 hs3
  exact ⟨rfl, rfl, V⟩
theorem rm2b (hW : W0 Z a0) (h : Heap) (c : Addr) (a b d m : Int32) (V : Av Z h c .char [.int 0, .int 0, .int 0, .int 0, .int 0, .int 0, .int 0, .int 0]) :
    Con l Z o_EL true y_7 method_4_code 7 none ⟨1, 0, 0, 14⟩ [] #[.ref c, .int 0, .int a, .int b, .int d, .int m] h [c] (fun v h' os' => v = none ∧ os' = [] ∧ Av Z h' c .char [(.int (o_sym (((((a <<< ((16 : Int32) &&& 31)) ||| (b <<< ((8 : Int32) &&& 31))) ||| d).toUInt32 >>> ((18 : Int32) &&& 31).toUInt32).toInt32 &&& 63))), (.int (o_sym (((((a <<< ((16 : Int32) &&& 31)) ||| (b <<< ((8 : Int32) &&& 31))) ||| d).toUInt32 >>> ((12 : Int32) &&& 31).toUInt32).toInt32 &&& 63))), (.int (if m < 2 then (61 : Int32) else o_sym (((((a <<< ((16 : Int32) &&& 31)) ||| (b <<< ((8 : Int32) &&& 31))) ||| d).toUInt32 >>> ((6 : Int32) &&& 31).toUInt32).toInt32 &&& 63))), (.int (if m < 3 then (61 : Int32) else o_sym ((((a <<< ((16 : Int32) &&& 31)) ||| (b <<< ((8 : Int32) &&& 31))) ||| d) &&& 63))), .int 0, .int 0, .int 0, .int 0]) := by
  refine Con.intro (Ls := #[vr c, vi 0, vi a, vi b, vi d, vi m, su]) (by decide +kernel) (o_ew hW) (fun _ => en (by simp [argsToLocals, Value.category])) ?_
  intro k C
  refine iN C d2_0 rfl <| Go.bipush C 16 d2_1 rfl <| Go.ishl C d2_3 <| iN C d2_4 rfl <| Go.bipush C 8 d2_5 rfl <| Go.ishl C d2_7 <| Go.ior C d2_8 <| il C d2_9 rfl <| Go.ior C d2_11 <| Go.istore C d2_12 (Ls' := #[vr c, vi 0, vi a, vi b, vi d, vi m, vi (((a <<< ((16 : Int32) &&& 31)) ||| (b <<< ((8 : Int32) &&& 31))) ||| d)]) rfl <| aN C d2_14 rfl <| iN C d2_15 rfl <| il C d2_16 rfl <| Go.bipush C 18 d2_18 rfl <| Go.iushr C d2_20 <| Go.bipush C 63 d2_21 rfl <| Go.iand C d2_23 <| Go.callS C (z := y_5) (argsL := [(.int ((((((a <<< ((16 : Int32) &&& 31)) ||| (b <<< ((8 : Int32) &&& 31))) ||| d).toUInt32 >>> ((18 : Int32) &&& 31).toUInt32).toInt32) &&& 63))]) (rm3 hW h (((((((a <<< ((16 : Int32) &&& 31)) ||| (b <<< ((8 : Int32) &&& 31))) ||| d).toUInt32 >>> ((18 : Int32) &&& 31).toUInt32).toInt32) &&& 63))) (w_10 hW) (w_11 hW) (w_4 hW) (w_12 hW) d2_24 pd_4 rfl (by decide) rfl (st := [.int 0, .ref c]) rfl (by decide) (nb rfl) (by decide) (by decide) nx (fun _ _ _ q4 _ _ => ?_)
  obtain ⟨rfl, rfl, rfl⟩ := q4
  show Go k _ _ _ _ _ _ [(.int (o_sym ((((((a <<< ((16 : Int32) &&& 31)) ||| (b <<< ((8 : Int32) &&& 31))) ||| d).toUInt32 >>> ((18 : Int32) &&& 31).toUInt32).toInt32) &&& 63))), .int 0, .ref c]
  refine Go.castore C V (mi 0 rfl) 0 (by decide) rfl (nb rfl) (x' := (o_sym ((((((a <<< ((16 : Int32) &&& 31)) ||| (b <<< ((8 : Int32) &&& 31))) ||| d).toUInt32 >>> ((18 : Int32) &&& 31).toUInt32).toInt32) &&& 63))) (o_sym_nar _) (vs' := [(.int (o_sym ((((((a <<< ((16 : Int32) &&& 31)) ||| (b <<< ((8 : Int32) &&& 31))) ||| d).toUInt32 >>> ((18 : Int32) &&& 31).toUInt32).toInt32) &&& 63))), .int 0, .int 0, .int 0, .int 0, .int 0, .int 0, .int 0]) rfl d2_27 (fun h7 K8 V => ?_)
  refine aN C d2_28 rfl <| iN C d2_29 rfl <| ic C 1 d2_30 rfl <| Go.iadd C d2_31 <| gq 1 rfl <| il C d2_32 rfl <| Go.bipush C 12 d2_34 rfl <| Go.iushr C d2_36 <| Go.bipush C 63 d2_37 rfl <| Go.iand C d2_39 <| Go.callS C (z := y_5) (argsL := [(.int ((((((a <<< ((16 : Int32) &&& 31)) ||| (b <<< ((8 : Int32) &&& 31))) ||| d).toUInt32 >>> ((12 : Int32) &&& 31).toUInt32).toInt32) &&& 63))]) (rm3 hW h7 (((((((a <<< ((16 : Int32) &&& 31)) ||| (b <<< ((8 : Int32) &&& 31))) ||| d).toUInt32 >>> ((12 : Int32) &&& 31).toUInt32).toInt32) &&& 63))) (w_10 hW) (w_11 hW) (w_4 hW) (w_12 hW) d2_40 pd_4 rfl (by decide) rfl (st := [.int 1, .ref c]) rfl (by decide) (nb rfl) (by decide) (by decide) nx (fun _ _ _ q12 _ _ => ?_)
  obtain ⟨rfl, rfl, rfl⟩ := q12
  show Go k _ _ _ _ _ _ [(.int (o_sym ((((((a <<< ((16 : Int32) &&& 31)) ||| (b <<< ((8 : Int32) &&& 31))) ||| d).toUInt32 >>> ((12 : Int32) &&& 31).toUInt32).toInt32) &&& 63))), .int 1, .ref c]
  refine Go.castore C V (mi 0 rfl) 1 (by decide) rfl (nb rfl) (x' := (o_sym ((((((a <<< ((16 : Int32) &&& 31)) ||| (b <<< ((8 : Int32) &&& 31))) ||| d).toUInt32 >>> ((12 : Int32) &&& 31).toUInt32).toInt32) &&& 63))) (o_sym_nar _) (vs' := [(.int (o_sym ((((((a <<< ((16 : Int32) &&& 31)) ||| (b <<< ((8 : Int32) &&& 31))) ||| d).toUInt32 >>> ((18 : Int32) &&& 31).toUInt32).toInt32) &&& 63))), (.int (o_sym ((((((a <<< ((16 : Int32) &&& 31)) ||| (b <<< ((8 : Int32) &&& 31))) ||| d).toUInt32 >>> ((12 : Int32) &&& 31).toUInt32).toInt32) &&& 63))), .int 0, .int 0, .int 0, .int 0, .int 0, .int 0]) rfl d2_43 (fun h15 K16 V => ?_)
  refine aN C d2_44 rfl <| iN C d2_45 rfl <| ic C 2 d2_46 rfl <| Go.iadd C d2_47 <| gq 2 rfl <| il C d2_48 rfl <| ic C 2 d2_50 rfl ?_
  suffices J51 : ∀ (s2 : Int32), s2 = (if m < 2 then (61 : Int32) else o_sym (((((a <<< ((16 : Int32) &&& 31)) ||| (b <<< ((8 : Int32) &&& 31))) ||| d).toUInt32 >>> ((6 : Int32) &&& 31).toUInt32).toInt32 &&& 63)) → Go k h15 [c] 0 0 70 #[vr c, vi 0, vi a, vi b, vi d, vi m, vi (((a <<< ((16 : Int32) &&& 31)) ||| (b <<< ((8 : Int32) &&& 31))) ||| d)] [.int s2, .int 2, .ref c] by
    refine Go.icmplt C d2_51 (fun hc51 => ?_) (fun hc51 => ?_)
    · refine Go.bipush C 61 d2_68 rfl ?_
      exact Go.more (nb rfl) (nb rfl) (Go.less (os' := [c]) (fun x hx => hx) (J51 (61 : Int32) (if_pos hc51).symm))
    refine il C d2_54 rfl <| Go.bipush C 6 d2_56 rfl <| Go.iushr C d2_58 <| Go.bipush C 63 d2_59 rfl <| Go.iand C d2_61 <| Go.callS C (z := y_5) (argsL := [(.int ((((((a <<< ((16 : Int32) &&& 31)) ||| (b <<< ((8 : Int32) &&& 31))) ||| d).toUInt32 >>> ((6 : Int32) &&& 31).toUInt32).toInt32) &&& 63))]) (rm3 hW h15 (((((((a <<< ((16 : Int32) &&& 31)) ||| (b <<< ((8 : Int32) &&& 31))) ||| d).toUInt32 >>> ((6 : Int32) &&& 31).toUInt32).toInt32) &&& 63))) (w_10 hW) (w_11 hW) (w_4 hW) (w_12 hW) d2_62 pd_4 rfl (by decide) rfl (st := [.int 2, .ref c]) rfl (by decide) (nb rfl) (by decide) (by decide) nx (fun _ _ _ q20 _ _ => ?_)
    obtain ⟨rfl, rfl, rfl⟩ := q20
    show Go k _ _ _ _ _ _ [(.int (o_sym ((((((a <<< ((16 : Int32) &&& 31)) ||| (b <<< ((8 : Int32) &&& 31))) ||| d).toUInt32 >>> ((6 : Int32) &&& 31).toUInt32).toInt32) &&& 63))), .int 2, .ref c]
    refine Go.goto C d2_65 ?_
    exact Go.more (nb rfl) (nb rfl) (Go.less (os' := [c]) (fun x hx => hx) (J51 (o_sym ((((((a <<< ((16 : Int32) &&& 31)) ||| (b <<< ((8 : Int32) &&& 31))) ||| d).toUInt32 >>> ((6 : Int32) &&& 31).toUInt32).toInt32) &&& 63)) (if_neg hc51).symm))
  intro s2 hs2
  have hns2 : nar .char s2 = s2 := by rw [hs2]; split <;> first | decide | exact o_sym_nar _
  refine Go.castore C V (mi 0 rfl) 2 (by decide) rfl (nb rfl) (x' := s2) hns2 (vs' := [(.int (o_sym ((((((a <<< ((16 : Int32) &&& 31)) ||| (b <<< ((8 : Int32) &&& 31))) ||| d).toUInt32 >>> ((18 : Int32) &&& 31).toUInt32).toInt32) &&& 63))), (.int (o_sym ((((((a <<< ((16 : Int32) &&& 31)) ||| (b <<< ((8 : Int32) &&& 31))) ||| d).toUInt32 >>> ((12 : Int32) &&& 31).toUInt32).toInt32) &&& 63))), .int s2, .int 0, .int 0, .int 0, .int 0, .int 0]) rfl d2_70 (fun h24 K25 V => ?_)
  refine aN C d2_71 rfl <| iN C d2_72 rfl <| ic C 3 d2_73 rfl <| Go.iadd C d2_74 <| gq 3 rfl <| il C d2_75 rfl <| ic C 3 d2_77 rfl ?_
  suffices J78 : ∀ (s3 : Int32), s3 = (if m < 3 then (61 : Int32) else o_sym ((((a <<< ((16 : Int32) &&& 31)) ||| (b <<< ((8 : Int32) &&& 31))) ||| d) &&& 63)) → Go k h24 [c] 0 0 94 #[vr c, vi 0, vi a, vi b, vi d, vi m, vi (((a <<< ((16 : Int32) &&& 31)) ||| (b <<< ((8 : Int32) &&& 31))) ||| d)] [.int s3, .int 3, .ref c] by
    refine Go.icmplt C d2_78 (fun hc78 => ?_) (fun hc78 => ?_)
    · refine Go.bipush C 61 d2_92 rfl ?_
      exact Go.more (nb rfl) (nb rfl) (Go.less (os' := [c]) (fun x hx => hx) (J78 (61 : Int32) (if_pos hc78).symm))
    refine il C d2_81 rfl <| Go.bipush C 63 d2_83 rfl <| Go.iand C d2_85 <| Go.callS C (z := y_5) (argsL := [(.int ((((a <<< ((16 : Int32) &&& 31)) ||| (b <<< ((8 : Int32) &&& 31))) ||| d) &&& 63))]) (rm3 hW h24 (((((a <<< ((16 : Int32) &&& 31)) ||| (b <<< ((8 : Int32) &&& 31))) ||| d) &&& 63))) (w_10 hW) (w_11 hW) (w_4 hW) (w_12 hW) d2_86 pd_4 rfl (by decide) rfl (st := [.int 3, .ref c]) rfl (by decide) (nb rfl) (by decide) (by decide) nx (fun _ _ _ q29 _ _ => ?_)
    obtain ⟨rfl, rfl, rfl⟩ := q29
    show Go k _ _ _ _ _ _ [(.int (o_sym ((((a <<< ((16 : Int32) &&& 31)) ||| (b <<< ((8 : Int32) &&& 31))) ||| d) &&& 63))), .int 3, .ref c]
    refine Go.goto C d2_89 ?_
    exact Go.more (nb rfl) (nb rfl) (Go.less (os' := [c]) (fun x hx => hx) (J78 (o_sym ((((a <<< ((16 : Int32) &&& 31)) ||| (b <<< ((8 : Int32) &&& 31))) ||| d) &&& 63)) (if_neg hc78).symm))
  intro s3 hs3
  have hns3 : nar .char s3 = s3 := by rw [hs3]; split <;> first | decide | exact o_sym_nar _
  refine Go.castore C V (mi 0 rfl) 3 (by decide) rfl (nb rfl) (x' := s3) hns3 (vs' := [(.int (o_sym ((((((a <<< ((16 : Int32) &&& 31)) ||| (b <<< ((8 : Int32) &&& 31))) ||| d).toUInt32 >>> ((18 : Int32) &&& 31).toUInt32).toInt32) &&& 63))), (.int (o_sym ((((((a <<< ((16 : Int32) &&& 31)) ||| (b <<< ((8 : Int32) &&& 31))) ||| d).toUInt32 >>> ((12 : Int32) &&& 31).toUInt32).toInt32) &&& 63))), .int s2, .int s3, .int 0, .int 0, .int 0, .int 0]) rfl d2_94 (fun h33 K34 V => ?_)
  refine Go.retV C d2_95 (nb rfl) (nb rfl) [] nx ?_
  subst hs2 hs3
  exact ⟨rfl, rfl, V⟩
theorem rm2c (hW : W0 Z a0) (h : Heap) (c : Addr) (x0 x1 x2 x3 a b d m : Int32) (V : Av Z h c .char [.int x0, .int x1, .int x2, .int x3, .int 0, .int 0, .int 0, .int 0]) :
    Con l Z o_EL true y_7 method_4_code 7 none ⟨1, 0, 0, 14⟩ [] #[.ref c, .int 4, .int a, .int b, .int d, .int m] h [c] (fun v h' os' => v = none ∧ os' = [] ∧ Av Z h' c .char [.int x0, .int x1, .int x2, .int x3, (.int (o_sym (((((a <<< ((16 : Int32) &&& 31)) ||| (b <<< ((8 : Int32) &&& 31))) ||| d).toUInt32 >>> ((18 : Int32) &&& 31).toUInt32).toInt32 &&& 63))), (.int (o_sym (((((a <<< ((16 : Int32) &&& 31)) ||| (b <<< ((8 : Int32) &&& 31))) ||| d).toUInt32 >>> ((12 : Int32) &&& 31).toUInt32).toInt32 &&& 63))), (.int (if m < 2 then (61 : Int32) else o_sym (((((a <<< ((16 : Int32) &&& 31)) ||| (b <<< ((8 : Int32) &&& 31))) ||| d).toUInt32 >>> ((6 : Int32) &&& 31).toUInt32).toInt32 &&& 63))), (.int (if m < 3 then (61 : Int32) else o_sym ((((a <<< ((16 : Int32) &&& 31)) ||| (b <<< ((8 : Int32) &&& 31))) ||| d) &&& 63)))]) := by
  refine Con.intro (Ls := #[vr c, vi 4, vi a, vi b, vi d, vi m, su]) (by decide +kernel) (o_ew hW) (fun _ => en (by simp [argsToLocals, Value.category])) ?_
  intro k C
  refine iN C d2_0 rfl <| Go.bipush C 16 d2_1 rfl <| Go.ishl C d2_3 <| iN C d2_4 rfl <| Go.bipush C 8 d2_5 rfl <| Go.ishl C d2_7 <| Go.ior C d2_8 <| il C d2_9 rfl <| Go.ior C d2_11 <| Go.istore C d2_12 (Ls' := #[vr c, vi 4, vi a, vi b, vi d, vi m, vi (((a <<< ((16 : Int32) &&& 31)) ||| (b <<< ((8 : Int32) &&& 31))) ||| d)]) rfl <| aN C d2_14 rfl <| iN C d2_15 rfl <| il C d2_16 rfl <| Go.bipush C 18 d2_18 rfl <| Go.iushr C d2_20 <| Go.bipush C 63 d2_21 rfl <| Go.iand C d2_23 <| Go.callS C (z := y_5) (argsL := [(.int ((((((a <<< ((16 : Int32) &&& 31)) ||| (b <<< ((8 : Int32) &&& 31))) ||| d).toUInt32 >>> ((18 : Int32) &&& 31).toUInt32).toInt32) &&& 63))]) (rm3 hW h (((((((a <<< ((16 : Int32) &&& 31)) ||| (b <<< ((8 : Int32) &&& 31))) ||| d).toUInt32 >>> ((18 : Int32) &&& 31).toUInt32).toInt32) &&& 63))) (w_10 hW) (w_11 hW) (w_4 hW) (w_12 hW) d2_24 pd_4 rfl (by decide) rfl (st := [.int 4, .ref c]) rfl (by decide) (nb rfl) (by decide) (by decide) nx (fun _ _ _ q4 _ _ => ?_)
  obtain ⟨rfl, rfl, rfl⟩ := q4
  show Go k _ _ _ _ _ _ [(.int (o_sym ((((((a <<< ((16 : Int32) &&& 31)) ||| (b <<< ((8 : Int32) &&& 31))) ||| d).toUInt32 >>> ((18 : Int32) &&& 31).toUInt32).toInt32) &&& 63))), .int 4, .ref c]
  refine Go.castore C V (mi 0 rfl) 4 (by decide) rfl (nb rfl) (x' := (o_sym ((((((a <<< ((16 : Int32) &&& 31)) ||| (b <<< ((8 : Int32) &&& 31))) ||| d).toUInt32 >>> ((18 : Int32) &&& 31).toUInt32).toInt32) &&& 63))) (o_sym_nar _) (vs' := [.int x0, .int x1, .int x2, .int x3, (.int (o_sym ((((((a <<< ((16 : Int32) &&& 31)) ||| (b <<< ((8 : Int32) &&& 31))) ||| d).toUInt32 >>> ((18 : Int32) &&& 31).toUInt32).toInt32) &&& 63))), .int 0, .int 0, .int 0]) rfl d2_27 (fun h7 K8 V => ?_)
  refine aN C d2_28 rfl <| iN C d2_29 rfl <| ic C 1 d2_30 rfl <| Go.iadd C d2_31 <| gq 5 rfl <| il C d2_32 rfl <| Go.bipush C 12 d2_34 rfl <| Go.iushr C d2_36 <| Go.bipush C 63 d2_37 rfl <| Go.iand C d2_39 <| Go.callS C (z := y_5) (argsL := [(.int ((((((a <<< ((16 : Int32) &&& 31)) ||| (b <<< ((8 : Int32) &&& 31))) ||| d).toUInt32 >>> ((12 : Int32) &&& 31).toUInt32).toInt32) &&& 63))]) (rm3 hW h7 (((((((a <<< ((16 : Int32) &&& 31)) ||| (b <<< ((8 : Int32) &&& 31))) ||| d).toUInt32 >>> ((12 : Int32) &&& 31).toUInt32).toInt32) &&& 63))) (w_10 hW) (w_11 hW) (w_4 hW) (w_12 hW) d2_40 pd_4 rfl (by decide) rfl (st := [.int 5, .ref c]) rfl (by decide) (nb rfl) (by decide) (by decide) nx (fun _ _ _ q12 _ _ => ?_)
  obtain ⟨rfl, rfl, rfl⟩ := q12
  show Go k _ _ _ _ _ _ [(.int (o_sym ((((((a <<< ((16 : Int32) &&& 31)) ||| (b <<< ((8 : Int32) &&& 31))) ||| d).toUInt32 >>> ((12 : Int32) &&& 31).toUInt32).toInt32) &&& 63))), .int 5, .ref c]
  refine Go.castore C V (mi 0 rfl) 5 (by decide) rfl (nb rfl) (x' := (o_sym ((((((a <<< ((16 : Int32) &&& 31)) ||| (b <<< ((8 : Int32) &&& 31))) ||| d).toUInt32 >>> ((12 : Int32) &&& 31).toUInt32).toInt32) &&& 63))) (o_sym_nar _) (vs' := [.int x0, .int x1, .int x2, .int x3, (.int (o_sym ((((((a <<< ((16 : Int32) &&& 31)) ||| (b <<< ((8 : Int32) &&& 31))) ||| d).toUInt32 >>> ((18 : Int32) &&& 31).toUInt32).toInt32) &&& 63))), (.int (o_sym ((((((a <<< ((16 : Int32) &&& 31)) ||| (b <<< ((8 : Int32) &&& 31))) ||| d).toUInt32 >>> ((12 : Int32) &&& 31).toUInt32).toInt32) &&& 63))), .int 0, .int 0]) rfl d2_43 (fun h15 K16 V => ?_)
  refine aN C d2_44 rfl <| iN C d2_45 rfl <| ic C 2 d2_46 rfl <| Go.iadd C d2_47 <| gq 6 rfl <| il C d2_48 rfl <| ic C 2 d2_50 rfl ?_
  suffices J51 : ∀ (s2 : Int32), s2 = (if m < 2 then (61 : Int32) else o_sym (((((a <<< ((16 : Int32) &&& 31)) ||| (b <<< ((8 : Int32) &&& 31))) ||| d).toUInt32 >>> ((6 : Int32) &&& 31).toUInt32).toInt32 &&& 63)) → Go k h15 [c] 0 0 70 #[vr c, vi 4, vi a, vi b, vi d, vi m, vi (((a <<< ((16 : Int32) &&& 31)) ||| (b <<< ((8 : Int32) &&& 31))) ||| d)] [.int s2, .int 6, .ref c] by
    refine Go.icmplt C d2_51 (fun hc51 => ?_) (fun hc51 => ?_)
    · refine Go.bipush C 61 d2_68 rfl ?_
      exact Go.more (nb rfl) (nb rfl) (Go.less (os' := [c]) (fun x hx => hx) (J51 (61 : Int32) (if_pos hc51).symm))
    refine il C d2_54 rfl <| Go.bipush C 6 d2_56 rfl <| Go.iushr C d2_58 <| Go.bipush C 63 d2_59 rfl <| Go.iand C d2_61 <| Go.callS C (z := y_5) (argsL := [(.int ((((((a <<< ((16 : Int32) &&& 31)) ||| (b <<< ((8 : Int32) &&& 31))) ||| d).toUInt32 >>> ((6 : Int32) &&& 31).toUInt32).toInt32) &&& 63))]) (rm3 hW h15 (((((((a <<< ((16 : Int32) &&& 31)) ||| (b <<< ((8 : Int32) &&& 31))) ||| d).toUInt32 >>> ((6 : Int32) &&& 31).toUInt32).toInt32) &&& 63))) (w_10 hW) (w_11 hW) (w_4 hW) (w_12 hW) d2_62 pd_4 rfl (by decide) rfl (st := [.int 6, .ref c]) rfl (by decide) (nb rfl) (by decide) (by decide) nx (fun _ _ _ q20 _ _ => ?_)
    obtain ⟨rfl, rfl, rfl⟩ := q20
    show Go k _ _ _ _ _ _ [(.int (o_sym ((((((a <<< ((16 : Int32) &&& 31)) ||| (b <<< ((8 : Int32) &&& 31))) ||| d).toUInt32 >>> ((6 : Int32) &&& 31).toUInt32).toInt32) &&& 63))), .int 6, .ref c]
    refine Go.goto C d2_65 ?_
    exact Go.more (nb rfl) (nb rfl) (Go.less (os' := [c]) (fun x hx => hx) (J51 (o_sym ((((((a <<< ((16 : Int32) &&& 31)) ||| (b <<< ((8 : Int32) &&& 31))) ||| d).toUInt32 >>> ((6 : Int32) &&& 31).toUInt32).toInt32) &&& 63)) (if_neg hc51).symm))
  intro s2 hs2
  have hns2 : nar .char s2 = s2 := by rw [hs2]; split <;> first | decide | exact o_sym_nar _
  refine Go.castore C V (mi 0 rfl) 6 (by decide) rfl (nb rfl) (x' := s2) hns2 (vs' := [.int x0, .int x1, .int x2, .int x3, (.int (o_sym ((((((a <<< ((16 : Int32) &&& 31)) ||| (b <<< ((8 : Int32) &&& 31))) ||| d).toUInt32 >>> ((18 : Int32) &&& 31).toUInt32).toInt32) &&& 63))), (.int (o_sym ((((((a <<< ((16 : Int32) &&& 31)) ||| (b <<< ((8 : Int32) &&& 31))) ||| d).toUInt32 >>> ((12 : Int32) &&& 31).toUInt32).toInt32) &&& 63))), .int s2, .int 0]) rfl d2_70 (fun h24 K25 V => ?_)
  refine aN C d2_71 rfl <| iN C d2_72 rfl <| ic C 3 d2_73 rfl <| Go.iadd C d2_74 <| gq 7 rfl <| il C d2_75 rfl <| ic C 3 d2_77 rfl ?_
  suffices J78 : ∀ (s3 : Int32), s3 = (if m < 3 then (61 : Int32) else o_sym ((((a <<< ((16 : Int32) &&& 31)) ||| (b <<< ((8 : Int32) &&& 31))) ||| d) &&& 63)) → Go k h24 [c] 0 0 94 #[vr c, vi 4, vi a, vi b, vi d, vi m, vi (((a <<< ((16 : Int32) &&& 31)) ||| (b <<< ((8 : Int32) &&& 31))) ||| d)] [.int s3, .int 7, .ref c] by
    refine Go.icmplt C d2_78 (fun hc78 => ?_) (fun hc78 => ?_)
    · refine Go.bipush C 61 d2_92 rfl ?_
      exact Go.more (nb rfl) (nb rfl) (Go.less (os' := [c]) (fun x hx => hx) (J78 (61 : Int32) (if_pos hc78).symm))
    refine il C d2_81 rfl <| Go.bipush C 63 d2_83 rfl <| Go.iand C d2_85 <| Go.callS C (z := y_5) (argsL := [(.int ((((a <<< ((16 : Int32) &&& 31)) ||| (b <<< ((8 : Int32) &&& 31))) ||| d) &&& 63))]) (rm3 hW h24 (((((a <<< ((16 : Int32) &&& 31)) ||| (b <<< ((8 : Int32) &&& 31))) ||| d) &&& 63))) (w_10 hW) (w_11 hW) (w_4 hW) (w_12 hW) d2_86 pd_4 rfl (by decide) rfl (st := [.int 7, .ref c]) rfl (by decide) (nb rfl) (by decide) (by decide) nx (fun _ _ _ q29 _ _ => ?_)
    obtain ⟨rfl, rfl, rfl⟩ := q29
    show Go k _ _ _ _ _ _ [(.int (o_sym ((((a <<< ((16 : Int32) &&& 31)) ||| (b <<< ((8 : Int32) &&& 31))) ||| d) &&& 63))), .int 7, .ref c]
    refine Go.goto C d2_89 ?_
    exact Go.more (nb rfl) (nb rfl) (Go.less (os' := [c]) (fun x hx => hx) (J78 (o_sym ((((a <<< ((16 : Int32) &&& 31)) ||| (b <<< ((8 : Int32) &&& 31))) ||| d) &&& 63)) (if_neg hc78).symm))
  intro s3 hs3
  have hns3 : nar .char s3 = s3 := by rw [hs3]; split <;> first | decide | exact o_sym_nar _
  refine Go.castore C V (mi 0 rfl) 7 (by decide) rfl (nb rfl) (x' := s3) hns3 (vs' := [.int x0, .int x1, .int x2, .int x3, (.int (o_sym ((((((a <<< ((16 : Int32) &&& 31)) ||| (b <<< ((8 : Int32) &&& 31))) ||| d).toUInt32 >>> ((18 : Int32) &&& 31).toUInt32).toInt32) &&& 63))), (.int (o_sym ((((((a <<< ((16 : Int32) &&& 31)) ||| (b <<< ((8 : Int32) &&& 31))) ||| d).toUInt32 >>> ((12 : Int32) &&& 31).toUInt32).toInt32) &&& 63))), .int s2, .int s3]) rfl d2_94 (fun h33 K34 V => ?_)
  refine Go.retV C d2_95 (nb rfl) (nb rfl) [] nx ?_
  subst hs2 hs3
  exact ⟨rfl, rfl, V⟩
theorem rm10 (hW : W0 Z a0) (h : Heap) (x : Addr) (sc : Int32) (O : Obj Z h x "com/example/atomicity/atomicity/cdc/DecimalReader" f_2 [.int 0]) :
    Con l Z o_EL true y_8 c10 2 none ⟨1, 0, 0, 12⟩ [] #[.ref x, .int sc] h [x] (fun v h' os' => v = none ∧ os' = [] ∧ Obj Z h' x "com/example/atomicity/atomicity/cdc/DecimalReader" f_2 [.int sc]) := by
  refine Con.intro (Ls := #[vr x, vi sc]) (by decide +kernel) (o_ew hW) (fun _ => en (by simp [argsToLocals, Value.category])) ?_
  intro k C
  refine aN C d10_0 rfl <| Go.initO C (w_48 hW) (w_24 hW) (w_25 hW) d10_1 rfl (by decide) (nb rfl) <| aN C d10_4 rfl <| iN C d10_5 rfl <| Go.putF C O (mi 0 rfl) 0 rfl (w_49 hW) Via.refl (Or.inr ⟨w_50 hW, rfl, rfl⟩) (w_43 hW) (fl_2 hW) nd_2 (ty := .int) (by decide +kernel) (v' := (.int sc)) rfl rfl (vs' := [.int sc]) rfl d10_6 (fun h1 K2 O => ?_)
  refine Go.retV C d10_9 (nb rfl) (nb rfl) [] nx ?_
  exact ⟨rfl, rfl, O⟩
theorem rm12 (hW : W0 Z a0) (h : Heap) (x y : Addr) :
    Con l Z o_EL true y_9 c12 2 (some (.object "java/lang/Object")) ⟨0, 0, 0, 0⟩ [] #[.ref x, .ref y] h [] (fun v h' os' => v = some (.ref x) ∧ os' = [] ∧ h = h') := by
  refine Con.intro (Ls := #[vr x, vr y]) (by decide +kernel) (o_ew hW) (fun _ => en (by simp [argsToLocals, Value.category])) ?_
  intro k C
  refine aN C d12_0 rfl <| Go.ifnonnullY C d12_1 <| aN C d12_13 rfl <| Go.areturn C d12_14 (nb rfl) (nb rfl) rfl rfl [] nx ?_
  exact ⟨rfl, rfl, rfl⟩
theorem rm13 (hW : W0 Z a0) (h : Heap) (dec fb : Addr) (hSD : o_SD Z dec fb) :
    Con l Z o_EL true y_10 c13 0 (some (.object "java/util/Base64$Decoder")) ⟨0, 0, 0, 0⟩ [] #[] h [] (fun v h' os' => v = some (.ref dec) ∧ os' = [] ∧ h = h') := by
  refine Con.intro (Ls := #[]) (by decide +kernel) (o_ew hW) (fun _ => en (by simp [argsToLocals, Value.category])) ?_
  intro k C
  obtain ⟨Sd, -⟩ := id hSD
  refine Go.getS C Sd (host := "") (Or.inl (w_67 hW)) Via.refl d13_0 <| Go.areturn C d13_3 (nb rfl) (nb rfl) rfl rfl [] nx ?_
  exact ⟨rfl, rfl, rfl⟩
theorem rm16 (hW : W0 Z a0) (h : Heap) (x t : Addr) (bs : List Int32) (S : Str Z h x t bs) :
    Con l Z o_EL true y_11 c16 1 (some .byte) ⟨0, 0, 0, 0⟩ [] #[.ref x] h [] (fun v h' os' => v = some (.int 0) ∧ os' = [] ∧ h = h') := by
  refine Con.intro (Ls := #[vr x]) (by decide +kernel) (o_ew hW) (fun _ => en (by simp [argsToLocals, Value.category])) ?_
  intro k C
  obtain ⟨cz, Scs, ncz⟩ := o_cs hW
  refine Go.getS C Scs (host := "") (Or.inl (w_26 hW)) Via.refl d16_0 <| Go.ifeq C d16_3 (fun hc3 => absurd hc3 ncz) (fun hc3 => ?_)
  refine aN C d16_6 rfl <| gF C S.1 1 rfl rfl (w_38 hW) d16_7 <| Go.goto C d16_10 <| Go.ireturn C d16_14 (nb rfl) (nb rfl) (by simp) rfl [] nx ?_
  exact ⟨rfl, rfl, rfl⟩
theorem rm19 (hW : W0 Z a0) (h : Heap) (t : Addr) (bs : List Int32) (V : Av Z h t .byte (List.map Value.int bs)) (hcap : (List.length bs) ≤ 8) :
    Con l Z o_EL true y_12 c19 10 (some (.array .byte)) ⟨1, 1, 8, 20⟩ [] #[.int 0, .ref t, .int 1] h [] (fun v h' os' => ∃ r : Addr, v = some (.ref r) ∧ os' = [] ∧ Av Z h' r .byte (List.map Value.int bs)) := by
  refine Con.intro (Ls := #[vi 0, vr t, vi 1, su, su, su, su, su, su, su]) (by decide +kernel) (o_ew hW) (fun _ => en (by simp [argsToLocals, Value.category])) ?_
  intro k C
  refine iN C d19_0 rfl <| ifneF C d19_1 (by decide) <| aN C d19_4 rfl <| Go.clone C V rfl (ad := "[B") o_adB (w_98 hW) (w_99 hW) (w_103 hW) (w_101 hW) (w_102 hW) (w_104 hW) d19_5 rfl (by decide) (by decide) (cap := 8) (by rw [List.length_map]; exact hcap) (by decide) (by decide) (fun _ _ _ _ R1 => ?_)
  refine Go.checkcast C (Ins.self (o_exaB R1)) (w_105 hW) d19_8 <| Go.areturn C d19_11 (nb rfl) (nb rfl) rfl rfl [] nx ?_
  exact ⟨_, rfl, rfl, R1⟩
theorem rm18 (hW : W0 Z a0) (h : Heap) (t : Addr) (bs : List Int32) (V : Av Z h t .byte (List.map Value.int bs)) (hcap : (List.length bs) ≤ 8) :
    Con l Z o_EL true y_13 c18 2 (some (.array .byte)) ⟨2, 1, 8, 45⟩ [] #[.int 0, .ref t] h [] (fun v h' os' => ∃ r : Addr, v = some (.ref r) ∧ os' = [] ∧ Av Z h' r .byte (List.map Value.int bs)) := by
  refine Con.intro (Ls := #[vi 0, vr t]) (by decide +kernel) (o_ew hW) (fun _ => en (by simp [argsToLocals, Value.category])) ?_
  intro k C
  refine iN C d18_0 rfl <| aN C d18_1 rfl <| ic C 1 d18_2 rfl <| Go.callS C (z := y_12) (argsL := [.int 0, .ref t, .int 1]) (rm19 hW h t bs V hcap) (w_95 hW) (w_96 hW) (w_15 hW) (w_97 hW) d18_3 pd_5 rfl (by decide) rfl (st := []) rfl (by decide) (nb rfl) (by decide) (by decide) nx (fun _ _ _ q4 _ _ => ?_)
  obtain ⟨r7, rfl, rfl, F8⟩ := q4
  show Go k _ _ _ _ _ _ [.ref r7]
  refine Go.areturn C d18_6 (nb rfl) (nb rfl) rfl rfl [] nx ?_
  exact ⟨_, rfl, rfl, F8⟩
theorem rm17 (hW : W0 Z a0) (h : Heap) (t : Addr) (bs : List Int32) (iso utf : Addr) (V : Av Z h t .byte (List.map Value.int bs)) (hcap : (List.length bs) ≤ 8) (hSC : o_SC Z iso utf) :
    Con l Z o_EL true y_14 c17 3 (some (.array .byte)) ⟨3, 1, 8, 62⟩ [] #[.ref iso, .int 0, .ref t] h [] (fun v h' os' => ∃ r : Addr, v = some (.ref r) ∧ os' = [] ∧ Av Z h' r .byte (List.map Value.int bs)) := by
  refine Con.intro (Ls := #[vr iso, vi 0, vr t]) (by decide +kernel) (o_ew hW) (fun _ => en (by simp [argsToLocals, Value.category])) ?_
  intro k C
  obtain ⟨Si, Ei, Su, Eu⟩ := id hSC
  have nis : iso ≠ utf := Exa.ne Ei Eu (by decide)
  refine aN C d17_0 rfl <| Go.getS C Su (host := "") (Or.inl (w_89 hW)) Via.refl d17_1 <| Go.acmp C false d17_4 rfl rfl (decide_eq_false fun q => nis (Value.ref.inj q)) (pcN := 14) rfl <| aN C d17_14 rfl <| Go.getS C Si (host := "") (Or.inl (w_91 hW)) Via.refl d17_15 <| Go.acmp C true d17_18 rfl rfl (decide_eq_true rfl) (pcN := 21) rfl <| iN C d17_21 rfl <| aN C d17_22 rfl <| Go.callS C (z := y_13) (argsL := [.int 0, .ref t]) (rm18 hW h t bs V hcap) (w_92 hW) (w_93 hW) (w_15 hW) (w_94 hW) d17_23 pd_6 rfl (by decide) rfl (st := []) rfl (by decide) (nb rfl) (by decide) (by decide) nx (fun _ _ _ q4 _ _ => ?_)
  obtain ⟨r7, rfl, rfl, F8⟩ := q4
  show Go k _ _ _ _ _ _ [.ref r7]
  refine Go.areturn C d17_26 (nb rfl) (nb rfl) rfl rfl [] nx ?_
  exact ⟨_, rfl, rfl, F8⟩
theorem rm15 (hW : W0 Z a0) (h : Heap) (x t : Addr) (bs : List Int32) (iso utf : Addr) (S : Str Z h x t bs) (hcap : (List.length bs) ≤ 8) (hSC : o_SC Z iso utf) :
    Con l Z o_EL true y_15 c15 2 (some (.array .byte)) ⟨4, 1, 8, 82⟩ [] #[.ref x, .ref iso] h [] (fun v h' os' => ∃ r : Addr, v = some (.ref r) ∧ os' = [] ∧ Av Z h' r .byte (List.map Value.int bs)) := by
  refine Con.intro (Ls := #[vr x, vr iso]) (by decide +kernel) (o_ew hW) (fun _ => en (by simp [argsToLocals, Value.category])) ?_
  intro k C
  have SV := S.2
  refine aN C d15_0 rfl <| Go.ifnonnullY C d15_1 <| aN C d15_12 rfl <| aN C d15_13 rfl <| Go.callV C (z := y_11) (zr := y_11) (a := x) (argsL := []) (rm16 hW h x t bs S) S.exa (w_81 hW) (w_82 hW) (fun hz => notFace_of_selects (args := #[]) (mvT hz (w_84 hW))) (w_84 hW) (w_83 hW) (w_15 hW) (w_85 hW) d15_14 pd_7 rfl (by decide) rfl (st := [.ref iso]) rfl (by decide) (nb rfl) (by decide) (by decide) nx (fun _ _ _ q4 _ _ => ?_)
  obtain ⟨rfl, rfl, rfl⟩ := q4
  show Go k _ _ _ _ _ _ [.int 0, .ref iso]
  refine aN C d15_17 rfl <| gF C S.1 0 rfl rfl (w_40 hW) d15_18 <| Go.callS C (z := y_14) (argsL := [.ref iso, .int 0, .ref t]) (rm17 hW h t bs iso utf SV hcap hSC) (w_86 hW) (w_87 hW) (w_15 hW) (w_88 hW) d15_21 pd_8 rfl (by decide) rfl (st := []) rfl (by decide) (nb rfl) (by decide) (by decide) nx (fun _ _ _ q10 _ _ => ?_)
  obtain ⟨r13, rfl, rfl, F14⟩ := q10
  show Go k _ _ _ _ _ _ [.ref r13]
  refine Go.areturn C d15_24 (nb rfl) (nb rfl) rfl rfl [] nx ?_
  exact ⟨_, rfl, rfl, F14⟩
theorem rmL1 (hW : W0 Z a0) (h : Heap) (dec fb a : Addr) (q0 q1 x0 : Int32) (V : Av Z h a .byte [.int (o_sym q0), .int (o_sym q1), .int 61, .int 61]) (hSD : o_SD Z dec fb) (hg0 : o_g1 q0 q1 x0) :
    Con l Z o_EL true y_16 c21 9 (some .int) ⟨0, 0, 0, 0⟩ [] #[.ref dec, .ref a, .int 0, .int 4] h [] (fun v h' os' => v = some (.int 1) ∧ os' = [] ∧ h = h') := by
  refine Con.intro (Ls := #[vr dec, vr a, vi 0, vi 4, su, su, su, su, su]) (by decide +kernel) (o_ew hW) (fun _ => en (by simp [argsToLocals, Value.category])) ?_
  intro k C
  obtain ⟨Sd, Od, Sf, Vf⟩ := id hSD
  refine Go.old C (fun X0 => ?_)
  replace Od := Od.k0 (Keep.ofExt X0)
  obtain ⟨k0, k1, e0⟩ := id hg0
  refine aN C d21_0 rfl <| gF C Od 0 rfl rfl (w_117 hW) d21_1 <| ifeqT C d21_4 (by decide) <| Go.getS C Sf (host := "") (Or.inl (w_119 hW)) Via.refl d21_13 <| Go.astore C d21_16 rfl (Ls' := #[vr dec, vr a, vi 0, vi 4, vr fb, su, su, su, su]) rfl <| ic C 0 d21_18 rfl <| Go.istore C d21_19 (Ls' := #[vr dec, vr a, vi 0, vi 4, vr fb, vi 0, su, su, su]) rfl <| iN C d21_21 rfl <| iN C d21_22 rfl <| Go.isub C d21_23 <| gq 4 rfl <| Go.istore C d21_24 (Ls' := #[vr dec, vr a, vi 0, vi 4, vr fb, vi 0, vi 4, su, su]) rfl <| il C d21_26 rfl <| ifneT C d21_28 (by decide) <| il C d21_33 rfl <| ic C 2 d21_35 rfl <| icmpgeT C d21_36 (by decide) <| aN C d21_66 rfl <| gF C Od 1 rfl rfl (w_120 hW) d21_67 <| ifeqT C d21_70 (by decide) <| aN C d21_141 rfl <| iN C d21_142 rfl <| ic C 1 d21_143 rfl <| Go.isub C d21_144 <| gq 3 rfl <| Go.baload C V 3 (by decide) rfl rfl d21_145 <| Go.bipush C 61 d21_146 rfl <| icmpneF C d21_148 (by decide) ?_
  refine Go.iinc C 1 d21_151 rfl rfl (Ls' := #[vr dec, vr a, vi 0, vi 4, vr fb, vi 1, vi 4, su, su]) rfl <| aN C d21_154 rfl <| iN C d21_155 rfl <| ic C 2 d21_156 rfl <| Go.isub C d21_157 <| gq 2 rfl <| Go.baload C V 2 (by decide) rfl rfl d21_158 <| Go.bipush C 61 d21_159 rfl <| icmpneF C d21_161 (by decide) <| Go.iinc C 2 d21_164 rfl rfl (Ls' := #[vr dec, vr a, vi 0, vi 4, vr fb, vi 2, vi 4, su, su]) rfl <| il C d21_167 rfl <| ifneT C d21_169 (by decide) <| ic C 3 d21_187 rfl <| il C d21_188 rfl <| Go.i2l C d21_190 <| Go.ldcJ C (w_122 hW) d21_191 <| Go.ladd C d21_194 <| Go.ldcJ C (w_123 hW) d21_195 <| Go.ldiv C d21_198 (by decide) <| Go.l2i C d21_199 <| gq 1 rfl <| Go.imul C d21_200 <| gq 3 rfl <| il C d21_201 rfl <| Go.isub C d21_203 <| gq 1 rfl <| Go.ireturn C d21_204 (nb rfl) (nb rfl) (by simp) rfl [] nx ?_
  exact ⟨rfl, rfl, rfl⟩
theorem rmD1 (hW : W0 Z a0) (h : Heap) (dec fb a d : Addr) (q0 q1 x0 : Int32) (V : Av Z h a .byte [.int (o_sym q0), .int (o_sym q1), .int 61, .int 61]) (U : Av Z h d .byte [.int 0]) (hSD : o_SD Z dec fb) (hg0 : o_g1 q0 q1 x0) (hB0 : o_B x0) (had : a ≠ d) :
    Con l Z o_EL true y_17 c22 11 (some .int) ⟨0, 0, 0, 0⟩ [] #[.ref dec, .ref a, .int 0, .int 4, .ref d] h [d] (fun v h' os' => v = some (.int 1) ∧ os' = [] ∧ Av Z h' d .byte [.int x0]) := by
  refine Con.intro (Ls := #[vr dec, vr a, vi 0, vi 4, vr d, su, su, su, su, su, su]) (by decide +kernel) (o_ew hW) (fun _ => en (by simp [argsToLocals, Value.category])) ?_
  intro k C
  obtain ⟨Sd, Od, Sf, Vf⟩ := id hSD
  have ld := Od.lt
  have lf := Vf.lt
  refine Go.ownd C (fun OW => ?_)
  have nd : dec ≠ d := ne_lt ld (OW _ (mi 0 rfl))
  have nf : fb ≠ d := ne_lt lf (OW _ (mi 0 rfl))
  refine Go.old C (fun X0 => ?_)
  replace Od := Od.k0 (Keep.ofExt X0)
  replace Vf := Vf.k0 (Keep.ofExt X0)
  obtain ⟨k0, k1, e0⟩ := id hg0
  refine aN C d22_0 rfl <| gF C Od 0 rfl rfl (w_117 hW) d22_1 <| ifeqT C d22_4 (by decide) <| Go.getS C Sf (host := "") (Or.inl (w_119 hW)) Via.refl d22_13 <| Go.astore C d22_16 rfl (Ls' := #[vr dec, vr a, vi 0, vi 4, vr d, vr fb, su, su, su, su, su]) rfl <| ic C 0 d22_18 rfl <| Go.istore C d22_19 (Ls' := #[vr dec, vr a, vi 0, vi 4, vr d, vr fb, vi 0, su, su, su, su]) rfl <| ic C 0 d22_21 rfl <| Go.istore C d22_22 (Ls' := #[vr dec, vr a, vi 0, vi 4, vr d, vr fb, vi 0, vi 0, su, su, su]) rfl <| Go.bipush C 18 d22_24 rfl <| Go.istore C d22_26 (Ls' := #[vr dec, vr a, vi 0, vi 4, vr d, vr fb, vi 0, vi 0, vi 18, su, su]) rfl <| iN C d22_28 rfl <| iN C d22_29 rfl <| icmpgeF C d22_30 (by decide) <| il C d22_33 rfl <| Go.bipush C 18 d22_35 rfl <| icmpneF C d22_37 (by decide) <| iN C d22_40 rfl <| iN C d22_41 rfl <| ic C 4 d22_42 rfl <| Go.isub C d22_43 <| gq 0 rfl <| icmpgeT C d22_44 (by decide) ?_
  refine iN C d22_90 rfl <| iN C d22_91 rfl <| icmpltT C d22_92 (by decide) <| aN C d22_98 rfl <| iN C d22_99 rfl <| Go.iinc C 1 d22_100 rfl rfl (Ls' := #[vr dec, vr a, vi 1, vi 4, vr d, vr fb, vi 0, vi 0, vi 18, su, su]) rfl <| Go.baload C V 0 (by decide) rfl rfl d22_103 <| Go.sipush C 255 d22_104 rfl <| Go.iand C d22_107 <| Go.eqI (x' := (o_sym q0)) (o_sym_all k0).1 <| Go.istore C d22_108 (Ls' := #[vr dec, vr a, vi 1, vi 4, vr d, vr fb, vi 0, vi 0, vi 18, vi (o_sym q0), su]) rfl <| al C d22_110 rfl <| il C d22_112 rfl <| Go.iaload C Vf ((o_sym q0)).toNatClampNeg (o_sym_all k0).2.1 rfl (o_sym_at k0) d22_114 <| Go.dup C d22_115 rfl <| Go.istore C d22_116 (Ls' := #[vr dec, vr a, vi 1, vi 4, vr d, vr fb, vi 0, vi 0, vi 18, vi q0, su]) rfl <| Go.ifge C d22_118 (fun hc118 => ?_) (fun hc118 => absurd hc118 k0.1)
  refine il C d22_214 rfl <| il C d22_216 rfl <| il C d22_218 rfl <| Go.ishl C d22_220 <| Go.ior C d22_221 <| Go.eqI (x' := (q0 <<< ((18 : Int32) &&& 31))) (o_or0 _) <| Go.istore C d22_222 (Ls' := #[vr dec, vr a, vi 1, vi 4, vr d, vr fb, vi 0, vi (q0 <<< ((18 : Int32) &&& 31)), vi 18, vi q0, su]) rfl <| Go.iinc C 12 d22_224 rfl (by  decide) (Ls' := #[vr dec, vr a, vi 1, vi 4, vr d, vr fb, vi 0, vi (q0 <<< ((18 : Int32) &&& 31)), vi 12, vi q0, su]) rfl <| il C d22_227 rfl <| ifgeT C d22_229 (by decide) <| Go.goto C d22_278 <| iN C d22_28 rfl <| iN C d22_29 rfl <| icmpgeF C d22_30 (by decide) <| il C d22_33 rfl <| Go.bipush C 18 d22_35 rfl <| icmpneT C d22_37 (by decide) <| iN C d22_90 rfl <| iN C d22_91 rfl <| icmpltT C d22_92 (by decide) <| aN C d22_98 rfl <| iN C d22_99 rfl <| Go.iinc C 2 d22_100 rfl rfl (Ls' := #[vr dec, vr a, vi 2, vi 4, vr d, vr fb, vi 0, vi (q0 <<< ((18 : Int32) &&& 31)), vi 12, vi q0, su]) rfl ?_
  refine Go.baload C V 1 (by decide) rfl rfl d22_103 <| Go.sipush C 255 d22_104 rfl <| Go.iand C d22_107 <| Go.eqI (x' := (o_sym q1)) (o_sym_all k1).1 <| Go.istore C d22_108 (Ls' := #[vr dec, vr a, vi 2, vi 4, vr d, vr fb, vi 0, vi (q0 <<< ((18 : Int32) &&& 31)), vi 12, vi (o_sym q1), su]) rfl <| al C d22_110 rfl <| il C d22_112 rfl <| Go.iaload C Vf ((o_sym q1)).toNatClampNeg (o_sym_all k1).2.1 rfl (o_sym_at k1) d22_114 <| Go.dup C d22_115 rfl <| Go.istore C d22_116 (Ls' := #[vr dec, vr a, vi 2, vi 4, vr d, vr fb, vi 0, vi (q0 <<< ((18 : Int32) &&& 31)), vi 12, vi q1, su]) rfl <| Go.ifge C d22_118 (fun hc118 => ?_) (fun hc118 => absurd hc118 k1.1)
  refine il C d22_214 rfl <| il C d22_216 rfl <| il C d22_218 rfl <| Go.ishl C d22_220 <| Go.ior C d22_221 <| Go.eqI (x' := (o_w2 q0 q1)) rfl <| Go.istore C d22_222 (Ls' := #[vr dec, vr a, vi 2, vi 4, vr d, vr fb, vi 0, vi (o_w2 q0 q1), vi 12, vi q1, su]) rfl <| Go.iinc C 6 d22_224 rfl (by  decide) (Ls' := #[vr dec, vr a, vi 2, vi 4, vr d, vr fb, vi 0, vi (o_w2 q0 q1), vi 6, vi q1, su]) rfl <| il C d22_227 rfl <| ifgeT C d22_229 (by decide) <| Go.goto C d22_278 <| iN C d22_28 rfl <| iN C d22_29 rfl <| icmpgeF C d22_30 (by decide) <| il C d22_33 rfl <| Go.bipush C 18 d22_35 rfl <| icmpneT C d22_37 (by decide) <| iN C d22_90 rfl <| iN C d22_91 rfl <| icmpltT C d22_92 (by decide) <| aN C d22_98 rfl <| iN C d22_99 rfl <| Go.iinc C 3 d22_100 rfl rfl (Ls' := #[vr dec, vr a, vi 3, vi 4, vr d, vr fb, vi 0, vi (o_w2 q0 q1), vi 6, vi q1, su]) rfl <| Go.baload C V 2 (by decide) rfl rfl d22_103 ?_
  refine Go.sipush C 255 d22_104 rfl <| Go.iand C d22_107 <| gq 61 rfl <| Go.istore C d22_108 (Ls' := #[vr dec, vr a, vi 3, vi 4, vr d, vr fb, vi 0, vi (o_w2 q0 q1), vi 6, vi 61, su]) rfl <| al C d22_110 rfl <| il C d22_112 rfl <| Go.iaload C Vf 61 (by decide) rfl rfl d22_114 <| Go.dup C d22_115 rfl <| Go.istore C d22_116 (Ls' := #[vr dec, vr a, vi 3, vi 4, vr d, vr fb, vi 0, vi (o_w2 q0 q1), vi 6, vi (-2), su]) rfl <| ifgeF C d22_118 (by decide) <| il C d22_121 rfl <| Go.bipush C (-2) d22_123 (by decide) <| icmpneF C d22_125 (by decide) <| il C d22_128 rfl <| Go.bipush C 6 d22_130 rfl <| icmpneF C d22_132 (by decide) <| iN C d22_135 rfl <| iN C d22_136 rfl <| icmpeqF C d22_137 (by decide) <| aN C d22_140 rfl <| iN C d22_141 rfl <| Go.iinc C 4 d22_142 rfl rfl (Ls' := #[vr dec, vr a, vi 4, vi 4, vr d, vr fb, vi 0, vi (o_w2 q0 q1), vi 6, vi (-2), su]) rfl <| Go.baload C V 3 (by decide) rfl rfl d22_145 ?_
  refine Go.bipush C 61 d22_146 rfl <| icmpneF C d22_148 (by decide) <| il C d22_151 rfl <| Go.bipush C 18 d22_153 rfl <| icmpneT C d22_155 (by decide) <| il C d22_281 rfl <| Go.bipush C 6 d22_283 rfl <| icmpneF C d22_285 (by decide) <| al C d22_288 rfl <| il C d22_290 rfl <| Go.iinc C 1 d22_292 rfl rfl (Ls' := #[vr dec, vr a, vi 4, vi 4, vr d, vr fb, vi 1, vi (o_w2 q0 q1), vi 6, vi (-2), su]) rfl <| il C d22_295 rfl <| Go.bipush C 16 d22_297 rfl <| Go.ishr C d22_299 <| Go.i2b C d22_300 <| gq x0 e0 <| Go.bastore C U (mi 0 rfl) 0 (by decide) rfl (nb rfl) (x' := x0) (o_B_nar hB0) (vs' := [.int x0]) rfl d22_301 (fun h1 K2 U => ?_)
  refine Go.goto C d22_302 <| iN C d22_358 rfl <| iN C d22_359 rfl <| icmpgeT C d22_360 (by decide) <| il C d22_416 rfl <| Go.ireturn C d22_418 (nb rfl) (nb rfl) (by simp) rfl [] nx ?_
  exact ⟨rfl, rfl, U⟩
theorem rmE1 (hW : W0 Z a0) (h : Heap) (dec fb a : Addr) (q0 q1 x0 : Int32) (V : Av Z h a .byte [.int (o_sym q0), .int (o_sym q1), .int 61, .int 61]) (hSD : o_SD Z dec fb) (hg0 : o_g1 q0 q1 x0) (hB0 : o_B x0) :
    Con l Z o_EL true y_18 c20 4 (some (.array .byte)) ⟨2, 1, 1, 66⟩ [] #[.ref dec, .ref a] h [] (fun v h' os' => ∃ r : Addr, v = some (.ref r) ∧ os' = [] ∧ Av Z h' r .byte [.int x0]) := by
  refine Con.intro (Ls := #[vr dec, vr a, su, su]) (by decide +kernel) (o_ew hW) (fun _ => en (by simp [argsToLocals, Value.category])) ?_
  intro k C
  obtain ⟨Sd, Od, Sf, Vf⟩ := id hSD
  refine Go.old C (fun X0 => ?_)
  replace Od := Od.k0 (Keep.ofExt X0)
  refine aN C d20_0 rfl <| aN C d20_1 rfl <| ic C 0 d20_2 rfl <| aN C d20_3 rfl <| Go.arraylength C V (4 : Int32) rfl d20_4 <| Go.callP C (z := y_16) (a := dec) (argsL := [.ref a, .int 0, .int 4]) (rmL1 hW h dec fb a q0 q1 x0 V hSD hg0) Od.1 (w_112 hW) (w_113 hW) (w_115 hW) (w_114 hW) (w_68 hW) (w_116 hW) d20_5 pd_9 rfl (by decide) rfl (st := []) rfl (by decide) (nb rfl) (by decide) (by decide) nx (fun _ _ _ q4 _ _ => ?_)
  obtain ⟨rfl, rfl, rfl⟩ := q4
  show Go k _ _ _ _ _ _ [.int 1]
  refine Go.newarray C (aty := .byte) (w_31 hW) d20_8 (by decide) 1 rfl (cap := 1) (by decide) (by decide) (by decide) (by decide) (fun b7 h8 e9 K10 A11 => ?_)
  have A11 : Av Z h8 b7 .byte [.int 0] := A11
  have n_a_b7 : a ≠ b7 := ne_lt V.lt (ge_of e9)
  replace V := V.k0 K10
  replace Od := Od.k0 K10
  refine Go.astoreN C d20_10 rfl (Ls' := #[vr dec, vr a, vr b7, su]) rfl <| aN C d20_11 rfl <| aN C d20_12 rfl <| ic C 0 d20_13 rfl <| aN C d20_14 rfl <| Go.arraylength C V (4 : Int32) rfl d20_15 <| aN C d20_16 rfl <| Go.callP C (z := y_17) (a := dec) (argsL := [.ref a, .int 0, .int 4, .ref b7]) (rmD1 hW h8 dec fb a b7 q0 q1 x0 V A11 hSD hg0 hB0 n_a_b7) Od.1 (w_124 hW) (w_125 hW) (w_127 hW) (w_126 hW) (w_68 hW) (w_128 hW) d20_17 pd_10 rfl (by decide) rfl (st := []) rfl (by decide) (nb rfl) (by decide) (by decide) (fm ⟨(mi 0 rfl), nx⟩) (fun _ _ _ q15 _ _ => ?_)
  obtain ⟨rfl, rfl, F18⟩ := q15
  show Go k _ _ _ _ _ _ [.int 1]
  refine Go.istoreN C d20_20 (Ls' := #[vr dec, vr a, vr b7, vi 1]) rfl <| iN C d20_21 rfl <| aN C d20_22 rfl <| Go.arraylength C F18 (1 : Int32) rfl d20_23 <| icmpeqT C d20_24 (by decide) <| aN C d20_33 rfl <| Go.areturn C d20_34 (nb rfl) (nb rfl) rfl rfl [] nx ?_
  exact ⟨_, rfl, rfl, F18⟩
theorem rmT1 (hW : W0 Z a0) (h : Heap) (dec fb iso utf y t : Addr) (q0 q1 x0 : Int32) (S : Str Z h y t [(o_sym q0), (o_sym q1), (61 : Int32), (61 : Int32)]) (hSD : o_SD Z dec fb) (hSC : o_SC Z iso utf) (hg0 : o_g1 q0 q1 x0) (hB0 : o_B x0) :
    Con l Z o_EL true y_19 c14 2 (some (.array .byte)) ⟨5, 2, 14, 105⟩ [] #[.ref dec, .ref y] h [] (fun v h' os' => ∃ r : Addr, v = some (.ref r) ∧ os' = [] ∧ Av Z h' r .byte [.int x0]) := by
  refine Con.intro (Ls := #[vr dec, vr y]) (by decide +kernel) (o_ew hW) (fun _ => en (by simp [argsToLocals, Value.category])) ?_
  intro k C
  obtain ⟨Sd, Od, Sf, Vf⟩ := id hSD
  refine Go.old C (fun X0 => ?_)
  replace Od := Od.k0 (Keep.ofExt X0)
  obtain ⟨Si, -⟩ := id hSC
  refine aN C d14_0 rfl <| aN C d14_1 rfl <| Go.getS C Si (host := "") (Or.inl (w_74 hW)) Via.refl d14_2 <| Go.callV C (z := y_15) (zr := y_15) (a := y) (argsL := [.ref iso]) (rm15 hW h y t ([(o_sym q0), (o_sym q1), (61 : Int32), (61 : Int32)]) iso utf S (nb rfl) hSC) S.exa (w_76 hW) (w_77 hW) (fun hz => notFace_of_selects (args := #[]) (mvT hz (w_79 hW))) (w_79 hW) (w_78 hW) (w_15 hW) (w_80 hW) d14_5 pd_11 rfl (by decide) rfl (st := [.ref dec]) rfl (by decide) (nb rfl) (by decide) (by decide) nx (fun _ h2 _ q4 K5 _ => ?_)
  obtain ⟨r7, rfl, rfl, F8⟩ := q4
  replace Od := Od.k0 K5
  show Go k _ _ _ _ _ _ [.ref r7, .ref dec]
  have F8 : Av Z h2 r7 .byte [.int (o_sym q0), .int (o_sym q1), .int 61, .int 61] := F8
  refine Go.callV C (z := y_18) (zr := y_18) (a := dec) (argsL := [.ref r7]) (rmE1 hW h2 dec fb r7 q0 q1 x0 F8 hSD hg0 hB0) Od.1 (w_107 hW) (w_108 hW) (fun hz => notFace_of_selects (args := #[]) (mvT hz (w_110 hW))) (w_110 hW) (w_109 hW) (w_68 hW) (w_111 hW) d14_8 pd_12 rfl (by decide) rfl (st := []) rfl (by decide) (nb rfl) (by decide) (by decide) nx (fun _ _ _ q12 _ _ => ?_)
  obtain ⟨r15, rfl, rfl, F16⟩ := q12
  show Go k _ _ _ _ _ _ [.ref r15]
  refine Go.areturn C d14_11 (nb rfl) (nb rfl) rfl rfl [] nx ?_
  exact ⟨_, rfl, rfl, F16⟩
theorem rmL2 (hW : W0 Z a0) (h : Heap) (dec fb a : Addr) (q0 q1 q2 x0 x1 : Int32) (V : Av Z h a .byte [.int (o_sym q0), .int (o_sym q1), .int (o_sym q2), .int 61]) (hSD : o_SD Z dec fb) (hg0 : o_g2 q0 q1 q2 x0 x1) :
    Con l Z o_EL true y_16 c21 9 (some .int) ⟨0, 0, 0, 0⟩ [] #[.ref dec, .ref a, .int 0, .int 4] h [] (fun v h' os' => v = some (.int 2) ∧ os' = [] ∧ h = h') := by
  refine Con.intro (Ls := #[vr dec, vr a, vi 0, vi 4, su, su, su, su, su]) (by decide +kernel) (o_ew hW) (fun _ => en (by simp [argsToLocals, Value.category])) ?_
  intro k C
  obtain ⟨Sd, Od, Sf, Vf⟩ := id hSD
  refine Go.old C (fun X0 => ?_)
  replace Od := Od.k0 (Keep.ofExt X0)
  obtain ⟨k0, k1, k2, e0, e1⟩ := id hg0
  refine aN C d21_0 rfl <| gF C Od 0 rfl rfl (w_117 hW) d21_1 <| ifeqT C d21_4 (by decide) <| Go.getS C Sf (host := "") (Or.inl (w_119 hW)) Via.refl d21_13 <| Go.astore C d21_16 rfl (Ls' := #[vr dec, vr a, vi 0, vi 4, vr fb, su, su, su, su]) rfl <| ic C 0 d21_18 rfl <| Go.istore C d21_19 (Ls' := #[vr dec, vr a, vi 0, vi 4, vr fb, vi 0, su, su, su]) rfl <| iN C d21_21 rfl <| iN C d21_22 rfl <| Go.isub C d21_23 <| gq 4 rfl <| Go.istore C d21_24 (Ls' := #[vr dec, vr a, vi 0, vi 4, vr fb, vi 0, vi 4, su, su]) rfl <| il C d21_26 rfl <| ifneT C d21_28 (by decide) <| il C d21_33 rfl <| ic C 2 d21_35 rfl <| icmpgeT C d21_36 (by decide) <| aN C d21_66 rfl <| gF C Od 1 rfl rfl (w_120 hW) d21_67 <| ifeqT C d21_70 (by decide) <| aN C d21_141 rfl <| iN C d21_142 rfl <| ic C 1 d21_143 rfl <| Go.isub C d21_144 <| gq 3 rfl <| Go.baload C V 3 (by decide) rfl rfl d21_145 <| Go.bipush C 61 d21_146 rfl <| icmpneF C d21_148 (by decide) ?_
  refine Go.iinc C 1 d21_151 rfl rfl (Ls' := #[vr dec, vr a, vi 0, vi 4, vr fb, vi 1, vi 4, su, su]) rfl <| aN C d21_154 rfl <| iN C d21_155 rfl <| ic C 2 d21_156 rfl <| Go.isub C d21_157 <| gq 2 rfl <| Go.baload C V 2 (by decide) rfl rfl d21_158 <| Go.bipush C 61 d21_159 rfl <| Go.icmpne C d21_161 (fun hc161 => ?_) (fun hc161 => absurd hc161 (o_sym_all k2).2.2.2.2.1)
  refine il C d21_167 rfl <| ifneT C d21_169 (by decide) <| ic C 3 d21_187 rfl <| il C d21_188 rfl <| Go.i2l C d21_190 <| Go.ldcJ C (w_122 hW) d21_191 <| Go.ladd C d21_194 <| Go.ldcJ C (w_123 hW) d21_195 <| Go.ldiv C d21_198 (by decide) <| Go.l2i C d21_199 <| gq 1 rfl <| Go.imul C d21_200 <| gq 3 rfl <| il C d21_201 rfl <| Go.isub C d21_203 <| gq 2 rfl <| Go.ireturn C d21_204 (nb rfl) (nb rfl) (by simp) rfl [] nx ?_
  exact ⟨rfl, rfl, rfl⟩
theorem rmD2 (hW : W0 Z a0) (h : Heap) (dec fb a d : Addr) (q0 q1 q2 x0 x1 : Int32) (V : Av Z h a .byte [.int (o_sym q0), .int (o_sym q1), .int (o_sym q2), .int 61]) (U : Av Z h d .byte [.int 0, .int 0]) (hSD : o_SD Z dec fb) (hg0 : o_g2 q0 q1 q2 x0 x1) (hB0 : o_B x0) (hB1 : o_B x1) (had : a ≠ d) :
    Con l Z o_EL true y_17 c22 11 (some .int) ⟨0, 0, 0, 0⟩ [] #[.ref dec, .ref a, .int 0, .int 4, .ref d] h [d] (fun v h' os' => v = some (.int 2) ∧ os' = [] ∧ Av Z h' d .byte [.int x0, .int x1]) := by
  refine Con.intro (Ls := #[vr dec, vr a, vi 0, vi 4, vr d, su, su, su, su, su, su]) (by decide +kernel) (o_ew hW) (fun _ => en (by simp [argsToLocals, Value.category])) ?_
  intro k C
  obtain ⟨Sd, Od, Sf, Vf⟩ := id hSD
  have ld := Od.lt
  have lf := Vf.lt
  refine Go.ownd C (fun OW => ?_)
  have nd : dec ≠ d := ne_lt ld (OW _ (mi 0 rfl))
  have nf : fb ≠ d := ne_lt lf (OW _ (mi 0 rfl))
  refine Go.old C (fun X0 => ?_)
  replace Od := Od.k0 (Keep.ofExt X0)
  replace Vf := Vf.k0 (Keep.ofExt X0)
  obtain ⟨k0, k1, k2, e0, e1⟩ := id hg0
  refine aN C d22_0 rfl <| gF C Od 0 rfl rfl (w_117 hW) d22_1 <| ifeqT C d22_4 (by decide) <| Go.getS C Sf (host := "") (Or.inl (w_119 hW)) Via.refl d22_13 <| Go.astore C d22_16 rfl (Ls' := #[vr dec, vr a, vi 0, vi 4, vr d, vr fb, su, su, su, su, su]) rfl <| ic C 0 d22_18 rfl <| Go.istore C d22_19 (Ls' := #[vr dec, vr a, vi 0, vi 4, vr d, vr fb, vi 0, su, su, su, su]) rfl <| ic C 0 d22_21 rfl <| Go.istore C d22_22 (Ls' := #[vr dec, vr a, vi 0, vi 4, vr d, vr fb, vi 0, vi 0, su, su, su]) rfl <| Go.bipush C 18 d22_24 rfl <| Go.istore C d22_26 (Ls' := #[vr dec, vr a, vi 0, vi 4, vr d, vr fb, vi 0, vi 0, vi 18, su, su]) rfl <| iN C d22_28 rfl <| iN C d22_29 rfl <| icmpgeF C d22_30 (by decide) <| il C d22_33 rfl <| Go.bipush C 18 d22_35 rfl <| icmpneF C d22_37 (by decide) <| iN C d22_40 rfl <| iN C d22_41 rfl <| ic C 4 d22_42 rfl <| Go.isub C d22_43 <| gq 0 rfl <| icmpgeT C d22_44 (by decide) ?_
  refine iN C d22_90 rfl <| iN C d22_91 rfl <| icmpltT C d22_92 (by decide) <| aN C d22_98 rfl <| iN C d22_99 rfl <| Go.iinc C 1 d22_100 rfl rfl (Ls' := #[vr dec, vr a, vi 1, vi 4, vr d, vr fb, vi 0, vi 0, vi 18, su, su]) rfl <| Go.baload C V 0 (by decide) rfl rfl d22_103 <| Go.sipush C 255 d22_104 rfl <| Go.iand C d22_107 <| Go.eqI (x' := (o_sym q0)) (o_sym_all k0).1 <| Go.istore C d22_108 (Ls' := #[vr dec, vr a, vi 1, vi 4, vr d, vr fb, vi 0, vi 0, vi 18, vi (o_sym q0), su]) rfl <| al C d22_110 rfl <| il C d22_112 rfl <| Go.iaload C Vf ((o_sym q0)).toNatClampNeg (o_sym_all k0).2.1 rfl (o_sym_at k0) d22_114 <| Go.dup C d22_115 rfl <| Go.istore C d22_116 (Ls' := #[vr dec, vr a, vi 1, vi 4, vr d, vr fb, vi 0, vi 0, vi 18, vi q0, su]) rfl <| Go.ifge C d22_118 (fun hc118 => ?_) (fun hc118 => absurd hc118 k0.1)
  refine il C d22_214 rfl <| il C d22_216 rfl <| il C d22_218 rfl <| Go.ishl C d22_220 <| Go.ior C d22_221 <| Go.eqI (x' := (q0 <<< ((18 : Int32) &&& 31))) (o_or0 _) <| Go.istore C d22_222 (Ls' := #[vr dec, vr a, vi 1, vi 4, vr d, vr fb, vi 0, vi (q0 <<< ((18 : Int32) &&& 31)), vi 18, vi q0, su]) rfl <| Go.iinc C 12 d22_224 rfl (by  decide) (Ls' := #[vr dec, vr a, vi 1, vi 4, vr d, vr fb, vi 0, vi (q0 <<< ((18 : Int32) &&& 31)), vi 12, vi q0, su]) rfl <| il C d22_227 rfl <| ifgeT C d22_229 (by decide) <| Go.goto C d22_278 <| iN C d22_28 rfl <| iN C d22_29 rfl <| icmpgeF C d22_30 (by decide) <| il C d22_33 rfl <| Go.bipush C 18 d22_35 rfl <| icmpneT C d22_37 (by decide) <| iN C d22_90 rfl <| iN C d22_91 rfl <| icmpltT C d22_92 (by decide) <| aN C d22_98 rfl <| iN C d22_99 rfl <| Go.iinc C 2 d22_100 rfl rfl (Ls' := #[vr dec, vr a, vi 2, vi 4, vr d, vr fb, vi 0, vi (q0 <<< ((18 : Int32) &&& 31)), vi 12, vi q0, su]) rfl ?_
  refine Go.baload C V 1 (by decide) rfl rfl d22_103 <| Go.sipush C 255 d22_104 rfl <| Go.iand C d22_107 <| Go.eqI (x' := (o_sym q1)) (o_sym_all k1).1 <| Go.istore C d22_108 (Ls' := #[vr dec, vr a, vi 2, vi 4, vr d, vr fb, vi 0, vi (q0 <<< ((18 : Int32) &&& 31)), vi 12, vi (o_sym q1), su]) rfl <| al C d22_110 rfl <| il C d22_112 rfl <| Go.iaload C Vf ((o_sym q1)).toNatClampNeg (o_sym_all k1).2.1 rfl (o_sym_at k1) d22_114 <| Go.dup C d22_115 rfl <| Go.istore C d22_116 (Ls' := #[vr dec, vr a, vi 2, vi 4, vr d, vr fb, vi 0, vi (q0 <<< ((18 : Int32) &&& 31)), vi 12, vi q1, su]) rfl <| Go.ifge C d22_118 (fun hc118 => ?_) (fun hc118 => absurd hc118 k1.1)
  refine il C d22_214 rfl <| il C d22_216 rfl <| il C d22_218 rfl <| Go.ishl C d22_220 <| Go.ior C d22_221 <| Go.eqI (x' := (o_w2 q0 q1)) rfl <| Go.istore C d22_222 (Ls' := #[vr dec, vr a, vi 2, vi 4, vr d, vr fb, vi 0, vi (o_w2 q0 q1), vi 12, vi q1, su]) rfl <| Go.iinc C 6 d22_224 rfl (by  decide) (Ls' := #[vr dec, vr a, vi 2, vi 4, vr d, vr fb, vi 0, vi (o_w2 q0 q1), vi 6, vi q1, su]) rfl <| il C d22_227 rfl <| ifgeT C d22_229 (by decide) <| Go.goto C d22_278 <| iN C d22_28 rfl <| iN C d22_29 rfl <| icmpgeF C d22_30 (by decide) <| il C d22_33 rfl <| Go.bipush C 18 d22_35 rfl <| icmpneT C d22_37 (by decide) <| iN C d22_90 rfl <| iN C d22_91 rfl <| icmpltT C d22_92 (by decide) <| aN C d22_98 rfl <| iN C d22_99 rfl <| Go.iinc C 3 d22_100 rfl rfl (Ls' := #[vr dec, vr a, vi 3, vi 4, vr d, vr fb, vi 0, vi (o_w2 q0 q1), vi 6, vi q1, su]) rfl <| Go.baload C V 2 (by decide) rfl rfl d22_103 ?_
  refine Go.sipush C 255 d22_104 rfl <| Go.iand C d22_107 <| Go.eqI (x' := (o_sym q2)) (o_sym_all k2).1 <| Go.istore C d22_108 (Ls' := #[vr dec, vr a, vi 3, vi 4, vr d, vr fb, vi 0, vi (o_w2 q0 q1), vi 6, vi (o_sym q2), su]) rfl <| al C d22_110 rfl <| il C d22_112 rfl <| Go.iaload C Vf ((o_sym q2)).toNatClampNeg (o_sym_all k2).2.1 rfl (o_sym_at k2) d22_114 <| Go.dup C d22_115 rfl <| Go.istore C d22_116 (Ls' := #[vr dec, vr a, vi 3, vi 4, vr d, vr fb, vi 0, vi (o_w2 q0 q1), vi 6, vi q2, su]) rfl <| Go.ifge C d22_118 (fun hc118 => ?_) (fun hc118 => absurd hc118 k2.1)
  refine il C d22_214 rfl <| il C d22_216 rfl <| il C d22_218 rfl <| Go.ishl C d22_220 <| Go.ior C d22_221 <| Go.eqI (x' := (o_w3 q0 q1 q2)) rfl <| Go.istore C d22_222 (Ls' := #[vr dec, vr a, vi 3, vi 4, vr d, vr fb, vi 0, vi (o_w3 q0 q1 q2), vi 6, vi q2, su]) rfl <| Go.iinc C 0 d22_224 rfl (by  decide) (Ls' := #[vr dec, vr a, vi 3, vi 4, vr d, vr fb, vi 0, vi (o_w3 q0 q1 q2), vi 0, vi q2, su]) rfl <| il C d22_227 rfl <| ifgeT C d22_229 (by decide) <| Go.goto C d22_278 <| iN C d22_28 rfl <| iN C d22_29 rfl <| icmpgeF C d22_30 (by decide) <| il C d22_33 rfl <| Go.bipush C 18 d22_35 rfl <| icmpneT C d22_37 (by decide) <| iN C d22_90 rfl <| iN C d22_91 rfl <| icmpltT C d22_92 (by decide) <| aN C d22_98 rfl <| iN C d22_99 rfl <| Go.iinc C 4 d22_100 rfl rfl (Ls' := #[vr dec, vr a, vi 4, vi 4, vr d, vr fb, vi 0, vi (o_w3 q0 q1 q2), vi 0, vi q2, su]) rfl <| Go.baload C V 3 (by decide) rfl rfl d22_103 ?_
  refine Go.sipush C 255 d22_104 rfl <| Go.iand C d22_107 <| gq 61 rfl <| Go.istore C d22_108 (Ls' := #[vr dec, vr a, vi 4, vi 4, vr d, vr fb, vi 0, vi (o_w3 q0 q1 q2), vi 0, vi 61, su]) rfl <| al C d22_110 rfl <| il C d22_112 rfl <| Go.iaload C Vf 61 (by decide) rfl rfl d22_114 <| Go.dup C d22_115 rfl <| Go.istore C d22_116 (Ls' := #[vr dec, vr a, vi 4, vi 4, vr d, vr fb, vi 0, vi (o_w3 q0 q1 q2), vi 0, vi (-2), su]) rfl <| ifgeF C d22_118 (by decide) <| il C d22_121 rfl <| Go.bipush C (-2) d22_123 (by decide) <| icmpneF C d22_125 (by decide) <| il C d22_128 rfl <| Go.bipush C 6 d22_130 rfl <| icmpneT C d22_132 (by decide) <| il C d22_151 rfl <| Go.bipush C 18 d22_153 rfl <| icmpneT C d22_155 (by decide) <| il C d22_281 rfl <| Go.bipush C 6 d22_283 rfl <| icmpneT C d22_285 (by decide) <| il C d22_305 rfl <| ifneF C d22_307 (by decide) <| al C d22_310 rfl <| il C d22_312 rfl <| Go.iinc C 1 d22_314 rfl rfl (Ls' := #[vr dec, vr a, vi 4, vi 4, vr d, vr fb, vi 1, vi (o_w3 q0 q1 q2), vi 0, vi (-2), su]) rfl ?_
  refine il C d22_317 rfl <| Go.bipush C 16 d22_319 rfl <| Go.ishr C d22_321 <| Go.i2b C d22_322 <| gq x0 e0 <| Go.bastore C U (mi 0 rfl) 0 (by decide) rfl (nb rfl) (x' := x0) (o_B_nar hB0) (vs' := [.int x0, .int 0]) rfl d22_323 (fun h1 K2 U => ?_)
  refine al C d22_324 rfl <| il C d22_326 rfl <| Go.iinc C 2 d22_328 rfl rfl (Ls' := #[vr dec, vr a, vi 4, vi 4, vr d, vr fb, vi 2, vi (o_w3 q0 q1 q2), vi 0, vi (-2), su]) rfl <| il C d22_331 rfl <| Go.bipush C 8 d22_333 rfl <| Go.ishr C d22_335 <| Go.i2b C d22_336 <| gq x1 e1 <| Go.bastore C U (mi 0 rfl) 1 (by decide) rfl (nb rfl) (x' := x1) (o_B_nar hB1) (vs' := [.int x0, .int x1]) rfl d22_337 (fun h3 K4 U => ?_)
  refine Go.goto C d22_338 <| iN C d22_358 rfl <| iN C d22_359 rfl <| icmpgeT C d22_360 (by decide) <| il C d22_416 rfl <| Go.ireturn C d22_418 (nb rfl) (nb rfl) (by simp) rfl [] nx ?_
  exact ⟨rfl, rfl, U⟩
theorem rmE2 (hW : W0 Z a0) (h : Heap) (dec fb a : Addr) (q0 q1 q2 x0 x1 : Int32) (V : Av Z h a .byte [.int (o_sym q0), .int (o_sym q1), .int (o_sym q2), .int 61]) (hSD : o_SD Z dec fb) (hg0 : o_g2 q0 q1 q2 x0 x1) (hB0 : o_B x0) (hB1 : o_B x1) :
    Con l Z o_EL true y_18 c20 4 (some (.array .byte)) ⟨2, 1, 2, 66⟩ [] #[.ref dec, .ref a] h [] (fun v h' os' => ∃ r : Addr, v = some (.ref r) ∧ os' = [] ∧ Av Z h' r .byte [.int x0, .int x1]) := by
  refine Con.intro (Ls := #[vr dec, vr a, su, su]) (by decide +kernel) (o_ew hW) (fun _ => en (by simp [argsToLocals, Value.category])) ?_
  intro k C
  obtain ⟨Sd, Od, Sf, Vf⟩ := id hSD
  refine Go.old C (fun X0 => ?_)
  replace Od := Od.k0 (Keep.ofExt X0)
  refine aN C d20_0 rfl <| aN C d20_1 rfl <| ic C 0 d20_2 rfl <| aN C d20_3 rfl <| Go.arraylength C V (4 : Int32) rfl d20_4 <| Go.callP C (z := y_16) (a := dec) (argsL := [.ref a, .int 0, .int 4]) (rmL2 hW h dec fb a q0 q1 q2 x0 x1 V hSD hg0) Od.1 (w_112 hW) (w_113 hW) (w_115 hW) (w_114 hW) (w_68 hW) (w_116 hW) d20_5 pd_9 rfl (by decide) rfl (st := []) rfl (by decide) (nb rfl) (by decide) (by decide) nx (fun _ _ _ q4 _ _ => ?_)
  obtain ⟨rfl, rfl, rfl⟩ := q4
  show Go k _ _ _ _ _ _ [.int 2]
  refine Go.newarray C (aty := .byte) (w_31 hW) d20_8 (by decide) 2 rfl (cap := 2) (by decide) (by decide) (by decide) (by decide) (fun b7 h8 e9 K10 A11 => ?_)
  have A11 : Av Z h8 b7 .byte [.int 0, .int 0] := A11
  have n_a_b7 : a ≠ b7 := ne_lt V.lt (ge_of e9)
  replace V := V.k0 K10
  replace Od := Od.k0 K10
  refine Go.astoreN C d20_10 rfl (Ls' := #[vr dec, vr a, vr b7, su]) rfl <| aN C d20_11 rfl <| aN C d20_12 rfl <| ic C 0 d20_13 rfl <| aN C d20_14 rfl <| Go.arraylength C V (4 : Int32) rfl d20_15 <| aN C d20_16 rfl <| Go.callP C (z := y_17) (a := dec) (argsL := [.ref a, .int 0, .int 4, .ref b7]) (rmD2 hW h8 dec fb a b7 q0 q1 q2 x0 x1 V A11 hSD hg0 hB0 hB1 n_a_b7) Od.1 (w_124 hW) (w_125 hW) (w_127 hW) (w_126 hW) (w_68 hW) (w_128 hW) d20_17 pd_10 rfl (by decide) rfl (st := []) rfl (by decide) (nb rfl) (by decide) (by decide) (fm ⟨(mi 0 rfl), nx⟩) (fun _ _ _ q15 _ _ => ?_)
  obtain ⟨rfl, rfl, F18⟩ := q15
  show Go k _ _ _ _ _ _ [.int 2]
  refine Go.istoreN C d20_20 (Ls' := #[vr dec, vr a, vr b7, vi 2]) rfl <| iN C d20_21 rfl <| aN C d20_22 rfl <| Go.arraylength C F18 (2 : Int32) rfl d20_23 <| icmpeqT C d20_24 (by decide) <| aN C d20_33 rfl <| Go.areturn C d20_34 (nb rfl) (nb rfl) rfl rfl [] nx ?_
  exact ⟨_, rfl, rfl, F18⟩
theorem rmT2 (hW : W0 Z a0) (h : Heap) (dec fb iso utf y t : Addr) (q0 q1 q2 x0 x1 : Int32) (S : Str Z h y t [(o_sym q0), (o_sym q1), (o_sym q2), (61 : Int32)]) (hSD : o_SD Z dec fb) (hSC : o_SC Z iso utf) (hg0 : o_g2 q0 q1 q2 x0 x1) (hB0 : o_B x0) (hB1 : o_B x1) :
    Con l Z o_EL true y_19 c14 2 (some (.array .byte)) ⟨5, 2, 14, 105⟩ [] #[.ref dec, .ref y] h [] (fun v h' os' => ∃ r : Addr, v = some (.ref r) ∧ os' = [] ∧ Av Z h' r .byte [.int x0, .int x1]) := by
  refine Con.intro (Ls := #[vr dec, vr y]) (by decide +kernel) (o_ew hW) (fun _ => en (by simp [argsToLocals, Value.category])) ?_
  intro k C
  obtain ⟨Sd, Od, Sf, Vf⟩ := id hSD
  refine Go.old C (fun X0 => ?_)
  replace Od := Od.k0 (Keep.ofExt X0)
  obtain ⟨Si, -⟩ := id hSC
  refine aN C d14_0 rfl <| aN C d14_1 rfl <| Go.getS C Si (host := "") (Or.inl (w_74 hW)) Via.refl d14_2 <| Go.callV C (z := y_15) (zr := y_15) (a := y) (argsL := [.ref iso]) (rm15 hW h y t ([(o_sym q0), (o_sym q1), (o_sym q2), (61 : Int32)]) iso utf S (nb rfl) hSC) S.exa (w_76 hW) (w_77 hW) (fun hz => notFace_of_selects (args := #[]) (mvT hz (w_79 hW))) (w_79 hW) (w_78 hW) (w_15 hW) (w_80 hW) d14_5 pd_11 rfl (by decide) rfl (st := [.ref dec]) rfl (by decide) (nb rfl) (by decide) (by decide) nx (fun _ h2 _ q4 K5 _ => ?_)
  obtain ⟨r7, rfl, rfl, F8⟩ := q4
  replace Od := Od.k0 K5
  show Go k _ _ _ _ _ _ [.ref r7, .ref dec]
  have F8 : Av Z h2 r7 .byte [.int (o_sym q0), .int (o_sym q1), .int (o_sym q2), .int 61] := F8
  refine Go.callV C (z := y_18) (zr := y_18) (a := dec) (argsL := [.ref r7]) (rmE2 hW h2 dec fb r7 q0 q1 q2 x0 x1 F8 hSD hg0 hB0 hB1) Od.1 (w_107 hW) (w_108 hW) (fun hz => notFace_of_selects (args := #[]) (mvT hz (w_110 hW))) (w_110 hW) (w_109 hW) (w_68 hW) (w_111 hW) d14_8 pd_12 rfl (by decide) rfl (st := []) rfl (by decide) (nb rfl) (by decide) (by decide) nx (fun _ _ _ q12 _ _ => ?_)
  obtain ⟨r15, rfl, rfl, F16⟩ := q12
  show Go k _ _ _ _ _ _ [.ref r15]
  refine Go.areturn C d14_11 (nb rfl) (nb rfl) rfl rfl [] nx ?_
  exact ⟨_, rfl, rfl, F16⟩
theorem rmL3 (hW : W0 Z a0) (h : Heap) (dec fb a : Addr) (q0 q1 q2 q3 x0 x1 x2 : Int32) (V : Av Z h a .byte [.int (o_sym q0), .int (o_sym q1), .int (o_sym q2), .int (o_sym q3)]) (hSD : o_SD Z dec fb) (hg0 : o_g3 q0 q1 q2 q3 x0 x1 x2) :
    Con l Z o_EL true y_16 c21 9 (some .int) ⟨0, 0, 0, 0⟩ [] #[.ref dec, .ref a, .int 0, .int 4] h [] (fun v h' os' => v = some (.int 3) ∧ os' = [] ∧ h = h') := by
  refine Con.intro (Ls := #[vr dec, vr a, vi 0, vi 4, su, su, su, su, su]) (by decide +kernel) (o_ew hW) (fun _ => en (by simp [argsToLocals, Value.category])) ?_
  intro k C
  obtain ⟨Sd, Od, Sf, Vf⟩ := id hSD
  refine Go.old C (fun X0 => ?_)
  replace Od := Od.k0 (Keep.ofExt X0)
  obtain ⟨k0, k1, k2, k3, e0, e1, e2⟩ := id hg0
  refine aN C d21_0 rfl <| gF C Od 0 rfl rfl (w_117 hW) d21_1 <| ifeqT C d21_4 (by decide) <| Go.getS C Sf (host := "") (Or.inl (w_119 hW)) Via.refl d21_13 <| Go.astore C d21_16 rfl (Ls' := #[vr dec, vr a, vi 0, vi 4, vr fb, su, su, su, su]) rfl <| ic C 0 d21_18 rfl <| Go.istore C d21_19 (Ls' := #[vr dec, vr a, vi 0, vi 4, vr fb, vi 0, su, su, su]) rfl <| iN C d21_21 rfl <| iN C d21_22 rfl <| Go.isub C d21_23 <| gq 4 rfl <| Go.istore C d21_24 (Ls' := #[vr dec, vr a, vi 0, vi 4, vr fb, vi 0, vi 4, su, su]) rfl <| il C d21_26 rfl <| ifneT C d21_28 (by decide) <| il C d21_33 rfl <| ic C 2 d21_35 rfl <| icmpgeT C d21_36 (by decide) <| aN C d21_66 rfl <| gF C Od 1 rfl rfl (w_120 hW) d21_67 <| ifeqT C d21_70 (by decide) <| aN C d21_141 rfl <| iN C d21_142 rfl <| ic C 1 d21_143 rfl <| Go.isub C d21_144 <| gq 3 rfl <| Go.baload C V 3 (by decide) rfl rfl d21_145 <| Go.bipush C 61 d21_146 rfl <| Go.icmpne C d21_148 (fun hc148 => ?_) (fun hc148 => absurd hc148 (o_sym_all k3).2.2.2.2.1)
  refine il C d21_167 rfl <| ifneF C d21_169 (by decide) <| il C d21_172 rfl <| ic C 3 d21_174 rfl <| Go.iand C d21_175 <| gq 0 rfl <| ifeqT C d21_176 (by decide) <| ic C 3 d21_187 rfl <| il C d21_188 rfl <| Go.i2l C d21_190 <| Go.ldcJ C (w_122 hW) d21_191 <| Go.ladd C d21_194 <| Go.ldcJ C (w_123 hW) d21_195 <| Go.ldiv C d21_198 (by decide) <| Go.l2i C d21_199 <| gq 1 rfl <| Go.imul C d21_200 <| gq 3 rfl <| il C d21_201 rfl <| Go.isub C d21_203 <| gq 3 rfl <| Go.ireturn C d21_204 (nb rfl) (nb rfl) (by simp) rfl [] nx ?_
  exact ⟨rfl, rfl, rfl⟩
theorem rmD3 (hW : W0 Z a0) (h : Heap) (dec fb a d : Addr) (q0 q1 q2 q3 x0 x1 x2 : Int32) (V : Av Z h a .byte [.int (o_sym q0), .int (o_sym q1), .int (o_sym q2), .int (o_sym q3)]) (U : Av Z h d .byte [.int 0, .int 0, .int 0]) (hSD : o_SD Z dec fb) (hg0 : o_g3 q0 q1 q2 q3 x0 x1 x2) (hB0 : o_B x0) (hB1 : o_B x1) (hB2 : o_B x2) (had : a ≠ d) :
    Con l Z o_EL true y_17 c22 11 (some .int) ⟨0, 0, 0, 0⟩ [] #[.ref dec, .ref a, .int 0, .int 4, .ref d] h [d] (fun v h' os' => v = some (.int 3) ∧ os' = [] ∧ Av Z h' d .byte [.int x0, .int x1, .int x2]) := by
  refine Con.intro (Ls := #[vr dec, vr a, vi 0, vi 4, vr d, su, su, su, su, su, su]) (by decide +kernel) (o_ew hW) (fun _ => en (by simp [argsToLocals, Value.category])) ?_
  intro k C
  obtain ⟨Sd, Od, Sf, Vf⟩ := id hSD
  have ld := Od.lt
  have lf := Vf.lt
  refine Go.ownd C (fun OW => ?_)
  have nd : dec ≠ d := ne_lt ld (OW _ (mi 0 rfl))
  have nf : fb ≠ d := ne_lt lf (OW _ (mi 0 rfl))
  refine Go.old C (fun X0 => ?_)
  replace Od := Od.k0 (Keep.ofExt X0)
  replace Vf := Vf.k0 (Keep.ofExt X0)
  obtain ⟨k0, k1, k2, k3, e0, e1, e2⟩ := id hg0
  refine aN C d22_0 rfl <| gF C Od 0 rfl rfl (w_117 hW) d22_1 <| ifeqT C d22_4 (by decide) <| Go.getS C Sf (host := "") (Or.inl (w_119 hW)) Via.refl d22_13 <| Go.astore C d22_16 rfl (Ls' := #[vr dec, vr a, vi 0, vi 4, vr d, vr fb, su, su, su, su, su]) rfl <| ic C 0 d22_18 rfl <| Go.istore C d22_19 (Ls' := #[vr dec, vr a, vi 0, vi 4, vr d, vr fb, vi 0, su, su, su, su]) rfl <| ic C 0 d22_21 rfl <| Go.istore C d22_22 (Ls' := #[vr dec, vr a, vi 0, vi 4, vr d, vr fb, vi 0, vi 0, su, su, su]) rfl <| Go.bipush C 18 d22_24 rfl <| Go.istore C d22_26 (Ls' := #[vr dec, vr a, vi 0, vi 4, vr d, vr fb, vi 0, vi 0, vi 18, su, su]) rfl <| iN C d22_28 rfl <| iN C d22_29 rfl <| icmpgeF C d22_30 (by decide) <| il C d22_33 rfl <| Go.bipush C 18 d22_35 rfl <| icmpneF C d22_37 (by decide) <| iN C d22_40 rfl <| iN C d22_41 rfl <| ic C 4 d22_42 rfl <| Go.isub C d22_43 <| gq 0 rfl <| icmpgeT C d22_44 (by decide) ?_
  refine iN C d22_90 rfl <| iN C d22_91 rfl <| icmpltT C d22_92 (by decide) <| aN C d22_98 rfl <| iN C d22_99 rfl <| Go.iinc C 1 d22_100 rfl rfl (Ls' := #[vr dec, vr a, vi 1, vi 4, vr d, vr fb, vi 0, vi 0, vi 18, su, su]) rfl <| Go.baload C V 0 (by decide) rfl rfl d22_103 <| Go.sipush C 255 d22_104 rfl <| Go.iand C d22_107 <| Go.eqI (x' := (o_sym q0)) (o_sym_all k0).1 <| Go.istore C d22_108 (Ls' := #[vr dec, vr a, vi 1, vi 4, vr d, vr fb, vi 0, vi 0, vi 18, vi (o_sym q0), su]) rfl <| al C d22_110 rfl <| il C d22_112 rfl <| Go.iaload C Vf ((o_sym q0)).toNatClampNeg (o_sym_all k0).2.1 rfl (o_sym_at k0) d22_114 <| Go.dup C d22_115 rfl <| Go.istore C d22_116 (Ls' := #[vr dec, vr a, vi 1, vi 4, vr d, vr fb, vi 0, vi 0, vi 18, vi q0, su]) rfl <| Go.ifge C d22_118 (fun hc118 => ?_) (fun hc118 => absurd hc118 k0.1)
  refine il C d22_214 rfl <| il C d22_216 rfl <| il C d22_218 rfl <| Go.ishl C d22_220 <| Go.ior C d22_221 <| Go.eqI (x' := (q0 <<< ((18 : Int32) &&& 31))) (o_or0 _) <| Go.istore C d22_222 (Ls' := #[vr dec, vr a, vi 1, vi 4, vr d, vr fb, vi 0, vi (q0 <<< ((18 : Int32) &&& 31)), vi 18, vi q0, su]) rfl <| Go.iinc C 12 d22_224 rfl (by  decide) (Ls' := #[vr dec, vr a, vi 1, vi 4, vr d, vr fb, vi 0, vi (q0 <<< ((18 : Int32) &&& 31)), vi 12, vi q0, su]) rfl <| il C d22_227 rfl <| ifgeT C d22_229 (by decide) <| Go.goto C d22_278 <| iN C d22_28 rfl <| iN C d22_29 rfl <| icmpgeF C d22_30 (by decide) <| il C d22_33 rfl <| Go.bipush C 18 d22_35 rfl <| icmpneT C d22_37 (by decide) <| iN C d22_90 rfl <| iN C d22_91 rfl <| icmpltT C d22_92 (by decide) <| aN C d22_98 rfl <| iN C d22_99 rfl <| Go.iinc C 2 d22_100 rfl rfl (Ls' := #[vr dec, vr a, vi 2, vi 4, vr d, vr fb, vi 0, vi (q0 <<< ((18 : Int32) &&& 31)), vi 12, vi q0, su]) rfl ?_
  refine Go.baload C V 1 (by decide) rfl rfl d22_103 <| Go.sipush C 255 d22_104 rfl <| Go.iand C d22_107 <| Go.eqI (x' := (o_sym q1)) (o_sym_all k1).1 <| Go.istore C d22_108 (Ls' := #[vr dec, vr a, vi 2, vi 4, vr d, vr fb, vi 0, vi (q0 <<< ((18 : Int32) &&& 31)), vi 12, vi (o_sym q1), su]) rfl <| al C d22_110 rfl <| il C d22_112 rfl <| Go.iaload C Vf ((o_sym q1)).toNatClampNeg (o_sym_all k1).2.1 rfl (o_sym_at k1) d22_114 <| Go.dup C d22_115 rfl <| Go.istore C d22_116 (Ls' := #[vr dec, vr a, vi 2, vi 4, vr d, vr fb, vi 0, vi (q0 <<< ((18 : Int32) &&& 31)), vi 12, vi q1, su]) rfl <| Go.ifge C d22_118 (fun hc118 => ?_) (fun hc118 => absurd hc118 k1.1)
  refine il C d22_214 rfl <| il C d22_216 rfl <| il C d22_218 rfl <| Go.ishl C d22_220 <| Go.ior C d22_221 <| Go.eqI (x' := (o_w2 q0 q1)) rfl <| Go.istore C d22_222 (Ls' := #[vr dec, vr a, vi 2, vi 4, vr d, vr fb, vi 0, vi (o_w2 q0 q1), vi 12, vi q1, su]) rfl <| Go.iinc C 6 d22_224 rfl (by  decide) (Ls' := #[vr dec, vr a, vi 2, vi 4, vr d, vr fb, vi 0, vi (o_w2 q0 q1), vi 6, vi q1, su]) rfl <| il C d22_227 rfl <| ifgeT C d22_229 (by decide) <| Go.goto C d22_278 <| iN C d22_28 rfl <| iN C d22_29 rfl <| icmpgeF C d22_30 (by decide) <| il C d22_33 rfl <| Go.bipush C 18 d22_35 rfl <| icmpneT C d22_37 (by decide) <| iN C d22_90 rfl <| iN C d22_91 rfl <| icmpltT C d22_92 (by decide) <| aN C d22_98 rfl <| iN C d22_99 rfl <| Go.iinc C 3 d22_100 rfl rfl (Ls' := #[vr dec, vr a, vi 3, vi 4, vr d, vr fb, vi 0, vi (o_w2 q0 q1), vi 6, vi q1, su]) rfl <| Go.baload C V 2 (by decide) rfl rfl d22_103 ?_
  refine Go.sipush C 255 d22_104 rfl <| Go.iand C d22_107 <| Go.eqI (x' := (o_sym q2)) (o_sym_all k2).1 <| Go.istore C d22_108 (Ls' := #[vr dec, vr a, vi 3, vi 4, vr d, vr fb, vi 0, vi (o_w2 q0 q1), vi 6, vi (o_sym q2), su]) rfl <| al C d22_110 rfl <| il C d22_112 rfl <| Go.iaload C Vf ((o_sym q2)).toNatClampNeg (o_sym_all k2).2.1 rfl (o_sym_at k2) d22_114 <| Go.dup C d22_115 rfl <| Go.istore C d22_116 (Ls' := #[vr dec, vr a, vi 3, vi 4, vr d, vr fb, vi 0, vi (o_w2 q0 q1), vi 6, vi q2, su]) rfl <| Go.ifge C d22_118 (fun hc118 => ?_) (fun hc118 => absurd hc118 k2.1)
  refine il C d22_214 rfl <| il C d22_216 rfl <| il C d22_218 rfl <| Go.ishl C d22_220 <| Go.ior C d22_221 <| Go.eqI (x' := (o_w3 q0 q1 q2)) rfl <| Go.istore C d22_222 (Ls' := #[vr dec, vr a, vi 3, vi 4, vr d, vr fb, vi 0, vi (o_w3 q0 q1 q2), vi 6, vi q2, su]) rfl <| Go.iinc C 0 d22_224 rfl (by  decide) (Ls' := #[vr dec, vr a, vi 3, vi 4, vr d, vr fb, vi 0, vi (o_w3 q0 q1 q2), vi 0, vi q2, su]) rfl <| il C d22_227 rfl <| ifgeT C d22_229 (by decide) <| Go.goto C d22_278 <| iN C d22_28 rfl <| iN C d22_29 rfl <| icmpgeF C d22_30 (by decide) <| il C d22_33 rfl <| Go.bipush C 18 d22_35 rfl <| icmpneT C d22_37 (by decide) <| iN C d22_90 rfl <| iN C d22_91 rfl <| icmpltT C d22_92 (by decide) <| aN C d22_98 rfl <| iN C d22_99 rfl <| Go.iinc C 4 d22_100 rfl rfl (Ls' := #[vr dec, vr a, vi 4, vi 4, vr d, vr fb, vi 0, vi (o_w3 q0 q1 q2), vi 0, vi q2, su]) rfl <| Go.baload C V 3 (by decide) rfl rfl d22_103 ?_
  refine Go.sipush C 255 d22_104 rfl <| Go.iand C d22_107 <| Go.eqI (x' := (o_sym q3)) (o_sym_all k3).1 <| Go.istore C d22_108 (Ls' := #[vr dec, vr a, vi 4, vi 4, vr d, vr fb, vi 0, vi (o_w3 q0 q1 q2), vi 0, vi (o_sym q3), su]) rfl <| al C d22_110 rfl <| il C d22_112 rfl <| Go.iaload C Vf ((o_sym q3)).toNatClampNeg (o_sym_all k3).2.1 rfl (o_sym_at k3) d22_114 <| Go.dup C d22_115 rfl <| Go.istore C d22_116 (Ls' := #[vr dec, vr a, vi 4, vi 4, vr d, vr fb, vi 0, vi (o_w3 q0 q1 q2), vi 0, vi q3, su]) rfl <| Go.ifge C d22_118 (fun hc118 => ?_) (fun hc118 => absurd hc118 k3.1)
  refine il C d22_214 rfl <| il C d22_216 rfl <| il C d22_218 rfl <| Go.ishl C d22_220 <| gq q3 (o_shl0 _) <| Go.ior C d22_221 <| Go.eqI (x' := (o_w4 q0 q1 q2 q3)) rfl <| Go.istore C d22_222 (Ls' := #[vr dec, vr a, vi 4, vi 4, vr d, vr fb, vi 0, vi (o_w4 q0 q1 q2 q3), vi 0, vi q3, su]) rfl <| Go.iinc C (-6) d22_224 rfl (by  decide) (Ls' := #[vr dec, vr a, vi 4, vi 4, vr d, vr fb, vi 0, vi (o_w4 q0 q1 q2 q3), vi (-6), vi q3, su]) rfl <| il C d22_227 rfl <| ifgeF C d22_229 (by decide) <| al C d22_232 rfl <| il C d22_234 rfl <| Go.iinc C 1 d22_236 rfl rfl (Ls' := #[vr dec, vr a, vi 4, vi 4, vr d, vr fb, vi 1, vi (o_w4 q0 q1 q2 q3), vi (-6), vi q3, su]) rfl <| il C d22_239 rfl <| Go.bipush C 16 d22_241 rfl <| Go.ishr C d22_243 <| Go.i2b C d22_244 <| gq x0 e0 <| Go.bastore C U (mi 0 rfl) 0 (by decide) rfl (nb rfl) (x' := x0) (o_B_nar hB0) (vs' := [.int x0, .int 0, .int 0]) rfl d22_245 (fun h1 K2 U => ?_)
  refine al C d22_246 rfl <| il C d22_248 rfl <| Go.iinc C 2 d22_250 rfl rfl (Ls' := #[vr dec, vr a, vi 4, vi 4, vr d, vr fb, vi 2, vi (o_w4 q0 q1 q2 q3), vi (-6), vi q3, su]) rfl <| il C d22_253 rfl <| Go.bipush C 8 d22_255 rfl <| Go.ishr C d22_257 <| Go.i2b C d22_258 <| gq x1 e1 <| Go.bastore C U (mi 0 rfl) 1 (by decide) rfl (nb rfl) (x' := x1) (o_B_nar hB1) (vs' := [.int x0, .int x1, .int 0]) rfl d22_259 (fun h3 K4 U => ?_)
  refine al C d22_260 rfl <| il C d22_262 rfl <| Go.iinc C 3 d22_264 rfl rfl (Ls' := #[vr dec, vr a, vi 4, vi 4, vr d, vr fb, vi 3, vi (o_w4 q0 q1 q2 q3), vi (-6), vi q3, su]) rfl <| il C d22_267 rfl <| Go.i2b C d22_269 <| gq x2 e2 <| Go.bastore C U (mi 0 rfl) 2 (by decide) rfl (nb rfl) (x' := x2) (o_B_nar hB2) (vs' := [.int x0, .int x1, .int x2]) rfl d22_270 (fun h5 K6 U => ?_)
  refine Go.bipush C 18 d22_271 rfl <| Go.istore C d22_273 (Ls' := #[vr dec, vr a, vi 4, vi 4, vr d, vr fb, vi 3, vi (o_w4 q0 q1 q2 q3), vi 18, vi q3, su]) rfl <| ic C 0 d22_275 rfl <| Go.istore C d22_276 (Ls' := #[vr dec, vr a, vi 4, vi 4, vr d, vr fb, vi 3, vi 0, vi 18, vi q3, su]) rfl <| Go.goto C d22_278 <| iN C d22_28 rfl <| iN C d22_29 rfl <| icmpgeT C d22_30 (by decide) <| il C d22_281 rfl <| Go.bipush C 6 d22_283 rfl <| icmpneT C d22_285 (by decide) <| il C d22_305 rfl <| ifneT C d22_307 (by decide) <| il C d22_341 rfl <| Go.bipush C 12 d22_343 rfl <| icmpneT C d22_345 (by decide) <| iN C d22_358 rfl <| iN C d22_359 rfl <| icmpgeT C d22_360 (by decide) <| il C d22_416 rfl <| Go.ireturn C d22_418 (nb rfl) (nb rfl) (by simp) rfl [] nx ?_
  exact ⟨rfl, rfl, U⟩
theorem rmE3 (hW : W0 Z a0) (h : Heap) (dec fb a : Addr) (q0 q1 q2 q3 x0 x1 x2 : Int32) (V : Av Z h a .byte [.int (o_sym q0), .int (o_sym q1), .int (o_sym q2), .int (o_sym q3)]) (hSD : o_SD Z dec fb) (hg0 : o_g3 q0 q1 q2 q3 x0 x1 x2) (hB0 : o_B x0) (hB1 : o_B x1) (hB2 : o_B x2) :
    Con l Z o_EL true y_18 c20 4 (some (.array .byte)) ⟨2, 1, 3, 66⟩ [] #[.ref dec, .ref a] h [] (fun v h' os' => ∃ r : Addr, v = some (.ref r) ∧ os' = [] ∧ Av Z h' r .byte [.int x0, .int x1, .int x2]) := by
  refine Con.intro (Ls := #[vr dec, vr a, su, su]) (by decide +kernel) (o_ew hW) (fun _ => en (by simp [argsToLocals, Value.category])) ?_
  intro k C
  obtain ⟨Sd, Od, Sf, Vf⟩ := id hSD
  refine Go.old C (fun X0 => ?_)
  replace Od := Od.k0 (Keep.ofExt X0)
  refine aN C d20_0 rfl <| aN C d20_1 rfl <| ic C 0 d20_2 rfl <| aN C d20_3 rfl <| Go.arraylength C V (4 : Int32) rfl d20_4 <| Go.callP C (z := y_16) (a := dec) (argsL := [.ref a, .int 0, .int 4]) (rmL3 hW h dec fb a q0 q1 q2 q3 x0 x1 x2 V hSD hg0) Od.1 (w_112 hW) (w_113 hW) (w_115 hW) (w_114 hW) (w_68 hW) (w_116 hW) d20_5 pd_9 rfl (by decide) rfl (st := []) rfl (by decide) (nb rfl) (by decide) (by decide) nx (fun _ _ _ q4 _ _ => ?_)
  obtain ⟨rfl, rfl, rfl⟩ := q4
  show Go k _ _ _ _ _ _ [.int 3]
  refine Go.newarray C (aty := .byte) (w_31 hW) d20_8 (by decide) 3 rfl (cap := 3) (by decide) (by decide) (by decide) (by decide) (fun b7 h8 e9 K10 A11 => ?_)
  have A11 : Av Z h8 b7 .byte [.int 0, .int 0, .int 0] := A11
  have n_a_b7 : a ≠ b7 := ne_lt V.lt (ge_of e9)
  replace V := V.k0 K10
  replace Od := Od.k0 K10
  refine Go.astoreN C d20_10 rfl (Ls' := #[vr dec, vr a, vr b7, su]) rfl <| aN C d20_11 rfl <| aN C d20_12 rfl <| ic C 0 d20_13 rfl <| aN C d20_14 rfl <| Go.arraylength C V (4 : Int32) rfl d20_15 <| aN C d20_16 rfl <| Go.callP C (z := y_17) (a := dec) (argsL := [.ref a, .int 0, .int 4, .ref b7]) (rmD3 hW h8 dec fb a b7 q0 q1 q2 q3 x0 x1 x2 V A11 hSD hg0 hB0 hB1 hB2 n_a_b7) Od.1 (w_124 hW) (w_125 hW) (w_127 hW) (w_126 hW) (w_68 hW) (w_128 hW) d20_17 pd_10 rfl (by decide) rfl (st := []) rfl (by decide) (nb rfl) (by decide) (by decide) (fm ⟨(mi 0 rfl), nx⟩) (fun _ _ _ q15 _ _ => ?_)
  obtain ⟨rfl, rfl, F18⟩ := q15
  show Go k _ _ _ _ _ _ [.int 3]
  refine Go.istoreN C d20_20 (Ls' := #[vr dec, vr a, vr b7, vi 3]) rfl <| iN C d20_21 rfl <| aN C d20_22 rfl <| Go.arraylength C F18 (3 : Int32) rfl d20_23 <| icmpeqT C d20_24 (by decide) <| aN C d20_33 rfl <| Go.areturn C d20_34 (nb rfl) (nb rfl) rfl rfl [] nx ?_
  exact ⟨_, rfl, rfl, F18⟩
theorem rmT3 (hW : W0 Z a0) (h : Heap) (dec fb iso utf y t : Addr) (q0 q1 q2 q3 x0 x1 x2 : Int32) (S : Str Z h y t [(o_sym q0), (o_sym q1), (o_sym q2), (o_sym q3)]) (hSD : o_SD Z dec fb) (hSC : o_SC Z iso utf) (hg0 : o_g3 q0 q1 q2 q3 x0 x1 x2) (hB0 : o_B x0) (hB1 : o_B x1) (hB2 : o_B x2) :
    Con l Z o_EL true y_19 c14 2 (some (.array .byte)) ⟨5, 2, 14, 105⟩ [] #[.ref dec, .ref y] h [] (fun v h' os' => ∃ r : Addr, v = some (.ref r) ∧ os' = [] ∧ Av Z h' r .byte [.int x0, .int x1, .int x2]) := by
  refine Con.intro (Ls := #[vr dec, vr y]) (by decide +kernel) (o_ew hW) (fun _ => en (by simp [argsToLocals, Value.category])) ?_
  intro k C
  obtain ⟨Sd, Od, Sf, Vf⟩ := id hSD
  refine Go.old C (fun X0 => ?_)
  replace Od := Od.k0 (Keep.ofExt X0)
  obtain ⟨Si, -⟩ := id hSC
  refine aN C d14_0 rfl <| aN C d14_1 rfl <| Go.getS C Si (host := "") (Or.inl (w_74 hW)) Via.refl d14_2 <| Go.callV C (z := y_15) (zr := y_15) (a := y) (argsL := [.ref iso]) (rm15 hW h y t ([(o_sym q0), (o_sym q1), (o_sym q2), (o_sym q3)]) iso utf S (nb rfl) hSC) S.exa (w_76 hW) (w_77 hW) (fun hz => notFace_of_selects (args := #[]) (mvT hz (w_79 hW))) (w_79 hW) (w_78 hW) (w_15 hW) (w_80 hW) d14_5 pd_11 rfl (by decide) rfl (st := [.ref dec]) rfl (by decide) (nb rfl) (by decide) (by decide) nx (fun _ h2 _ q4 K5 _ => ?_)
  obtain ⟨r7, rfl, rfl, F8⟩ := q4
  replace Od := Od.k0 K5
  show Go k _ _ _ _ _ _ [.ref r7, .ref dec]
  have F8 : Av Z h2 r7 .byte [.int (o_sym q0), .int (o_sym q1), .int (o_sym q2), .int (o_sym q3)] := F8
  refine Go.callV C (z := y_18) (zr := y_18) (a := dec) (argsL := [.ref r7]) (rmE3 hW h2 dec fb r7 q0 q1 q2 q3 x0 x1 x2 F8 hSD hg0 hB0 hB1 hB2) Od.1 (w_107 hW) (w_108 hW) (fun hz => notFace_of_selects (args := #[]) (mvT hz (w_110 hW))) (w_110 hW) (w_109 hW) (w_68 hW) (w_111 hW) d14_8 pd_12 rfl (by decide) rfl (st := []) rfl (by decide) (nb rfl) (by decide) (by decide) nx (fun _ _ _ q12 _ _ => ?_)
  obtain ⟨r15, rfl, rfl, F16⟩ := q12
  show Go k _ _ _ _ _ _ [.ref r15]
  refine Go.areturn C d14_11 (nb rfl) (nb rfl) rfl rfl [] nx ?_
  exact ⟨_, rfl, rfl, F16⟩
theorem rmL4 (hW : W0 Z a0) (h : Heap) (dec fb a : Addr) (q0 q1 q2 q3 q4 q5 x0 x1 x2 x3 : Int32) (V : Av Z h a .byte [.int (o_sym q0), .int (o_sym q1), .int (o_sym q2), .int (o_sym q3), .int (o_sym q4), .int (o_sym q5), .int 61, .int 61]) (hSD : o_SD Z dec fb) (hg0 : o_g3 q0 q1 q2 q3 x0 x1 x2) (hg1 : o_g1 q4 q5 x3) :
    Con l Z o_EL true y_16 c21 9 (some .int) ⟨0, 0, 0, 0⟩ [] #[.ref dec, .ref a, .int 0, .int 8] h [] (fun v h' os' => v = some (.int 4) ∧ os' = [] ∧ h = h') := by
  refine Con.intro (Ls := #[vr dec, vr a, vi 0, vi 8, su, su, su, su, su]) (by decide +kernel) (o_ew hW) (fun _ => en (by simp [argsToLocals, Value.category])) ?_
  intro k C
  obtain ⟨Sd, Od, Sf, Vf⟩ := id hSD
  refine Go.old C (fun X0 => ?_)
  replace Od := Od.k0 (Keep.ofExt X0)
  obtain ⟨k0, k1, k2, k3, e0, e1, e2⟩ := id hg0
  obtain ⟨k4, k5, e3⟩ := id hg1
  refine aN C d21_0 rfl <| gF C Od 0 rfl rfl (w_117 hW) d21_1 <| ifeqT C d21_4 (by decide) <| Go.getS C Sf (host := "") (Or.inl (w_119 hW)) Via.refl d21_13 <| Go.astore C d21_16 rfl (Ls' := #[vr dec, vr a, vi 0, vi 8, vr fb, su, su, su, su]) rfl <| ic C 0 d21_18 rfl <| Go.istore C d21_19 (Ls' := #[vr dec, vr a, vi 0, vi 8, vr fb, vi 0, su, su, su]) rfl <| iN C d21_21 rfl <| iN C d21_22 rfl <| Go.isub C d21_23 <| gq 8 rfl <| Go.istore C d21_24 (Ls' := #[vr dec, vr a, vi 0, vi 8, vr fb, vi 0, vi 8, su, su]) rfl <| il C d21_26 rfl <| ifneT C d21_28 (by decide) <| il C d21_33 rfl <| ic C 2 d21_35 rfl <| icmpgeT C d21_36 (by decide) <| aN C d21_66 rfl <| gF C Od 1 rfl rfl (w_120 hW) d21_67 <| ifeqT C d21_70 (by decide) <| aN C d21_141 rfl <| iN C d21_142 rfl <| ic C 1 d21_143 rfl <| Go.isub C d21_144 <| gq 7 rfl <| Go.baload C V 7 (by decide) rfl rfl d21_145 <| Go.bipush C 61 d21_146 rfl <| icmpneF C d21_148 (by decide) ?_
  refine Go.iinc C 1 d21_151 rfl rfl (Ls' := #[vr dec, vr a, vi 0, vi 8, vr fb, vi 1, vi 8, su, su]) rfl <| aN C d21_154 rfl <| iN C d21_155 rfl <| ic C 2 d21_156 rfl <| Go.isub C d21_157 <| gq 6 rfl <| Go.baload C V 6 (by decide) rfl rfl d21_158 <| Go.bipush C 61 d21_159 rfl <| icmpneF C d21_161 (by decide) <| Go.iinc C 2 d21_164 rfl rfl (Ls' := #[vr dec, vr a, vi 0, vi 8, vr fb, vi 2, vi 8, su, su]) rfl <| il C d21_167 rfl <| ifneT C d21_169 (by decide) <| ic C 3 d21_187 rfl <| il C d21_188 rfl <| Go.i2l C d21_190 <| Go.ldcJ C (w_122 hW) d21_191 <| Go.ladd C d21_194 <| Go.ldcJ C (w_123 hW) d21_195 <| Go.ldiv C d21_198 (by decide) <| Go.l2i C d21_199 <| gq 2 rfl <| Go.imul C d21_200 <| gq 6 rfl <| il C d21_201 rfl <| Go.isub C d21_203 <| gq 4 rfl <| Go.ireturn C d21_204 (nb rfl) (nb rfl) (by simp) rfl [] nx ?_
  exact ⟨rfl, rfl, rfl⟩
theorem rmB4 (hW : W0 Z a0) (h : Heap) (dec fb a d : Addr) (q0 q1 q2 q3 q4 q5 x0 x1 x2 x3 : Int32) (V : Av Z h a .byte [.int (o_sym q0), .int (o_sym q1), .int (o_sym q2), .int (o_sym q3), .int (o_sym q4), .int (o_sym q5), .int 61, .int 61]) (U : Av Z h d .byte [.int 0, .int 0, .int 0, .int 0]) (hSD : o_SD Z dec fb) (hg0 : o_g3 q0 q1 q2 q3 x0 x1 x2) (hg1 : o_g1 q4 q5 x3) (hB0 : o_B x0) (hB1 : o_B x1) (hB2 : o_B x2) (hB3 : o_B x3) (had : a ≠ d) :
    Con l Z o_EL true y_20 c41 16 (some .int) ⟨0, 0, 0, 0⟩ [] #[.ref dec, .ref a, .int 0, .int 8, .ref d, .int 0, .int 0, .int 0] h [d] (fun v h' os' => v = some (.int 3) ∧ os' = [] ∧ Av Z h' d .byte [.int x0, .int x1, .int x2, .int 0]) := by
  refine Con.intro (Ls := #[vr dec, vr a, vi 0, vi 8, vr d, vi 0, vi 0, vi 0, su, su, su, su, su, su, su, su]) (by decide +kernel) (o_ew hW) (fun _ => en (by simp [argsToLocals, Value.category])) ?_
  intro k C
  obtain ⟨Sd, Od, Sf, Vf⟩ := id hSD
  have ld := Od.lt
  have lf := Vf.lt
  refine Go.ownd C (fun OW => ?_)
  have nd : dec ≠ d := ne_lt ld (OW _ (mi 0 rfl))
  have nf : fb ≠ d := ne_lt lf (OW _ (mi 0 rfl))
  refine Go.old C (fun X0 => ?_)
  replace Vf := Vf.k0 (Keep.ofExt X0)
  obtain ⟨k0, k1, k2, k3, e0, e1, e2⟩ := id hg0
  obtain ⟨k4, k5, e3⟩ := id hg1
  refine il C d41_0 rfl <| ifeqT C d41_2 (by decide) <| Go.getS C Sf (host := "") (Or.inl (w_119 hW)) Via.refl d41_11 <| Go.astore C d41_14 rfl (Ls' := #[vr dec, vr a, vi 0, vi 8, vr d, vi 0, vi 0, vi 0, vr fb, su, su, su, su, su, su, su]) rfl <| iN C d41_16 rfl <| iN C d41_17 rfl <| iN C d41_18 rfl <| Go.isub C d41_19 <| gq 8 rfl <| Go.bipush C (-4) d41_20 (by decide) <| Go.iand C d41_22 <| gq 8 (by  decide) <| Go.iadd C d41_23 <| gq 8 rfl <| Go.istore C d41_24 (Ls' := #[vr dec, vr a, vi 0, vi 8, vr d, vi 0, vi 0, vi 0, vr fb, vi 8, su, su, su, su, su, su]) rfl <| il C d41_26 rfl <| Go.istore C d41_28 (Ls' := #[vr dec, vr a, vi 0, vi 8, vr d, vi 0, vi 0, vi 0, vr fb, vi 8, vi 0, su, su, su, su, su]) rfl <| iN C d41_30 rfl <| il C d41_31 rfl <| icmpgeF C d41_33 (by decide) <| al C d41_36 rfl <| aN C d41_38 rfl <| iN C d41_39 rfl <| Go.iinc C 1 d41_40 rfl rfl (Ls' := #[vr dec, vr a, vi 1, vi 8, vr d, vi 0, vi 0, vi 0, vr fb, vi 8, vi 0, su, su, su, su, su]) rfl ?_
  refine Go.baload C V 0 (by decide) rfl rfl d41_43 <| Go.sipush C 255 d41_44 rfl <| Go.iand C d41_47 <| Go.eqI (x' := (o_sym q0)) (o_sym_all k0).1 <| Go.iaload C Vf ((o_sym q0)).toNatClampNeg (o_sym_all k0).2.1 rfl (o_sym_at k0) d41_48 <| Go.istore C d41_49 (Ls' := #[vr dec, vr a, vi 1, vi 8, vr d, vi 0, vi 0, vi 0, vr fb, vi 8, vi 0, vi q0, su, su, su, su]) rfl <| al C d41_51 rfl <| aN C d41_53 rfl <| iN C d41_54 rfl <| Go.iinc C 2 d41_55 rfl rfl (Ls' := #[vr dec, vr a, vi 2, vi 8, vr d, vi 0, vi 0, vi 0, vr fb, vi 8, vi 0, vi q0, su, su, su, su]) rfl <| Go.baload C V 1 (by decide) rfl rfl d41_58 <| Go.sipush C 255 d41_59 rfl <| Go.iand C d41_62 <| Go.eqI (x' := (o_sym q1)) (o_sym_all k1).1 <| Go.iaload C Vf ((o_sym q1)).toNatClampNeg (o_sym_all k1).2.1 rfl (o_sym_at k1) d41_63 <| Go.istore C d41_64 (Ls' := #[vr dec, vr a, vi 2, vi 8, vr d, vi 0, vi 0, vi 0, vr fb, vi 8, vi 0, vi q0, vi q1, su, su, su]) rfl ?_
  refine al C d41_66 rfl <| aN C d41_68 rfl <| iN C d41_69 rfl <| Go.iinc C 3 d41_70 rfl rfl (Ls' := #[vr dec, vr a, vi 3, vi 8, vr d, vi 0, vi 0, vi 0, vr fb, vi 8, vi 0, vi q0, vi q1, su, su, su]) rfl <| Go.baload C V 2 (by decide) rfl rfl d41_73 <| Go.sipush C 255 d41_74 rfl <| Go.iand C d41_77 <| Go.eqI (x' := (o_sym q2)) (o_sym_all k2).1 <| Go.iaload C Vf ((o_sym q2)).toNatClampNeg (o_sym_all k2).2.1 rfl (o_sym_at k2) d41_78 <| Go.istore C d41_79 (Ls' := #[vr dec, vr a, vi 3, vi 8, vr d, vi 0, vi 0, vi 0, vr fb, vi 8, vi 0, vi q0, vi q1, vi q2, su, su]) rfl <| al C d41_81 rfl <| aN C d41_83 rfl <| iN C d41_84 rfl <| Go.iinc C 4 d41_85 rfl rfl (Ls' := #[vr dec, vr a, vi 4, vi 8, vr d, vi 0, vi 0, vi 0, vr fb, vi 8, vi 0, vi q0, vi q1, vi q2, su, su]) rfl <| Go.baload C V 3 (by decide) rfl rfl d41_88 <| Go.sipush C 255 d41_89 rfl <| Go.iand C d41_92 <| Go.eqI (x' := (o_sym q3)) (o_sym_all k3).1 ?_
  refine Go.iaload C Vf ((o_sym q3)).toNatClampNeg (o_sym_all k3).2.1 rfl (o_sym_at k3) d41_93 <| Go.istore C d41_94 (Ls' := #[vr dec, vr a, vi 4, vi 8, vr d, vi 0, vi 0, vi 0, vr fb, vi 8, vi 0, vi q0, vi q1, vi q2, vi q3, su]) rfl <| il C d41_96 rfl <| il C d41_98 rfl <| Go.ior C d41_100 <| il C d41_101 rfl <| Go.ior C d41_103 <| il C d41_104 rfl <| Go.ior C d41_106 <| Go.ifge C d41_107 (fun hc107 => ?_) (fun hc107 => absurd hc107 (o_or4 k0 k1 k2 k3))
  refine il C d41_116 rfl <| Go.bipush C 18 d41_118 rfl <| Go.ishl C d41_120 <| il C d41_121 rfl <| Go.bipush C 12 d41_123 rfl <| Go.ishl C d41_125 <| Go.ior C d41_126 <| Go.eqI (x' := (o_w2 q0 q1)) rfl <| il C d41_127 rfl <| Go.bipush C 6 d41_129 rfl <| Go.ishl C d41_131 <| Go.ior C d41_132 <| Go.eqI (x' := (o_w3 q0 q1 q2)) rfl <| il C d41_133 rfl <| Go.ior C d41_135 <| Go.eqI (x' := (o_w4 q0 q1 q2 q3)) rfl <| Go.istore C d41_136 (Ls' := #[vr dec, vr a, vi 4, vi 8, vr d, vi 0, vi 0, vi 0, vr fb, vi 8, vi 0, vi q0, vi q1, vi q2, vi q3, vi (o_w4 q0 q1 q2 q3)]) rfl <| al C d41_138 rfl <| il C d41_140 rfl <| Go.iinc C 1 d41_142 rfl rfl (Ls' := #[vr dec, vr a, vi 4, vi 8, vr d, vi 0, vi 0, vi 0, vr fb, vi 8, vi 1, vi q0, vi q1, vi q2, vi q3, vi (o_w4 q0 q1 q2 q3)]) rfl <| il C d41_145 rfl <| Go.bipush C 16 d41_147 rfl <| Go.ishr C d41_149 <| Go.i2b C d41_150 <| gq x0 e0 <| Go.bastore C U (mi 0 rfl) 0 (by decide) rfl (nb rfl) (x' := x0) (o_B_nar hB0) (vs' := [.int x0, .int 0, .int 0, .int 0]) rfl d41_151 (fun h1 K2 U => ?_)
  replace V := V.keep K2 (ninS had nin0)
  replace Vf := Vf.keep K2 (ninS nf nin0)
  refine al C d41_152 rfl <| il C d41_154 rfl <| Go.iinc C 2 d41_156 rfl rfl (Ls' := #[vr dec, vr a, vi 4, vi 8, vr d, vi 0, vi 0, vi 0, vr fb, vi 8, vi 2, vi q0, vi q1, vi q2, vi q3, vi (o_w4 q0 q1 q2 q3)]) rfl <| il C d41_159 rfl <| Go.bipush C 8 d41_161 rfl <| Go.ishr C d41_163 <| Go.i2b C d41_164 <| gq x1 e1 <| Go.bastore C U (mi 0 rfl) 1 (by decide) rfl (nb rfl) (x' := x1) (o_B_nar hB1) (vs' := [.int x0, .int x1, .int 0, .int 0]) rfl d41_165 (fun h3 K4 U => ?_)
  replace V := V.keep K4 (ninS had nin0)
  replace Vf := Vf.keep K4 (ninS nf nin0)
  refine al C d41_166 rfl <| il C d41_168 rfl <| Go.iinc C 3 d41_170 rfl rfl (Ls' := #[vr dec, vr a, vi 4, vi 8, vr d, vi 0, vi 0, vi 0, vr fb, vi 8, vi 3, vi q0, vi q1, vi q2, vi q3, vi (o_w4 q0 q1 q2 q3)]) rfl <| il C d41_173 rfl <| Go.i2b C d41_175 <| gq x2 e2 <| Go.bastore C U (mi 0 rfl) 2 (by decide) rfl (nb rfl) (x' := x2) (o_B_nar hB2) (vs' := [.int x0, .int x1, .int x2, .int 0]) rfl d41_176 (fun h5 K6 U => ?_)
  replace V := V.keep K6 (ninS had nin0)
  replace Vf := Vf.keep K6 (ninS nf nin0)
  refine Go.goto C d41_177 <| iN C d41_30 rfl <| il C d41_31 rfl <| icmpgeF C d41_33 (by decide) <| al C d41_36 rfl <| aN C d41_38 rfl <| iN C d41_39 rfl <| Go.iinc C 5 d41_40 rfl rfl (Ls' := #[vr dec, vr a, vi 5, vi 8, vr d, vi 0, vi 0, vi 0, vr fb, vi 8, vi 3, vi q0, vi q1, vi q2, vi q3, vi (o_w4 q0 q1 q2 q3)]) rfl <| Go.baload C V 4 (by decide) rfl rfl d41_43 <| Go.sipush C 255 d41_44 rfl <| Go.iand C d41_47 <| Go.eqI (x' := (o_sym q4)) (o_sym_all k4).1 <| Go.iaload C Vf ((o_sym q4)).toNatClampNeg (o_sym_all k4).2.1 rfl (o_sym_at k4) d41_48 <| Go.istore C d41_49 (Ls' := #[vr dec, vr a, vi 5, vi 8, vr d, vi 0, vi 0, vi 0, vr fb, vi 8, vi 3, vi q4, vi q1, vi q2, vi q3, vi (o_w4 q0 q1 q2 q3)]) rfl <| al C d41_51 rfl <| aN C d41_53 rfl <| iN C d41_54 rfl <| Go.iinc C 6 d41_55 rfl rfl (Ls' := #[vr dec, vr a, vi 6, vi 8, vr d, vi 0, vi 0, vi 0, vr fb, vi 8, vi 3, vi q4, vi q1, vi q2, vi q3, vi (o_w4 q0 q1 q2 q3)]) rfl ?_
  refine Go.baload C V 5 (by decide) rfl rfl d41_58 <| Go.sipush C 255 d41_59 rfl <| Go.iand C d41_62 <| Go.eqI (x' := (o_sym q5)) (o_sym_all k5).1 <| Go.iaload C Vf ((o_sym q5)).toNatClampNeg (o_sym_all k5).2.1 rfl (o_sym_at k5) d41_63 <| Go.istore C d41_64 (Ls' := #[vr dec, vr a, vi 6, vi 8, vr d, vi 0, vi 0, vi 0, vr fb, vi 8, vi 3, vi q4, vi q5, vi q2, vi q3, vi (o_w4 q0 q1 q2 q3)]) rfl <| al C d41_66 rfl <| aN C d41_68 rfl <| iN C d41_69 rfl <| Go.iinc C 7 d41_70 rfl rfl (Ls' := #[vr dec, vr a, vi 7, vi 8, vr d, vi 0, vi 0, vi 0, vr fb, vi 8, vi 3, vi q4, vi q5, vi q2, vi q3, vi (o_w4 q0 q1 q2 q3)]) rfl <| Go.baload C V 6 (by decide) rfl rfl d41_73 <| Go.sipush C 255 d41_74 rfl <| Go.iand C d41_77 <| gq 61 rfl <| Go.iaload C Vf 61 (by decide) rfl rfl d41_78 <| Go.istore C d41_79 (Ls' := #[vr dec, vr a, vi 7, vi 8, vr d, vi 0, vi 0, vi 0, vr fb, vi 8, vi 3, vi q4, vi q5, vi (-2), vi q3, vi (o_w4 q0 q1 q2 q3)]) rfl ?_
  refine al C d41_81 rfl <| aN C d41_83 rfl <| iN C d41_84 rfl <| Go.iinc C 8 d41_85 rfl rfl (Ls' := #[vr dec, vr a, vi 8, vi 8, vr d, vi 0, vi 0, vi 0, vr fb, vi 8, vi 3, vi q4, vi q5, vi (-2), vi q3, vi (o_w4 q0 q1 q2 q3)]) rfl <| Go.baload C V 7 (by decide) rfl rfl d41_88 <| Go.sipush C 255 d41_89 rfl <| Go.iand C d41_92 <| gq 61 rfl <| Go.iaload C Vf 61 (by decide) rfl rfl d41_93 <| Go.istore C d41_94 (Ls' := #[vr dec, vr a, vi 8, vi 8, vr d, vi 0, vi 0, vi 0, vr fb, vi 8, vi 3, vi q4, vi q5, vi (-2), vi (-2), vi (o_w4 q0 q1 q2 q3)]) rfl <| il C d41_96 rfl <| il C d41_98 rfl <| Go.ior C d41_100 <| il C d41_101 rfl <| Go.ior C d41_103 <| il C d41_104 rfl <| Go.ior C d41_106 <| Go.ifge C d41_107 (fun hc107 => absurd (o_orn (by decide)) hc107) (fun hc107 => ?_)
  refine il C d41_110 rfl <| il C d41_112 rfl <| Go.isub C d41_114 <| gq 3 rfl <| Go.ireturn C d41_115 (nb rfl) (nb rfl) (by simp) rfl [] nx ?_
  exact ⟨rfl, rfl, U⟩
theorem rmD4 (hW : W0 Z a0) (h : Heap) (dec fb a d : Addr) (q0 q1 q2 q3 q4 q5 x0 x1 x2 x3 : Int32) (V : Av Z h a .byte [.int (o_sym q0), .int (o_sym q1), .int (o_sym q2), .int (o_sym q3), .int (o_sym q4), .int (o_sym q5), .int 61, .int 61]) (U : Av Z h d .byte [.int 0, .int 0, .int 0, .int 0]) (hSD : o_SD Z dec fb) (hg0 : o_g3 q0 q1 q2 q3 x0 x1 x2) (hg1 : o_g1 q4 q5 x3) (hB0 : o_B x0) (hB1 : o_B x1) (hB2 : o_B x2) (hB3 : o_B x3) (had : a ≠ d) :
    Con l Z o_EL true y_17 c22 11 (some .int) ⟨1, 0, 0, 40⟩ [] #[.ref dec, .ref a, .int 0, .int 8, .ref d] h [d] (fun v h' os' => v = some (.int 4) ∧ os' = [] ∧ Av Z h' d .byte [.int x0, .int x1, .int x2, .int x3]) := by
  refine Con.intro (Ls := #[vr dec, vr a, vi 0, vi 8, vr d, su, su, su, su, su, su]) (by decide +kernel) (o_ew hW) (fun _ => en (by simp [argsToLocals, Value.category])) ?_
  intro k C
  obtain ⟨Sd, Od, Sf, Vf⟩ := id hSD
  have ld := Od.lt
  have lf := Vf.lt
  refine Go.ownd C (fun OW => ?_)
  have nd : dec ≠ d := ne_lt ld (OW _ (mi 0 rfl))
  have nf : fb ≠ d := ne_lt lf (OW _ (mi 0 rfl))
  refine Go.old C (fun X0 => ?_)
  replace Od := Od.k0 (Keep.ofExt X0)
  replace Vf := Vf.k0 (Keep.ofExt X0)
  obtain ⟨k0, k1, k2, k3, e0, e1, e2⟩ := id hg0
  obtain ⟨k4, k5, e3⟩ := id hg1
  refine aN C d22_0 rfl <| gF C Od 0 rfl rfl (w_117 hW) d22_1 <| ifeqT C d22_4 (by decide) <| Go.getS C Sf (host := "") (Or.inl (w_119 hW)) Via.refl d22_13 <| Go.astore C d22_16 rfl (Ls' := #[vr dec, vr a, vi 0, vi 8, vr d, vr fb, su, su, su, su, su]) rfl <| ic C 0 d22_18 rfl <| Go.istore C d22_19 (Ls' := #[vr dec, vr a, vi 0, vi 8, vr d, vr fb, vi 0, su, su, su, su]) rfl <| ic C 0 d22_21 rfl <| Go.istore C d22_22 (Ls' := #[vr dec, vr a, vi 0, vi 8, vr d, vr fb, vi 0, vi 0, su, su, su]) rfl <| Go.bipush C 18 d22_24 rfl <| Go.istore C d22_26 (Ls' := #[vr dec, vr a, vi 0, vi 8, vr d, vr fb, vi 0, vi 0, vi 18, su, su]) rfl <| iN C d22_28 rfl <| iN C d22_29 rfl <| icmpgeF C d22_30 (by decide) <| il C d22_33 rfl <| Go.bipush C 18 d22_35 rfl <| icmpneF C d22_37 (by decide) <| iN C d22_40 rfl <| iN C d22_41 rfl <| ic C 4 d22_42 rfl <| Go.isub C d22_43 <| gq 4 rfl <| icmpgeF C d22_44 (by decide) ?_
  refine aN C d22_47 rfl <| aN C d22_48 rfl <| iN C d22_49 rfl <| iN C d22_50 rfl <| al C d22_51 rfl <| il C d22_53 rfl <| aN C d22_55 rfl <| gF C Od 0 rfl rfl (w_117 hW) d22_56 <| aN C d22_59 rfl <| gF C Od 1 rfl rfl (w_120 hW) d22_60 <| Go.callP C (z := y_20) (a := dec) (argsL := [.ref a, .int 0, .int 8, .ref d, .int 0, .int 0, .int 0]) (rmB4 hW h dec fb a d q0 q1 q2 q3 q4 q5 x0 x1 x2 x3 V U hSD hg0 hg1 hB0 hB1 hB2 hB3 had) Od.1 (w_237 hW) (w_238 hW) (w_240 hW) (w_239 hW) (w_68 hW) (w_241 hW) d22_63 pd_13 rfl (by decide) rfl (st := []) rfl (by decide) (nb rfl) (by decide) (by decide) (fm ⟨(mi 0 rfl), nx⟩) (fun _ _ _ q4 K5 _ => ?_)
  obtain ⟨rfl, rfl, F7⟩ := q4
  replace V := V.keep K5 (ninS had nin0)
  replace Vf := Vf.keep K5 (ninS nf nin0)
  show Go k _ _ _ _ _ _ [.int 3]
  refine Go.istore C d22_66 (Ls' := #[vr dec, vr a, vi 0, vi 8, vr d, vr fb, vi 0, vi 0, vi 18, vi 3, su]) rfl <| il C d22_68 rfl <| ic C 2 d22_70 rfl <| Go.iadd C d22_71 <| gq 5 rfl <| ic C 3 d22_72 rfl <| Go.idiv C d22_73 (by decide) <| gq 1 rfl <| ic C 4 d22_74 rfl <| Go.imul C d22_75 <| gq 4 rfl <| Go.istore C d22_76 (Ls' := #[vr dec, vr a, vi 0, vi 8, vr d, vr fb, vi 0, vi 0, vi 18, vi 3, vi 4]) rfl <| iN C d22_78 rfl <| il C d22_79 rfl <| Go.iadd C d22_81 <| gq 4 rfl <| Go.istoreN C d22_82 (Ls' := #[vr dec, vr a, vi 4, vi 8, vr d, vr fb, vi 0, vi 0, vi 18, vi 3, vi 4]) rfl <| il C d22_83 rfl <| il C d22_85 rfl <| Go.iadd C d22_87 <| gq 3 rfl <| Go.istore C d22_88 (Ls' := #[vr dec, vr a, vi 4, vi 8, vr d, vr fb, vi 3, vi 0, vi 18, vi 3, vi 4]) rfl <| iN C d22_90 rfl <| iN C d22_91 rfl <| icmpltT C d22_92 (by decide) <| aN C d22_98 rfl <| iN C d22_99 rfl <| Go.iinc C 5 d22_100 rfl rfl (Ls' := #[vr dec, vr a, vi 5, vi 8, vr d, vr fb, vi 3, vi 0, vi 18, vi 3, vi 4]) rfl ?_
  refine Go.baload C V 4 (by decide) rfl rfl d22_103 <| Go.sipush C 255 d22_104 rfl <| Go.iand C d22_107 <| Go.eqI (x' := (o_sym q4)) (o_sym_all k4).1 <| Go.istore C d22_108 (Ls' := #[vr dec, vr a, vi 5, vi 8, vr d, vr fb, vi 3, vi 0, vi 18, vi (o_sym q4), vi 4]) rfl <| al C d22_110 rfl <| il C d22_112 rfl <| Go.iaload C Vf ((o_sym q4)).toNatClampNeg (o_sym_all k4).2.1 rfl (o_sym_at k4) d22_114 <| Go.dup C d22_115 rfl <| Go.istore C d22_116 (Ls' := #[vr dec, vr a, vi 5, vi 8, vr d, vr fb, vi 3, vi 0, vi 18, vi q4, vi 4]) rfl <| Go.ifge C d22_118 (fun hc118 => ?_) (fun hc118 => absurd hc118 k4.1)
  refine il C d22_214 rfl <| il C d22_216 rfl <| il C d22_218 rfl <| Go.ishl C d22_220 <| Go.ior C d22_221 <| Go.eqI (x' := (q4 <<< ((18 : Int32) &&& 31))) (o_or0 _) <| Go.istore C d22_222 (Ls' := #[vr dec, vr a, vi 5, vi 8, vr d, vr fb, vi 3, vi (q4 <<< ((18 : Int32) &&& 31)), vi 18, vi q4, vi 4]) rfl <| Go.iinc C 12 d22_224 rfl (by  decide) (Ls' := #[vr dec, vr a, vi 5, vi 8, vr d, vr fb, vi 3, vi (q4 <<< ((18 : Int32) &&& 31)), vi 12, vi q4, vi 4]) rfl <| il C d22_227 rfl <| ifgeT C d22_229 (by decide) <| Go.goto C d22_278 <| iN C d22_28 rfl <| iN C d22_29 rfl <| icmpgeF C d22_30 (by decide) <| il C d22_33 rfl <| Go.bipush C 18 d22_35 rfl <| icmpneT C d22_37 (by decide) <| iN C d22_90 rfl <| iN C d22_91 rfl <| icmpltT C d22_92 (by decide) <| aN C d22_98 rfl <| iN C d22_99 rfl <| Go.iinc C 6 d22_100 rfl rfl (Ls' := #[vr dec, vr a, vi 6, vi 8, vr d, vr fb, vi 3, vi (q4 <<< ((18 : Int32) &&& 31)), vi 12, vi q4, vi 4]) rfl ?_
  refine Go.baload C V 5 (by decide) rfl rfl d22_103 <| Go.sipush C 255 d22_104 rfl <| Go.iand C d22_107 <| Go.eqI (x' := (o_sym q5)) (o_sym_all k5).1 <| Go.istore C d22_108 (Ls' := #[vr dec, vr a, vi 6, vi 8, vr d, vr fb, vi 3, vi (q4 <<< ((18 : Int32) &&& 31)), vi 12, vi (o_sym q5), vi 4]) rfl <| al C d22_110 rfl <| il C d22_112 rfl <| Go.iaload C Vf ((o_sym q5)).toNatClampNeg (o_sym_all k5).2.1 rfl (o_sym_at k5) d22_114 <| Go.dup C d22_115 rfl <| Go.istore C d22_116 (Ls' := #[vr dec, vr a, vi 6, vi 8, vr d, vr fb, vi 3, vi (q4 <<< ((18 : Int32) &&& 31)), vi 12, vi q5, vi 4]) rfl <| Go.ifge C d22_118 (fun hc118 => ?_) (fun hc118 => absurd hc118 k5.1)
  refine il C d22_214 rfl <| il C d22_216 rfl <| il C d22_218 rfl <| Go.ishl C d22_220 <| Go.ior C d22_221 <| Go.eqI (x' := (o_w2 q4 q5)) rfl <| Go.istore C d22_222 (Ls' := #[vr dec, vr a, vi 6, vi 8, vr d, vr fb, vi 3, vi (o_w2 q4 q5), vi 12, vi q5, vi 4]) rfl <| Go.iinc C 6 d22_224 rfl (by  decide) (Ls' := #[vr dec, vr a, vi 6, vi 8, vr d, vr fb, vi 3, vi (o_w2 q4 q5), vi 6, vi q5, vi 4]) rfl <| il C d22_227 rfl <| ifgeT C d22_229 (by decide) <| Go.goto C d22_278 <| iN C d22_28 rfl <| iN C d22_29 rfl <| icmpgeF C d22_30 (by decide) <| il C d22_33 rfl <| Go.bipush C 18 d22_35 rfl <| icmpneT C d22_37 (by decide) <| iN C d22_90 rfl <| iN C d22_91 rfl <| icmpltT C d22_92 (by decide) <| aN C d22_98 rfl <| iN C d22_99 rfl <| Go.iinc C 7 d22_100 rfl rfl (Ls' := #[vr dec, vr a, vi 7, vi 8, vr d, vr fb, vi 3, vi (o_w2 q4 q5), vi 6, vi q5, vi 4]) rfl <| Go.baload C V 6 (by decide) rfl rfl d22_103 ?_
  refine Go.sipush C 255 d22_104 rfl <| Go.iand C d22_107 <| gq 61 rfl <| Go.istore C d22_108 (Ls' := #[vr dec, vr a, vi 7, vi 8, vr d, vr fb, vi 3, vi (o_w2 q4 q5), vi 6, vi 61, vi 4]) rfl <| al C d22_110 rfl <| il C d22_112 rfl <| Go.iaload C Vf 61 (by decide) rfl rfl d22_114 <| Go.dup C d22_115 rfl <| Go.istore C d22_116 (Ls' := #[vr dec, vr a, vi 7, vi 8, vr d, vr fb, vi 3, vi (o_w2 q4 q5), vi 6, vi (-2), vi 4]) rfl <| ifgeF C d22_118 (by decide) <| il C d22_121 rfl <| Go.bipush C (-2) d22_123 (by decide) <| icmpneF C d22_125 (by decide) <| il C d22_128 rfl <| Go.bipush C 6 d22_130 rfl <| icmpneF C d22_132 (by decide) <| iN C d22_135 rfl <| iN C d22_136 rfl <| icmpeqF C d22_137 (by decide) <| aN C d22_140 rfl <| iN C d22_141 rfl <| Go.iinc C 8 d22_142 rfl rfl (Ls' := #[vr dec, vr a, vi 8, vi 8, vr d, vr fb, vi 3, vi (o_w2 q4 q5), vi 6, vi (-2), vi 4]) rfl <| Go.baload C V 7 (by decide) rfl rfl d22_145 ?_
  refine Go.bipush C 61 d22_146 rfl <| icmpneF C d22_148 (by decide) <| il C d22_151 rfl <| Go.bipush C 18 d22_153 rfl <| icmpneT C d22_155 (by decide) <| il C d22_281 rfl <| Go.bipush C 6 d22_283 rfl <| icmpneF C d22_285 (by decide) <| al C d22_288 rfl <| il C d22_290 rfl <| Go.iinc C 4 d22_292 rfl rfl (Ls' := #[vr dec, vr a, vi 8, vi 8, vr d, vr fb, vi 4, vi (o_w2 q4 q5), vi 6, vi (-2), vi 4]) rfl <| il C d22_295 rfl <| Go.bipush C 16 d22_297 rfl <| Go.ishr C d22_299 <| Go.i2b C d22_300 <| gq x3 e3 <| Go.bastore C F7 (mi 0 rfl) 3 (by decide) rfl (nb rfl) (x' := x3) (o_B_nar hB3) (vs' := [.int x0, .int x1, .int x2, .int x3]) rfl d22_301 (fun _ _ F7 => ?_)
  refine Go.goto C d22_302 <| iN C d22_358 rfl <| iN C d22_359 rfl <| icmpgeT C d22_360 (by decide) <| il C d22_416 rfl <| Go.ireturn C d22_418 (nb rfl) (nb rfl) (by simp) rfl [] nx ?_
  exact ⟨rfl, rfl, F7⟩
theorem rmE4 (hW : W0 Z a0) (h : Heap) (dec fb a : Addr) (q0 q1 q2 q3 q4 q5 x0 x1 x2 x3 : Int32) (V : Av Z h a .byte [.int (o_sym q0), .int (o_sym q1), .int (o_sym q2), .int (o_sym q3), .int (o_sym q4), .int (o_sym q5), .int 61, .int 61]) (hSD : o_SD Z dec fb) (hg0 : o_g3 q0 q1 q2 q3 x0 x1 x2) (hg1 : o_g1 q4 q5 x3) (hB0 : o_B x0) (hB1 : o_B x1) (hB2 : o_B x2) (hB3 : o_B x3) :
    Con l Z o_EL true y_18 c20 4 (some (.array .byte)) ⟨2, 1, 4, 66⟩ [] #[.ref dec, .ref a] h [] (fun v h' os' => ∃ r : Addr, v = some (.ref r) ∧ os' = [] ∧ Av Z h' r .byte [.int x0, .int x1, .int x2, .int x3]) := by
  refine Con.intro (Ls := #[vr dec, vr a, su, su]) (by decide +kernel) (o_ew hW) (fun _ => en (by simp [argsToLocals, Value.category])) ?_
  intro k C
  obtain ⟨Sd, Od, Sf, Vf⟩ := id hSD
  refine Go.old C (fun X0 => ?_)
  replace Od := Od.k0 (Keep.ofExt X0)
  refine aN C d20_0 rfl <| aN C d20_1 rfl <| ic C 0 d20_2 rfl <| aN C d20_3 rfl <| Go.arraylength C V (8 : Int32) rfl d20_4 <| Go.callP C (z := y_16) (a := dec) (argsL := [.ref a, .int 0, .int 8]) (rmL4 hW h dec fb a q0 q1 q2 q3 q4 q5 x0 x1 x2 x3 V hSD hg0 hg1) Od.1 (w_112 hW) (w_113 hW) (w_115 hW) (w_114 hW) (w_68 hW) (w_116 hW) d20_5 pd_9 rfl (by decide) rfl (st := []) rfl (by decide) (nb rfl) (by decide) (by decide) nx (fun _ _ _ q4 _ _ => ?_)
  obtain ⟨rfl, rfl, rfl⟩ := q4
  show Go k _ _ _ _ _ _ [.int 4]
  refine Go.newarray C (aty := .byte) (w_31 hW) d20_8 (by decide) 4 rfl (cap := 4) (by decide) (by decide) (by decide) (by decide) (fun b7 h8 e9 K10 A11 => ?_)
  have A11 : Av Z h8 b7 .byte [.int 0, .int 0, .int 0, .int 0] := A11
  have n_a_b7 : a ≠ b7 := ne_lt V.lt (ge_of e9)
  replace V := V.k0 K10
  replace Od := Od.k0 K10
  refine Go.astoreN C d20_10 rfl (Ls' := #[vr dec, vr a, vr b7, su]) rfl <| aN C d20_11 rfl <| aN C d20_12 rfl <| ic C 0 d20_13 rfl <| aN C d20_14 rfl <| Go.arraylength C V (8 : Int32) rfl d20_15 <| aN C d20_16 rfl <| Go.callP C (z := y_17) (a := dec) (argsL := [.ref a, .int 0, .int 8, .ref b7]) (rmD4 hW h8 dec fb a b7 q0 q1 q2 q3 q4 q5 x0 x1 x2 x3 V A11 hSD hg0 hg1 hB0 hB1 hB2 hB3 n_a_b7) Od.1 (w_124 hW) (w_125 hW) (w_127 hW) (w_126 hW) (w_68 hW) (w_128 hW) d20_17 pd_10 rfl (by decide) rfl (st := []) rfl (by decide) (nb rfl) (by decide) (by decide) (fm ⟨(mi 0 rfl), nx⟩) (fun _ _ _ q15 _ _ => ?_)
  obtain ⟨rfl, rfl, F18⟩ := q15
  show Go k _ _ _ _ _ _ [.int 4]
  refine Go.istoreN C d20_20 (Ls' := #[vr dec, vr a, vr b7, vi 4]) rfl <| iN C d20_21 rfl <| aN C d20_22 rfl <| Go.arraylength C F18 (4 : Int32) rfl d20_23 <| icmpeqT C d20_24 (by decide) <| aN C d20_33 rfl <| Go.areturn C d20_34 (nb rfl) (nb rfl) rfl rfl [] nx ?_
  exact ⟨_, rfl, rfl, F18⟩
theorem rmT4 (hW : W0 Z a0) (h : Heap) (dec fb iso utf y t : Addr) (q0 q1 q2 q3 q4 q5 x0 x1 x2 x3 : Int32) (S : Str Z h y t [(o_sym q0), (o_sym q1), (o_sym q2), (o_sym q3), (o_sym q4), (o_sym q5), (61 : Int32), (61 : Int32)]) (hSD : o_SD Z dec fb) (hSC : o_SC Z iso utf) (hg0 : o_g3 q0 q1 q2 q3 x0 x1 x2) (hg1 : o_g1 q4 q5 x3) (hB0 : o_B x0) (hB1 : o_B x1) (hB2 : o_B x2) (hB3 : o_B x3) :
    Con l Z o_EL true y_19 c14 2 (some (.array .byte)) ⟨5, 2, 14, 105⟩ [] #[.ref dec, .ref y] h [] (fun v h' os' => ∃ r : Addr, v = some (.ref r) ∧ os' = [] ∧ Av Z h' r .byte [.int x0, .int x1, .int x2, .int x3]) := by
  refine Con.intro (Ls := #[vr dec, vr y]) (by decide +kernel) (o_ew hW) (fun _ => en (by simp [argsToLocals, Value.category])) ?_
  intro k C
  obtain ⟨Sd, Od, Sf, Vf⟩ := id hSD
  refine Go.old C (fun X0 => ?_)
  replace Od := Od.k0 (Keep.ofExt X0)
  obtain ⟨Si, -⟩ := id hSC
  refine aN C d14_0 rfl <| aN C d14_1 rfl <| Go.getS C Si (host := "") (Or.inl (w_74 hW)) Via.refl d14_2 <| Go.callV C (z := y_15) (zr := y_15) (a := y) (argsL := [.ref iso]) (rm15 hW h y t ([(o_sym q0), (o_sym q1), (o_sym q2), (o_sym q3), (o_sym q4), (o_sym q5), (61 : Int32), (61 : Int32)]) iso utf S (nb rfl) hSC) S.exa (w_76 hW) (w_77 hW) (fun hz => notFace_of_selects (args := #[]) (mvT hz (w_79 hW))) (w_79 hW) (w_78 hW) (w_15 hW) (w_80 hW) d14_5 pd_11 rfl (by decide) rfl (st := [.ref dec]) rfl (by decide) (nb rfl) (by decide) (by decide) nx (fun _ h2 _ q4 K5 _ => ?_)
  obtain ⟨r7, rfl, rfl, F8⟩ := q4
  replace Od := Od.k0 K5
  show Go k _ _ _ _ _ _ [.ref r7, .ref dec]
  have F8 : Av Z h2 r7 .byte [.int (o_sym q0), .int (o_sym q1), .int (o_sym q2), .int (o_sym q3), .int (o_sym q4), .int (o_sym q5), .int 61, .int 61] := F8
  refine Go.callV C (z := y_18) (zr := y_18) (a := dec) (argsL := [.ref r7]) (rmE4 hW h2 dec fb r7 q0 q1 q2 q3 q4 q5 x0 x1 x2 x3 F8 hSD hg0 hg1 hB0 hB1 hB2 hB3) Od.1 (w_107 hW) (w_108 hW) (fun hz => notFace_of_selects (args := #[]) (mvT hz (w_110 hW))) (w_110 hW) (w_109 hW) (w_68 hW) (w_111 hW) d14_8 pd_12 rfl (by decide) rfl (st := []) rfl (by decide) (nb rfl) (by decide) (by decide) nx (fun _ _ _ q12 _ _ => ?_)
  obtain ⟨r15, rfl, rfl, F16⟩ := q12
  show Go k _ _ _ _ _ _ [.ref r15]
  refine Go.areturn C d14_11 (nb rfl) (nb rfl) rfl rfl [] nx ?_
  exact ⟨_, rfl, rfl, F16⟩
theorem rmL5 (hW : W0 Z a0) (h : Heap) (dec fb a : Addr) (q0 q1 q2 q3 q4 q5 q6 x0 x1 x2 x3 x4 : Int32) (V : Av Z h a .byte [.int (o_sym q0), .int (o_sym q1), .int (o_sym q2), .int (o_sym q3), .int (o_sym q4), .int (o_sym q5), .int (o_sym q6), .int 61]) (hSD : o_SD Z dec fb) (hg0 : o_g3 q0 q1 q2 q3 x0 x1 x2) (hg1 : o_g2 q4 q5 q6 x3 x4) :
    Con l Z o_EL true y_16 c21 9 (some .int) ⟨0, 0, 0, 0⟩ [] #[.ref dec, .ref a, .int 0, .int 8] h [] (fun v h' os' => v = some (.int 5) ∧ os' = [] ∧ h = h') := by
  refine Con.intro (Ls := #[vr dec, vr a, vi 0, vi 8, su, su, su, su, su]) (by decide +kernel) (o_ew hW) (fun _ => en (by simp [argsToLocals, Value.category])) ?_
  intro k C
  obtain ⟨Sd, Od, Sf, Vf⟩ := id hSD
  refine Go.old C (fun X0 => ?_)
  replace Od := Od.k0 (Keep.ofExt X0)
  obtain ⟨k0, k1, k2, k3, e0, e1, e2⟩ := id hg0
  obtain ⟨k4, k5, k6, e3, e4⟩ := id hg1
  refine aN C d21_0 rfl <| gF C Od 0 rfl rfl (w_117 hW) d21_1 <| ifeqT C d21_4 (by decide) <| Go.getS C Sf (host := "") (Or.inl (w_119 hW)) Via.refl d21_13 <| Go.astore C d21_16 rfl (Ls' := #[vr dec, vr a, vi 0, vi 8, vr fb, su, su, su, su]) rfl <| ic C 0 d21_18 rfl <| Go.istore C d21_19 (Ls' := #[vr dec, vr a, vi 0, vi 8, vr fb, vi 0, su, su, su]) rfl <| iN C d21_21 rfl <| iN C d21_22 rfl <| Go.isub C d21_23 <| gq 8 rfl <| Go.istore C d21_24 (Ls' := #[vr dec, vr a, vi 0, vi 8, vr fb, vi 0, vi 8, su, su]) rfl <| il C d21_26 rfl <| ifneT C d21_28 (by decide) <| il C d21_33 rfl <| ic C 2 d21_35 rfl <| icmpgeT C d21_36 (by decide) <| aN C d21_66 rfl <| gF C Od 1 rfl rfl (w_120 hW) d21_67 <| ifeqT C d21_70 (by decide) <| aN C d21_141 rfl <| iN C d21_142 rfl <| ic C 1 d21_143 rfl <| Go.isub C d21_144 <| gq 7 rfl <| Go.baload C V 7 (by decide) rfl rfl d21_145 <| Go.bipush C 61 d21_146 rfl <| icmpneF C d21_148 (by decide) ?_
  refine Go.iinc C 1 d21_151 rfl rfl (Ls' := #[vr dec, vr a, vi 0, vi 8, vr fb, vi 1, vi 8, su, su]) rfl <| aN C d21_154 rfl <| iN C d21_155 rfl <| ic C 2 d21_156 rfl <| Go.isub C d21_157 <| gq 6 rfl <| Go.baload C V 6 (by decide) rfl rfl d21_158 <| Go.bipush C 61 d21_159 rfl <| Go.icmpne C d21_161 (fun hc161 => ?_) (fun hc161 => absurd hc161 (o_sym_all k6).2.2.2.2.1)
  refine il C d21_167 rfl <| ifneT C d21_169 (by decide) <| ic C 3 d21_187 rfl <| il C d21_188 rfl <| Go.i2l C d21_190 <| Go.ldcJ C (w_122 hW) d21_191 <| Go.ladd C d21_194 <| Go.ldcJ C (w_123 hW) d21_195 <| Go.ldiv C d21_198 (by decide) <| Go.l2i C d21_199 <| gq 2 rfl <| Go.imul C d21_200 <| gq 6 rfl <| il C d21_201 rfl <| Go.isub C d21_203 <| gq 5 rfl <| Go.ireturn C d21_204 (nb rfl) (nb rfl) (by simp) rfl [] nx ?_
  exact ⟨rfl, rfl, rfl⟩
theorem rmB5 (hW : W0 Z a0) (h : Heap) (dec fb a d : Addr) (q0 q1 q2 q3 q4 q5 q6 x0 x1 x2 x3 x4 : Int32) (V : Av Z h a .byte [.int (o_sym q0), .int (o_sym q1), .int (o_sym q2), .int (o_sym q3), .int (o_sym q4), .int (o_sym q5), .int (o_sym q6), .int 61]) (U : Av Z h d .byte [.int 0, .int 0, .int 0, .int 0, .int 0]) (hSD : o_SD Z dec fb) (hg0 : o_g3 q0 q1 q2 q3 x0 x1 x2) (hg1 : o_g2 q4 q5 q6 x3 x4) (hB0 : o_B x0) (hB1 : o_B x1) (hB2 : o_B x2) (hB3 : o_B x3) (hB4 : o_B x4) (had : a ≠ d) :
    Con l Z o_EL true y_20 c41 16 (some .int) ⟨0, 0, 0, 0⟩ [] #[.ref dec, .ref a, .int 0, .int 8, .ref d, .int 0, .int 0, .int 0] h [d] (fun v h' os' => v = some (.int 3) ∧ os' = [] ∧ Av Z h' d .byte [.int x0, .int x1, .int x2, .int 0, .int 0]) := by
  refine Con.intro (Ls := #[vr dec, vr a, vi 0, vi 8, vr d, vi 0, vi 0, vi 0, su, su, su, su, su, su, su, su]) (by decide +kernel) (o_ew hW) (fun _ => en (by simp [argsToLocals, Value.category])) ?_
  intro k C
  obtain ⟨Sd, Od, Sf, Vf⟩ := id hSD
  have ld := Od.lt
  have lf := Vf.lt
  refine Go.ownd C (fun OW => ?_)
  have nd : dec ≠ d := ne_lt ld (OW _ (mi 0 rfl))
  have nf : fb ≠ d := ne_lt lf (OW _ (mi 0 rfl))
  refine Go.old C (fun X0 => ?_)
  replace Vf := Vf.k0 (Keep.ofExt X0)
  obtain ⟨k0, k1, k2, k3, e0, e1, e2⟩ := id hg0
  obtain ⟨k4, k5, k6, e3, e4⟩ := id hg1
  refine il C d41_0 rfl <| ifeqT C d41_2 (by decide) <| Go.getS C Sf (host := "") (Or.inl (w_119 hW)) Via.refl d41_11 <| Go.astore C d41_14 rfl (Ls' := #[vr dec, vr a, vi 0, vi 8, vr d, vi 0, vi 0, vi 0, vr fb, su, su, su, su, su, su, su]) rfl <| iN C d41_16 rfl <| iN C d41_17 rfl <| iN C d41_18 rfl <| Go.isub C d41_19 <| gq 8 rfl <| Go.bipush C (-4) d41_20 (by decide) <| Go.iand C d41_22 <| gq 8 (by  decide) <| Go.iadd C d41_23 <| gq 8 rfl <| Go.istore C d41_24 (Ls' := #[vr dec, vr a, vi 0, vi 8, vr d, vi 0, vi 0, vi 0, vr fb, vi 8, su, su, su, su, su, su]) rfl <| il C d41_26 rfl <| Go.istore C d41_28 (Ls' := #[vr dec, vr a, vi 0, vi 8, vr d, vi 0, vi 0, vi 0, vr fb, vi 8, vi 0, su, su, su, su, su]) rfl <| iN C d41_30 rfl <| il C d41_31 rfl <| icmpgeF C d41_33 (by decide) <| al C d41_36 rfl <| aN C d41_38 rfl <| iN C d41_39 rfl <| Go.iinc C 1 d41_40 rfl rfl (Ls' := #[vr dec, vr a, vi 1, vi 8, vr d, vi 0, vi 0, vi 0, vr fb, vi 8, vi 0, su, su, su, su, su]) rfl ?_
  refine Go.baload C V 0 (by decide) rfl rfl d41_43 <| Go.sipush C 255 d41_44 rfl <| Go.iand C d41_47 <| Go.eqI (x' := (o_sym q0)) (o_sym_all k0).1 <| Go.iaload C Vf ((o_sym q0)).toNatClampNeg (o_sym_all k0).2.1 rfl (o_sym_at k0) d41_48 <| Go.istore C d41_49 (Ls' := #[vr dec, vr a, vi 1, vi 8, vr d, vi 0, vi 0, vi 0, vr fb, vi 8, vi 0, vi q0, su, su, su, su]) rfl <| al C d41_51 rfl <| aN C d41_53 rfl <| iN C d41_54 rfl <| Go.iinc C 2 d41_55 rfl rfl (Ls' := #[vr dec, vr a, vi 2, vi 8, vr d, vi 0, vi 0, vi 0, vr fb, vi 8, vi 0, vi q0, su, su, su, su]) rfl <| Go.baload C V 1 (by decide) rfl rfl d41_58 <| Go.sipush C 255 d41_59 rfl <| Go.iand C d41_62 <| Go.eqI (x' := (o_sym q1)) (o_sym_all k1).1 <| Go.iaload C Vf ((o_sym q1)).toNatClampNeg (o_sym_all k1).2.1 rfl (o_sym_at k1) d41_63 <| Go.istore C d41_64 (Ls' := #[vr dec, vr a, vi 2, vi 8, vr d, vi 0, vi 0, vi 0, vr fb, vi 8, vi 0, vi q0, vi q1, su, su, su]) rfl ?_
  refine al C d41_66 rfl <| aN C d41_68 rfl <| iN C d41_69 rfl <| Go.iinc C 3 d41_70 rfl rfl (Ls' := #[vr dec, vr a, vi 3, vi 8, vr d, vi 0, vi 0, vi 0, vr fb, vi 8, vi 0, vi q0, vi q1, su, su, su]) rfl <| Go.baload C V 2 (by decide) rfl rfl d41_73 <| Go.sipush C 255 d41_74 rfl <| Go.iand C d41_77 <| Go.eqI (x' := (o_sym q2)) (o_sym_all k2).1 <| Go.iaload C Vf ((o_sym q2)).toNatClampNeg (o_sym_all k2).2.1 rfl (o_sym_at k2) d41_78 <| Go.istore C d41_79 (Ls' := #[vr dec, vr a, vi 3, vi 8, vr d, vi 0, vi 0, vi 0, vr fb, vi 8, vi 0, vi q0, vi q1, vi q2, su, su]) rfl <| al C d41_81 rfl <| aN C d41_83 rfl <| iN C d41_84 rfl <| Go.iinc C 4 d41_85 rfl rfl (Ls' := #[vr dec, vr a, vi 4, vi 8, vr d, vi 0, vi 0, vi 0, vr fb, vi 8, vi 0, vi q0, vi q1, vi q2, su, su]) rfl <| Go.baload C V 3 (by decide) rfl rfl d41_88 <| Go.sipush C 255 d41_89 rfl <| Go.iand C d41_92 <| Go.eqI (x' := (o_sym q3)) (o_sym_all k3).1 ?_
  refine Go.iaload C Vf ((o_sym q3)).toNatClampNeg (o_sym_all k3).2.1 rfl (o_sym_at k3) d41_93 <| Go.istore C d41_94 (Ls' := #[vr dec, vr a, vi 4, vi 8, vr d, vi 0, vi 0, vi 0, vr fb, vi 8, vi 0, vi q0, vi q1, vi q2, vi q3, su]) rfl <| il C d41_96 rfl <| il C d41_98 rfl <| Go.ior C d41_100 <| il C d41_101 rfl <| Go.ior C d41_103 <| il C d41_104 rfl <| Go.ior C d41_106 <| Go.ifge C d41_107 (fun hc107 => ?_) (fun hc107 => absurd hc107 (o_or4 k0 k1 k2 k3))
  refine il C d41_116 rfl <| Go.bipush C 18 d41_118 rfl <| Go.ishl C d41_120 <| il C d41_121 rfl <| Go.bipush C 12 d41_123 rfl <| Go.ishl C d41_125 <| Go.ior C d41_126 <| Go.eqI (x' := (o_w2 q0 q1)) rfl <| il C d41_127 rfl <| Go.bipush C 6 d41_129 rfl <| Go.ishl C d41_131 <| Go.ior C d41_132 <| Go.eqI (x' := (o_w3 q0 q1 q2)) rfl <| il C d41_133 rfl <| Go.ior C d41_135 <| Go.eqI (x' := (o_w4 q0 q1 q2 q3)) rfl <| Go.istore C d41_136 (Ls' := #[vr dec, vr a, vi 4, vi 8, vr d, vi 0, vi 0, vi 0, vr fb, vi 8, vi 0, vi q0, vi q1, vi q2, vi q3, vi (o_w4 q0 q1 q2 q3)]) rfl <| al C d41_138 rfl <| il C d41_140 rfl <| Go.iinc C 1 d41_142 rfl rfl (Ls' := #[vr dec, vr a, vi 4, vi 8, vr d, vi 0, vi 0, vi 0, vr fb, vi 8, vi 1, vi q0, vi q1, vi q2, vi q3, vi (o_w4 q0 q1 q2 q3)]) rfl <| il C d41_145 rfl <| Go.bipush C 16 d41_147 rfl <| Go.ishr C d41_149 <| Go.i2b C d41_150 <| gq x0 e0 <| Go.bastore C U (mi 0 rfl) 0 (by decide) rfl (nb rfl) (x' := x0) (o_B_nar hB0) (vs' := [.int x0, .int 0, .int 0, .int 0, .int 0]) rfl d41_151 (fun h1 K2 U => ?_)
  replace V := V.keep K2 (ninS had nin0)
  replace Vf := Vf.keep K2 (ninS nf nin0)
  refine al C d41_152 rfl <| il C d41_154 rfl <| Go.iinc C 2 d41_156 rfl rfl (Ls' := #[vr dec, vr a, vi 4, vi 8, vr d, vi 0, vi 0, vi 0, vr fb, vi 8, vi 2, vi q0, vi q1, vi q2, vi q3, vi (o_w4 q0 q1 q2 q3)]) rfl <| il C d41_159 rfl <| Go.bipush C 8 d41_161 rfl <| Go.ishr C d41_163 <| Go.i2b C d41_164 <| gq x1 e1 <| Go.bastore C U (mi 0 rfl) 1 (by decide) rfl (nb rfl) (x' := x1) (o_B_nar hB1) (vs' := [.int x0, .int x1, .int 0, .int 0, .int 0]) rfl d41_165 (fun h3 K4 U => ?_)
  replace V := V.keep K4 (ninS had nin0)
  replace Vf := Vf.keep K4 (ninS nf nin0)
  refine al C d41_166 rfl <| il C d41_168 rfl <| Go.iinc C 3 d41_170 rfl rfl (Ls' := #[vr dec, vr a, vi 4, vi 8, vr d, vi 0, vi 0, vi 0, vr fb, vi 8, vi 3, vi q0, vi q1, vi q2, vi q3, vi (o_w4 q0 q1 q2 q3)]) rfl <| il C d41_173 rfl <| Go.i2b C d41_175 <| gq x2 e2 <| Go.bastore C U (mi 0 rfl) 2 (by decide) rfl (nb rfl) (x' := x2) (o_B_nar hB2) (vs' := [.int x0, .int x1, .int x2, .int 0, .int 0]) rfl d41_176 (fun h5 K6 U => ?_)
  replace V := V.keep K6 (ninS had nin0)
  replace Vf := Vf.keep K6 (ninS nf nin0)
  refine Go.goto C d41_177 <| iN C d41_30 rfl <| il C d41_31 rfl <| icmpgeF C d41_33 (by decide) <| al C d41_36 rfl <| aN C d41_38 rfl <| iN C d41_39 rfl <| Go.iinc C 5 d41_40 rfl rfl (Ls' := #[vr dec, vr a, vi 5, vi 8, vr d, vi 0, vi 0, vi 0, vr fb, vi 8, vi 3, vi q0, vi q1, vi q2, vi q3, vi (o_w4 q0 q1 q2 q3)]) rfl <| Go.baload C V 4 (by decide) rfl rfl d41_43 <| Go.sipush C 255 d41_44 rfl <| Go.iand C d41_47 <| Go.eqI (x' := (o_sym q4)) (o_sym_all k4).1 <| Go.iaload C Vf ((o_sym q4)).toNatClampNeg (o_sym_all k4).2.1 rfl (o_sym_at k4) d41_48 <| Go.istore C d41_49 (Ls' := #[vr dec, vr a, vi 5, vi 8, vr d, vi 0, vi 0, vi 0, vr fb, vi 8, vi 3, vi q4, vi q1, vi q2, vi q3, vi (o_w4 q0 q1 q2 q3)]) rfl <| al C d41_51 rfl <| aN C d41_53 rfl <| iN C d41_54 rfl <| Go.iinc C 6 d41_55 rfl rfl (Ls' := #[vr dec, vr a, vi 6, vi 8, vr d, vi 0, vi 0, vi 0, vr fb, vi 8, vi 3, vi q4, vi q1, vi q2, vi q3, vi (o_w4 q0 q1 q2 q3)]) rfl ?_
  refine Go.baload C V 5 (by decide) rfl rfl d41_58 <| Go.sipush C 255 d41_59 rfl <| Go.iand C d41_62 <| Go.eqI (x' := (o_sym q5)) (o_sym_all k5).1 <| Go.iaload C Vf ((o_sym q5)).toNatClampNeg (o_sym_all k5).2.1 rfl (o_sym_at k5) d41_63 <| Go.istore C d41_64 (Ls' := #[vr dec, vr a, vi 6, vi 8, vr d, vi 0, vi 0, vi 0, vr fb, vi 8, vi 3, vi q4, vi q5, vi q2, vi q3, vi (o_w4 q0 q1 q2 q3)]) rfl <| al C d41_66 rfl <| aN C d41_68 rfl <| iN C d41_69 rfl <| Go.iinc C 7 d41_70 rfl rfl (Ls' := #[vr dec, vr a, vi 7, vi 8, vr d, vi 0, vi 0, vi 0, vr fb, vi 8, vi 3, vi q4, vi q5, vi q2, vi q3, vi (o_w4 q0 q1 q2 q3)]) rfl <| Go.baload C V 6 (by decide) rfl rfl d41_73 <| Go.sipush C 255 d41_74 rfl <| Go.iand C d41_77 <| Go.eqI (x' := (o_sym q6)) (o_sym_all k6).1 <| Go.iaload C Vf ((o_sym q6)).toNatClampNeg (o_sym_all k6).2.1 rfl (o_sym_at k6) d41_78 <| Go.istore C d41_79 (Ls' := #[vr dec, vr a, vi 7, vi 8, vr d, vi 0, vi 0, vi 0, vr fb, vi 8, vi 3, vi q4, vi q5, vi q6, vi q3, vi (o_w4 q0 q1 q2 q3)]) rfl ?_
  refine al C d41_81 rfl <| aN C d41_83 rfl <| iN C d41_84 rfl <| Go.iinc C 8 d41_85 rfl rfl (Ls' := #[vr dec, vr a, vi 8, vi 8, vr d, vi 0, vi 0, vi 0, vr fb, vi 8, vi 3, vi q4, vi q5, vi q6, vi q3, vi (o_w4 q0 q1 q2 q3)]) rfl <| Go.baload C V 7 (by decide) rfl rfl d41_88 <| Go.sipush C 255 d41_89 rfl <| Go.iand C d41_92 <| gq 61 rfl <| Go.iaload C Vf 61 (by decide) rfl rfl d41_93 <| Go.istore C d41_94 (Ls' := #[vr dec, vr a, vi 8, vi 8, vr d, vi 0, vi 0, vi 0, vr fb, vi 8, vi 3, vi q4, vi q5, vi q6, vi (-2), vi (o_w4 q0 q1 q2 q3)]) rfl <| il C d41_96 rfl <| il C d41_98 rfl <| Go.ior C d41_100 <| il C d41_101 rfl <| Go.ior C d41_103 <| il C d41_104 rfl <| Go.ior C d41_106 <| Go.ifge C d41_107 (fun hc107 => absurd (o_orn (by decide)) hc107) (fun hc107 => ?_)
  refine il C d41_110 rfl <| il C d41_112 rfl <| Go.isub C d41_114 <| gq 3 rfl <| Go.ireturn C d41_115 (nb rfl) (nb rfl) (by simp) rfl [] nx ?_
  exact ⟨rfl, rfl, U⟩
theorem rmD5 (hW : W0 Z a0) (h : Heap) (dec fb a d : Addr) (q0 q1 q2 q3 q4 q5 q6 x0 x1 x2 x3 x4 : Int32) (V : Av Z h a .byte [.int (o_sym q0), .int (o_sym q1), .int (o_sym q2), .int (o_sym q3), .int (o_sym q4), .int (o_sym q5), .int (o_sym q6), .int 61]) (U : Av Z h d .byte [.int 0, .int 0, .int 0, .int 0, .int 0]) (hSD : o_SD Z dec fb) (hg0 : o_g3 q0 q1 q2 q3 x0 x1 x2) (hg1 : o_g2 q4 q5 q6 x3 x4) (hB0 : o_B x0) (hB1 : o_B x1) (hB2 : o_B x2) (hB3 : o_B x3) (hB4 : o_B x4) (had : a ≠ d) :
    Con l Z o_EL true y_17 c22 11 (some .int) ⟨1, 0, 0, 40⟩ [] #[.ref dec, .ref a, .int 0, .int 8, .ref d] h [d] (fun v h' os' => v = some (.int 5) ∧ os' = [] ∧ Av Z h' d .byte [.int x0, .int x1, .int x2, .int x3, .int x4]) := by
  refine Con.intro (Ls := #[vr dec, vr a, vi 0, vi 8, vr d, su, su, su, su, su, su]) (by decide +kernel) (o_ew hW) (fun _ => en (by simp [argsToLocals, Value.category])) ?_
  intro k C
  obtain ⟨Sd, Od, Sf, Vf⟩ := id hSD
  have ld := Od.lt
  have lf := Vf.lt
  refine Go.ownd C (fun OW => ?_)
  have nd : dec ≠ d := ne_lt ld (OW _ (mi 0 rfl))
  have nf : fb ≠ d := ne_lt lf (OW _ (mi 0 rfl))
  refine Go.old C (fun X0 => ?_)
  replace Od := Od.k0 (Keep.ofExt X0)
  replace Vf := Vf.k0 (Keep.ofExt X0)
  obtain ⟨k0, k1, k2, k3, e0, e1, e2⟩ := id hg0
  obtain ⟨k4, k5, k6, e3, e4⟩ := id hg1
  refine aN C d22_0 rfl <| gF C Od 0 rfl rfl (w_117 hW) d22_1 <| ifeqT C d22_4 (by decide) <| Go.getS C Sf (host := "") (Or.inl (w_119 hW)) Via.refl d22_13 <| Go.astore C d22_16 rfl (Ls' := #[vr dec, vr a, vi 0, vi 8, vr d, vr fb, su, su, su, su, su]) rfl <| ic C 0 d22_18 rfl <| Go.istore C d22_19 (Ls' := #[vr dec, vr a, vi 0, vi 8, vr d, vr fb, vi 0, su, su, su, su]) rfl <| ic C 0 d22_21 rfl <| Go.istore C d22_22 (Ls' := #[vr dec, vr a, vi 0, vi 8, vr d, vr fb, vi 0, vi 0, su, su, su]) rfl <| Go.bipush C 18 d22_24 rfl <| Go.istore C d22_26 (Ls' := #[vr dec, vr a, vi 0, vi 8, vr d, vr fb, vi 0, vi 0, vi 18, su, su]) rfl <| iN C d22_28 rfl <| iN C d22_29 rfl <| icmpgeF C d22_30 (by decide) <| il C d22_33 rfl <| Go.bipush C 18 d22_35 rfl <| icmpneF C d22_37 (by decide) <| iN C d22_40 rfl <| iN C d22_41 rfl <| ic C 4 d22_42 rfl <| Go.isub C d22_43 <| gq 4 rfl <| icmpgeF C d22_44 (by decide) ?_
  refine aN C d22_47 rfl <| aN C d22_48 rfl <| iN C d22_49 rfl <| iN C d22_50 rfl <| al C d22_51 rfl <| il C d22_53 rfl <| aN C d22_55 rfl <| gF C Od 0 rfl rfl (w_117 hW) d22_56 <| aN C d22_59 rfl <| gF C Od 1 rfl rfl (w_120 hW) d22_60 <| Go.callP C (z := y_20) (a := dec) (argsL := [.ref a, .int 0, .int 8, .ref d, .int 0, .int 0, .int 0]) (rmB5 hW h dec fb a d q0 q1 q2 q3 q4 q5 q6 x0 x1 x2 x3 x4 V U hSD hg0 hg1 hB0 hB1 hB2 hB3 hB4 had) Od.1 (w_237 hW) (w_238 hW) (w_240 hW) (w_239 hW) (w_68 hW) (w_241 hW) d22_63 pd_13 rfl (by decide) rfl (st := []) rfl (by decide) (nb rfl) (by decide) (by decide) (fm ⟨(mi 0 rfl), nx⟩) (fun _ _ _ q4 K5 _ => ?_)
  obtain ⟨rfl, rfl, F7⟩ := q4
  replace V := V.keep K5 (ninS had nin0)
  replace Vf := Vf.keep K5 (ninS nf nin0)
  show Go k _ _ _ _ _ _ [.int 3]
  refine Go.istore C d22_66 (Ls' := #[vr dec, vr a, vi 0, vi 8, vr d, vr fb, vi 0, vi 0, vi 18, vi 3, su]) rfl <| il C d22_68 rfl <| ic C 2 d22_70 rfl <| Go.iadd C d22_71 <| gq 5 rfl <| ic C 3 d22_72 rfl <| Go.idiv C d22_73 (by decide) <| gq 1 rfl <| ic C 4 d22_74 rfl <| Go.imul C d22_75 <| gq 4 rfl <| Go.istore C d22_76 (Ls' := #[vr dec, vr a, vi 0, vi 8, vr d, vr fb, vi 0, vi 0, vi 18, vi 3, vi 4]) rfl <| iN C d22_78 rfl <| il C d22_79 rfl <| Go.iadd C d22_81 <| gq 4 rfl <| Go.istoreN C d22_82 (Ls' := #[vr dec, vr a, vi 4, vi 8, vr d, vr fb, vi 0, vi 0, vi 18, vi 3, vi 4]) rfl <| il C d22_83 rfl <| il C d22_85 rfl <| Go.iadd C d22_87 <| gq 3 rfl <| Go.istore C d22_88 (Ls' := #[vr dec, vr a, vi 4, vi 8, vr d, vr fb, vi 3, vi 0, vi 18, vi 3, vi 4]) rfl <| iN C d22_90 rfl <| iN C d22_91 rfl <| icmpltT C d22_92 (by decide) <| aN C d22_98 rfl <| iN C d22_99 rfl <| Go.iinc C 5 d22_100 rfl rfl (Ls' := #[vr dec, vr a, vi 5, vi 8, vr d, vr fb, vi 3, vi 0, vi 18, vi 3, vi 4]) rfl ?_
  refine Go.baload C V 4 (by decide) rfl rfl d22_103 <| Go.sipush C 255 d22_104 rfl <| Go.iand C d22_107 <| Go.eqI (x' := (o_sym q4)) (o_sym_all k4).1 <| Go.istore C d22_108 (Ls' := #[vr dec, vr a, vi 5, vi 8, vr d, vr fb, vi 3, vi 0, vi 18, vi (o_sym q4), vi 4]) rfl <| al C d22_110 rfl <| il C d22_112 rfl <| Go.iaload C Vf ((o_sym q4)).toNatClampNeg (o_sym_all k4).2.1 rfl (o_sym_at k4) d22_114 <| Go.dup C d22_115 rfl <| Go.istore C d22_116 (Ls' := #[vr dec, vr a, vi 5, vi 8, vr d, vr fb, vi 3, vi 0, vi 18, vi q4, vi 4]) rfl <| Go.ifge C d22_118 (fun hc118 => ?_) (fun hc118 => absurd hc118 k4.1)
  refine il C d22_214 rfl <| il C d22_216 rfl <| il C d22_218 rfl <| Go.ishl C d22_220 <| Go.ior C d22_221 <| Go.eqI (x' := (q4 <<< ((18 : Int32) &&& 31))) (o_or0 _) <| Go.istore C d22_222 (Ls' := #[vr dec, vr a, vi 5, vi 8, vr d, vr fb, vi 3, vi (q4 <<< ((18 : Int32) &&& 31)), vi 18, vi q4, vi 4]) rfl <| Go.iinc C 12 d22_224 rfl (by  decide) (Ls' := #[vr dec, vr a, vi 5, vi 8, vr d, vr fb, vi 3, vi (q4 <<< ((18 : Int32) &&& 31)), vi 12, vi q4, vi 4]) rfl <| il C d22_227 rfl <| ifgeT C d22_229 (by decide) <| Go.goto C d22_278 <| iN C d22_28 rfl <| iN C d22_29 rfl <| icmpgeF C d22_30 (by decide) <| il C d22_33 rfl <| Go.bipush C 18 d22_35 rfl <| icmpneT C d22_37 (by decide) <| iN C d22_90 rfl <| iN C d22_91 rfl <| icmpltT C d22_92 (by decide) <| aN C d22_98 rfl <| iN C d22_99 rfl <| Go.iinc C 6 d22_100 rfl rfl (Ls' := #[vr dec, vr a, vi 6, vi 8, vr d, vr fb, vi 3, vi (q4 <<< ((18 : Int32) &&& 31)), vi 12, vi q4, vi 4]) rfl ?_
  refine Go.baload C V 5 (by decide) rfl rfl d22_103 <| Go.sipush C 255 d22_104 rfl <| Go.iand C d22_107 <| Go.eqI (x' := (o_sym q5)) (o_sym_all k5).1 <| Go.istore C d22_108 (Ls' := #[vr dec, vr a, vi 6, vi 8, vr d, vr fb, vi 3, vi (q4 <<< ((18 : Int32) &&& 31)), vi 12, vi (o_sym q5), vi 4]) rfl <| al C d22_110 rfl <| il C d22_112 rfl <| Go.iaload C Vf ((o_sym q5)).toNatClampNeg (o_sym_all k5).2.1 rfl (o_sym_at k5) d22_114 <| Go.dup C d22_115 rfl <| Go.istore C d22_116 (Ls' := #[vr dec, vr a, vi 6, vi 8, vr d, vr fb, vi 3, vi (q4 <<< ((18 : Int32) &&& 31)), vi 12, vi q5, vi 4]) rfl <| Go.ifge C d22_118 (fun hc118 => ?_) (fun hc118 => absurd hc118 k5.1)
  refine il C d22_214 rfl <| il C d22_216 rfl <| il C d22_218 rfl <| Go.ishl C d22_220 <| Go.ior C d22_221 <| Go.eqI (x' := (o_w2 q4 q5)) rfl <| Go.istore C d22_222 (Ls' := #[vr dec, vr a, vi 6, vi 8, vr d, vr fb, vi 3, vi (o_w2 q4 q5), vi 12, vi q5, vi 4]) rfl <| Go.iinc C 6 d22_224 rfl (by  decide) (Ls' := #[vr dec, vr a, vi 6, vi 8, vr d, vr fb, vi 3, vi (o_w2 q4 q5), vi 6, vi q5, vi 4]) rfl <| il C d22_227 rfl <| ifgeT C d22_229 (by decide) <| Go.goto C d22_278 <| iN C d22_28 rfl <| iN C d22_29 rfl <| icmpgeF C d22_30 (by decide) <| il C d22_33 rfl <| Go.bipush C 18 d22_35 rfl <| icmpneT C d22_37 (by decide) <| iN C d22_90 rfl <| iN C d22_91 rfl <| icmpltT C d22_92 (by decide) <| aN C d22_98 rfl <| iN C d22_99 rfl <| Go.iinc C 7 d22_100 rfl rfl (Ls' := #[vr dec, vr a, vi 7, vi 8, vr d, vr fb, vi 3, vi (o_w2 q4 q5), vi 6, vi q5, vi 4]) rfl <| Go.baload C V 6 (by decide) rfl rfl d22_103 ?_
  refine Go.sipush C 255 d22_104 rfl <| Go.iand C d22_107 <| Go.eqI (x' := (o_sym q6)) (o_sym_all k6).1 <| Go.istore C d22_108 (Ls' := #[vr dec, vr a, vi 7, vi 8, vr d, vr fb, vi 3, vi (o_w2 q4 q5), vi 6, vi (o_sym q6), vi 4]) rfl <| al C d22_110 rfl <| il C d22_112 rfl <| Go.iaload C Vf ((o_sym q6)).toNatClampNeg (o_sym_all k6).2.1 rfl (o_sym_at k6) d22_114 <| Go.dup C d22_115 rfl <| Go.istore C d22_116 (Ls' := #[vr dec, vr a, vi 7, vi 8, vr d, vr fb, vi 3, vi (o_w2 q4 q5), vi 6, vi q6, vi 4]) rfl <| Go.ifge C d22_118 (fun hc118 => ?_) (fun hc118 => absurd hc118 k6.1)
  refine il C d22_214 rfl <| il C d22_216 rfl <| il C d22_218 rfl <| Go.ishl C d22_220 <| Go.ior C d22_221 <| Go.eqI (x' := (o_w3 q4 q5 q6)) rfl <| Go.istore C d22_222 (Ls' := #[vr dec, vr a, vi 7, vi 8, vr d, vr fb, vi 3, vi (o_w3 q4 q5 q6), vi 6, vi q6, vi 4]) rfl <| Go.iinc C 0 d22_224 rfl (by  decide) (Ls' := #[vr dec, vr a, vi 7, vi 8, vr d, vr fb, vi 3, vi (o_w3 q4 q5 q6), vi 0, vi q6, vi 4]) rfl <| il C d22_227 rfl <| ifgeT C d22_229 (by decide) <| Go.goto C d22_278 <| iN C d22_28 rfl <| iN C d22_29 rfl <| icmpgeF C d22_30 (by decide) <| il C d22_33 rfl <| Go.bipush C 18 d22_35 rfl <| icmpneT C d22_37 (by decide) <| iN C d22_90 rfl <| iN C d22_91 rfl <| icmpltT C d22_92 (by decide) <| aN C d22_98 rfl <| iN C d22_99 rfl <| Go.iinc C 8 d22_100 rfl rfl (Ls' := #[vr dec, vr a, vi 8, vi 8, vr d, vr fb, vi 3, vi (o_w3 q4 q5 q6), vi 0, vi q6, vi 4]) rfl <| Go.baload C V 7 (by decide) rfl rfl d22_103 ?_
  refine Go.sipush C 255 d22_104 rfl <| Go.iand C d22_107 <| gq 61 rfl <| Go.istore C d22_108 (Ls' := #[vr dec, vr a, vi 8, vi 8, vr d, vr fb, vi 3, vi (o_w3 q4 q5 q6), vi 0, vi 61, vi 4]) rfl <| al C d22_110 rfl <| il C d22_112 rfl <| Go.iaload C Vf 61 (by decide) rfl rfl d22_114 <| Go.dup C d22_115 rfl <| Go.istore C d22_116 (Ls' := #[vr dec, vr a, vi 8, vi 8, vr d, vr fb, vi 3, vi (o_w3 q4 q5 q6), vi 0, vi (-2), vi 4]) rfl <| ifgeF C d22_118 (by decide) <| il C d22_121 rfl <| Go.bipush C (-2) d22_123 (by decide) <| icmpneF C d22_125 (by decide) <| il C d22_128 rfl <| Go.bipush C 6 d22_130 rfl <| icmpneT C d22_132 (by decide) <| il C d22_151 rfl <| Go.bipush C 18 d22_153 rfl <| icmpneT C d22_155 (by decide) <| il C d22_281 rfl <| Go.bipush C 6 d22_283 rfl <| icmpneT C d22_285 (by decide) <| il C d22_305 rfl <| ifneF C d22_307 (by decide) <| al C d22_310 rfl <| il C d22_312 rfl <| Go.iinc C 4 d22_314 rfl rfl (Ls' := #[vr dec, vr a, vi 8, vi 8, vr d, vr fb, vi 4, vi (o_w3 q4 q5 q6), vi 0, vi (-2), vi 4]) rfl ?_
  refine il C d22_317 rfl <| Go.bipush C 16 d22_319 rfl <| Go.ishr C d22_321 <| Go.i2b C d22_322 <| gq x3 e3 <| Go.bastore C F7 (mi 0 rfl) 3 (by decide) rfl (nb rfl) (x' := x3) (o_B_nar hB3) (vs' := [.int x0, .int x1, .int x2, .int x3, .int 0]) rfl d22_323 (fun _ _ F7 => ?_)
  refine al C d22_324 rfl <| il C d22_326 rfl <| Go.iinc C 5 d22_328 rfl rfl (Ls' := #[vr dec, vr a, vi 8, vi 8, vr d, vr fb, vi 5, vi (o_w3 q4 q5 q6), vi 0, vi (-2), vi 4]) rfl <| il C d22_331 rfl <| Go.bipush C 8 d22_333 rfl <| Go.ishr C d22_335 <| Go.i2b C d22_336 <| gq x4 e4 <| Go.bastore C F7 (mi 0 rfl) 4 (by decide) rfl (nb rfl) (x' := x4) (o_B_nar hB4) (vs' := [.int x0, .int x1, .int x2, .int x3, .int x4]) rfl d22_337 (fun _ _ F7 => ?_)
  refine Go.goto C d22_338 <| iN C d22_358 rfl <| iN C d22_359 rfl <| icmpgeT C d22_360 (by decide) <| il C d22_416 rfl <| Go.ireturn C d22_418 (nb rfl) (nb rfl) (by simp) rfl [] nx ?_
  exact ⟨rfl, rfl, F7⟩
theorem rmE5 (hW : W0 Z a0) (h : Heap) (dec fb a : Addr) (q0 q1 q2 q3 q4 q5 q6 x0 x1 x2 x3 x4 : Int32) (V : Av Z h a .byte [.int (o_sym q0), .int (o_sym q1), .int (o_sym q2), .int (o_sym q3), .int (o_sym q4), .int (o_sym q5), .int (o_sym q6), .int 61]) (hSD : o_SD Z dec fb) (hg0 : o_g3 q0 q1 q2 q3 x0 x1 x2) (hg1 : o_g2 q4 q5 q6 x3 x4) (hB0 : o_B x0) (hB1 : o_B x1) (hB2 : o_B x2) (hB3 : o_B x3) (hB4 : o_B x4) :
    Con l Z o_EL true y_18 c20 4 (some (.array .byte)) ⟨2, 1, 5, 66⟩ [] #[.ref dec, .ref a] h [] (fun v h' os' => ∃ r : Addr, v = some (.ref r) ∧ os' = [] ∧ Av Z h' r .byte [.int x0, .int x1, .int x2, .int x3, .int x4]) := by
  refine Con.intro (Ls := #[vr dec, vr a, su, su]) (by decide +kernel) (o_ew hW) (fun _ => en (by simp [argsToLocals, Value.category])) ?_
  intro k C
  obtain ⟨Sd, Od, Sf, Vf⟩ := id hSD
  refine Go.old C (fun X0 => ?_)
  replace Od := Od.k0 (Keep.ofExt X0)
  refine aN C d20_0 rfl <| aN C d20_1 rfl <| ic C 0 d20_2 rfl <| aN C d20_3 rfl <| Go.arraylength C V (8 : Int32) rfl d20_4 <| Go.callP C (z := y_16) (a := dec) (argsL := [.ref a, .int 0, .int 8]) (rmL5 hW h dec fb a q0 q1 q2 q3 q4 q5 q6 x0 x1 x2 x3 x4 V hSD hg0 hg1) Od.1 (w_112 hW) (w_113 hW) (w_115 hW) (w_114 hW) (w_68 hW) (w_116 hW) d20_5 pd_9 rfl (by decide) rfl (st := []) rfl (by decide) (nb rfl) (by decide) (by decide) nx (fun _ _ _ q4 _ _ => ?_)
  obtain ⟨rfl, rfl, rfl⟩ := q4
  show Go k _ _ _ _ _ _ [.int 5]
  refine Go.newarray C (aty := .byte) (w_31 hW) d20_8 (by decide) 5 rfl (cap := 5) (by decide) (by decide) (by decide) (by decide) (fun b7 h8 e9 K10 A11 => ?_)
  have A11 : Av Z h8 b7 .byte [.int 0, .int 0, .int 0, .int 0, .int 0] := A11
  have n_a_b7 : a ≠ b7 := ne_lt V.lt (ge_of e9)
  replace V := V.k0 K10
  replace Od := Od.k0 K10
  refine Go.astoreN C d20_10 rfl (Ls' := #[vr dec, vr a, vr b7, su]) rfl <| aN C d20_11 rfl <| aN C d20_12 rfl <| ic C 0 d20_13 rfl <| aN C d20_14 rfl <| Go.arraylength C V (8 : Int32) rfl d20_15 <| aN C d20_16 rfl <| Go.callP C (z := y_17) (a := dec) (argsL := [.ref a, .int 0, .int 8, .ref b7]) (rmD5 hW h8 dec fb a b7 q0 q1 q2 q3 q4 q5 q6 x0 x1 x2 x3 x4 V A11 hSD hg0 hg1 hB0 hB1 hB2 hB3 hB4 n_a_b7) Od.1 (w_124 hW) (w_125 hW) (w_127 hW) (w_126 hW) (w_68 hW) (w_128 hW) d20_17 pd_10 rfl (by decide) rfl (st := []) rfl (by decide) (nb rfl) (by decide) (by decide) (fm ⟨(mi 0 rfl), nx⟩) (fun _ _ _ q15 _ _ => ?_)
  obtain ⟨rfl, rfl, F18⟩ := q15
  show Go k _ _ _ _ _ _ [.int 5]
  refine Go.istoreN C d20_20 (Ls' := #[vr dec, vr a, vr b7, vi 5]) rfl <| iN C d20_21 rfl <| aN C d20_22 rfl <| Go.arraylength C F18 (5 : Int32) rfl d20_23 <| icmpeqT C d20_24 (by decide) <| aN C d20_33 rfl <| Go.areturn C d20_34 (nb rfl) (nb rfl) rfl rfl [] nx ?_
  exact ⟨_, rfl, rfl, F18⟩
theorem rmT5 (hW : W0 Z a0) (h : Heap) (dec fb iso utf y t : Addr) (q0 q1 q2 q3 q4 q5 q6 x0 x1 x2 x3 x4 : Int32) (S : Str Z h y t [(o_sym q0), (o_sym q1), (o_sym q2), (o_sym q3), (o_sym q4), (o_sym q5), (o_sym q6), (61 : Int32)]) (hSD : o_SD Z dec fb) (hSC : o_SC Z iso utf) (hg0 : o_g3 q0 q1 q2 q3 x0 x1 x2) (hg1 : o_g2 q4 q5 q6 x3 x4) (hB0 : o_B x0) (hB1 : o_B x1) (hB2 : o_B x2) (hB3 : o_B x3) (hB4 : o_B x4) :
    Con l Z o_EL true y_19 c14 2 (some (.array .byte)) ⟨5, 2, 14, 105⟩ [] #[.ref dec, .ref y] h [] (fun v h' os' => ∃ r : Addr, v = some (.ref r) ∧ os' = [] ∧ Av Z h' r .byte [.int x0, .int x1, .int x2, .int x3, .int x4]) := by
  refine Con.intro (Ls := #[vr dec, vr y]) (by decide +kernel) (o_ew hW) (fun _ => en (by simp [argsToLocals, Value.category])) ?_
  intro k C
  obtain ⟨Sd, Od, Sf, Vf⟩ := id hSD
  refine Go.old C (fun X0 => ?_)
  replace Od := Od.k0 (Keep.ofExt X0)
  obtain ⟨Si, -⟩ := id hSC
  refine aN C d14_0 rfl <| aN C d14_1 rfl <| Go.getS C Si (host := "") (Or.inl (w_74 hW)) Via.refl d14_2 <| Go.callV C (z := y_15) (zr := y_15) (a := y) (argsL := [.ref iso]) (rm15 hW h y t ([(o_sym q0), (o_sym q1), (o_sym q2), (o_sym q3), (o_sym q4), (o_sym q5), (o_sym q6), (61 : Int32)]) iso utf S (nb rfl) hSC) S.exa (w_76 hW) (w_77 hW) (fun hz => notFace_of_selects (args := #[]) (mvT hz (w_79 hW))) (w_79 hW) (w_78 hW) (w_15 hW) (w_80 hW) d14_5 pd_11 rfl (by decide) rfl (st := [.ref dec]) rfl (by decide) (nb rfl) (by decide) (by decide) nx (fun _ h2 _ q4 K5 _ => ?_)
  obtain ⟨r7, rfl, rfl, F8⟩ := q4
  replace Od := Od.k0 K5
  show Go k _ _ _ _ _ _ [.ref r7, .ref dec]
  have F8 : Av Z h2 r7 .byte [.int (o_sym q0), .int (o_sym q1), .int (o_sym q2), .int (o_sym q3), .int (o_sym q4), .int (o_sym q5), .int (o_sym q6), .int 61] := F8
  refine Go.callV C (z := y_18) (zr := y_18) (a := dec) (argsL := [.ref r7]) (rmE5 hW h2 dec fb r7 q0 q1 q2 q3 q4 q5 q6 x0 x1 x2 x3 x4 F8 hSD hg0 hg1 hB0 hB1 hB2 hB3 hB4) Od.1 (w_107 hW) (w_108 hW) (fun hz => notFace_of_selects (args := #[]) (mvT hz (w_110 hW))) (w_110 hW) (w_109 hW) (w_68 hW) (w_111 hW) d14_8 pd_12 rfl (by decide) rfl (st := []) rfl (by decide) (nb rfl) (by decide) (by decide) nx (fun _ _ _ q12 _ _ => ?_)
  obtain ⟨r15, rfl, rfl, F16⟩ := q12
  show Go k _ _ _ _ _ _ [.ref r15]
  refine Go.areturn C d14_11 (nb rfl) (nb rfl) rfl rfl [] nx ?_
  exact ⟨_, rfl, rfl, F16⟩
theorem rmL6 (hW : W0 Z a0) (h : Heap) (dec fb a : Addr) (q0 q1 q2 q3 q4 q5 q6 q7 x0 x1 x2 x3 x4 x5 : Int32) (V : Av Z h a .byte [.int (o_sym q0), .int (o_sym q1), .int (o_sym q2), .int (o_sym q3), .int (o_sym q4), .int (o_sym q5), .int (o_sym q6), .int (o_sym q7)]) (hSD : o_SD Z dec fb) (hg0 : o_g3 q0 q1 q2 q3 x0 x1 x2) (hg1 : o_g3 q4 q5 q6 q7 x3 x4 x5) :
    Con l Z o_EL true y_16 c21 9 (some .int) ⟨0, 0, 0, 0⟩ [] #[.ref dec, .ref a, .int 0, .int 8] h [] (fun v h' os' => v = some (.int 6) ∧ os' = [] ∧ h = h') := by
  refine Con.intro (Ls := #[vr dec, vr a, vi 0, vi 8, su, su, su, su, su]) (by decide +kernel) (o_ew hW) (fun _ => en (by simp [argsToLocals, Value.category])) ?_
  intro k C
  obtain ⟨Sd, Od, Sf, Vf⟩ := id hSD
  refine Go.old C (fun X0 => ?_)
  replace Od := Od.k0 (Keep.ofExt X0)
  obtain ⟨k0, k1, k2, k3, e0, e1, e2⟩ := id hg0
  obtain ⟨k4, k5, k6, k7, e3, e4, e5⟩ := id hg1
  refine aN C d21_0 rfl <| gF C Od 0 rfl rfl (w_117 hW) d21_1 <| ifeqT C d21_4 (by decide) <| Go.getS C Sf (host := "") (Or.inl (w_119 hW)) Via.refl d21_13 <| Go.astore C d21_16 rfl (Ls' := #[vr dec, vr a, vi 0, vi 8, vr fb, su, su, su, su]) rfl <| ic C 0 d21_18 rfl <| Go.istore C d21_19 (Ls' := #[vr dec, vr a, vi 0, vi 8, vr fb, vi 0, su, su, su]) rfl <| iN C d21_21 rfl <| iN C d21_22 rfl <| Go.isub C d21_23 <| gq 8 rfl <| Go.istore C d21_24 (Ls' := #[vr dec, vr a, vi 0, vi 8, vr fb, vi 0, vi 8, su, su]) rfl <| il C d21_26 rfl <| ifneT C d21_28 (by decide) <| il C d21_33 rfl <| ic C 2 d21_35 rfl <| icmpgeT C d21_36 (by decide) <| aN C d21_66 rfl <| gF C Od 1 rfl rfl (w_120 hW) d21_67 <| ifeqT C d21_70 (by decide) <| aN C d21_141 rfl <| iN C d21_142 rfl <| ic C 1 d21_143 rfl <| Go.isub C d21_144 <| gq 7 rfl <| Go.baload C V 7 (by decide) rfl rfl d21_145 <| Go.bipush C 61 d21_146 rfl <| Go.icmpne C d21_148 (fun hc148 => ?_) (fun hc148 => absurd hc148 (o_sym_all k7).2.2.2.2.1)
  refine il C d21_167 rfl <| ifneF C d21_169 (by decide) <| il C d21_172 rfl <| ic C 3 d21_174 rfl <| Go.iand C d21_175 <| gq 0 rfl <| ifeqT C d21_176 (by decide) <| ic C 3 d21_187 rfl <| il C d21_188 rfl <| Go.i2l C d21_190 <| Go.ldcJ C (w_122 hW) d21_191 <| Go.ladd C d21_194 <| Go.ldcJ C (w_123 hW) d21_195 <| Go.ldiv C d21_198 (by decide) <| Go.l2i C d21_199 <| gq 2 rfl <| Go.imul C d21_200 <| gq 6 rfl <| il C d21_201 rfl <| Go.isub C d21_203 <| gq 6 rfl <| Go.ireturn C d21_204 (nb rfl) (nb rfl) (by simp) rfl [] nx ?_
  exact ⟨rfl, rfl, rfl⟩
theorem rmB6 (hW : W0 Z a0) (h : Heap) (dec fb a d : Addr) (q0 q1 q2 q3 q4 q5 q6 q7 x0 x1 x2 x3 x4 x5 : Int32) (V : Av Z h a .byte [.int (o_sym q0), .int (o_sym q1), .int (o_sym q2), .int (o_sym q3), .int (o_sym q4), .int (o_sym q5), .int (o_sym q6), .int (o_sym q7)]) (U : Av Z h d .byte [.int 0, .int 0, .int 0, .int 0, .int 0, .int 0]) (hSD : o_SD Z dec fb) (hg0 : o_g3 q0 q1 q2 q3 x0 x1 x2) (hg1 : o_g3 q4 q5 q6 q7 x3 x4 x5) (hB0 : o_B x0) (hB1 : o_B x1) (hB2 : o_B x2) (hB3 : o_B x3) (hB4 : o_B x4) (hB5 : o_B x5) (had : a ≠ d) :
    Con l Z o_EL true y_20 c41 16 (some .int) ⟨0, 0, 0, 0⟩ [] #[.ref dec, .ref a, .int 0, .int 8, .ref d, .int 0, .int 0, .int 0] h [d] (fun v h' os' => v = some (.int 6) ∧ os' = [] ∧ Av Z h' d .byte [.int x0, .int x1, .int x2, .int x3, .int x4, .int x5]) := by
  refine Con.intro (Ls := #[vr dec, vr a, vi 0, vi 8, vr d, vi 0, vi 0, vi 0, su, su, su, su, su, su, su, su]) (by decide +kernel) (o_ew hW) (fun _ => en (by simp [argsToLocals, Value.category])) ?_
  intro k C
  obtain ⟨Sd, Od, Sf, Vf⟩ := id hSD
  have ld := Od.lt
  have lf := Vf.lt
  refine Go.ownd C (fun OW => ?_)
  have nd : dec ≠ d := ne_lt ld (OW _ (mi 0 rfl))
  have nf : fb ≠ d := ne_lt lf (OW _ (mi 0 rfl))
  refine Go.old C (fun X0 => ?_)
  replace Vf := Vf.k0 (Keep.ofExt X0)
  obtain ⟨k0, k1, k2, k3, e0, e1, e2⟩ := id hg0
  obtain ⟨k4, k5, k6, k7, e3, e4, e5⟩ := id hg1
  refine il C d41_0 rfl <| ifeqT C d41_2 (by decide) <| Go.getS C Sf (host := "") (Or.inl (w_119 hW)) Via.refl d41_11 <| Go.astore C d41_14 rfl (Ls' := #[vr dec, vr a, vi 0, vi 8, vr d, vi 0, vi 0, vi 0, vr fb, su, su, su, su, su, su, su]) rfl <| iN C d41_16 rfl <| iN C d41_17 rfl <| iN C d41_18 rfl <| Go.isub C d41_19 <| gq 8 rfl <| Go.bipush C (-4) d41_20 (by decide) <| Go.iand C d41_22 <| gq 8 (by  decide) <| Go.iadd C d41_23 <| gq 8 rfl <| Go.istore C d41_24 (Ls' := #[vr dec, vr a, vi 0, vi 8, vr d, vi 0, vi 0, vi 0, vr fb, vi 8, su, su, su, su, su, su]) rfl <| il C d41_26 rfl <| Go.istore C d41_28 (Ls' := #[vr dec, vr a, vi 0, vi 8, vr d, vi 0, vi 0, vi 0, vr fb, vi 8, vi 0, su, su, su, su, su]) rfl <| iN C d41_30 rfl <| il C d41_31 rfl <| icmpgeF C d41_33 (by decide) <| al C d41_36 rfl <| aN C d41_38 rfl <| iN C d41_39 rfl <| Go.iinc C 1 d41_40 rfl rfl (Ls' := #[vr dec, vr a, vi 1, vi 8, vr d, vi 0, vi 0, vi 0, vr fb, vi 8, vi 0, su, su, su, su, su]) rfl ?_
  refine Go.baload C V 0 (by decide) rfl rfl d41_43 <| Go.sipush C 255 d41_44 rfl <| Go.iand C d41_47 <| Go.eqI (x' := (o_sym q0)) (o_sym_all k0).1 <| Go.iaload C Vf ((o_sym q0)).toNatClampNeg (o_sym_all k0).2.1 rfl (o_sym_at k0) d41_48 <| Go.istore C d41_49 (Ls' := #[vr dec, vr a, vi 1, vi 8, vr d, vi 0, vi 0, vi 0, vr fb, vi 8, vi 0, vi q0, su, su, su, su]) rfl <| al C d41_51 rfl <| aN C d41_53 rfl <| iN C d41_54 rfl <| Go.iinc C 2 d41_55 rfl rfl (Ls' := #[vr dec, vr a, vi 2, vi 8, vr d, vi 0, vi 0, vi 0, vr fb, vi 8, vi 0, vi q0, su, su, su, su]) rfl <| Go.baload C V 1 (by decide) rfl rfl d41_58 <| Go.sipush C 255 d41_59 rfl <| Go.iand C d41_62 <| Go.eqI (x' := (o_sym q1)) (o_sym_all k1).1 <| Go.iaload C Vf ((o_sym q1)).toNatClampNeg (o_sym_all k1).2.1 rfl (o_sym_at k1) d41_63 <| Go.istore C d41_64 (Ls' := #[vr dec, vr a, vi 2, vi 8, vr d, vi 0, vi 0, vi 0, vr fb, vi 8, vi 0, vi q0, vi q1, su, su, su]) rfl ?_
  refine al C d41_66 rfl <| aN C d41_68 rfl <| iN C d41_69 rfl <| Go.iinc C 3 d41_70 rfl rfl (Ls' := #[vr dec, vr a, vi 3, vi 8, vr d, vi 0, vi 0, vi 0, vr fb, vi 8, vi 0, vi q0, vi q1, su, su, su]) rfl <| Go.baload C V 2 (by decide) rfl rfl d41_73 <| Go.sipush C 255 d41_74 rfl <| Go.iand C d41_77 <| Go.eqI (x' := (o_sym q2)) (o_sym_all k2).1 <| Go.iaload C Vf ((o_sym q2)).toNatClampNeg (o_sym_all k2).2.1 rfl (o_sym_at k2) d41_78 <| Go.istore C d41_79 (Ls' := #[vr dec, vr a, vi 3, vi 8, vr d, vi 0, vi 0, vi 0, vr fb, vi 8, vi 0, vi q0, vi q1, vi q2, su, su]) rfl <| al C d41_81 rfl <| aN C d41_83 rfl <| iN C d41_84 rfl <| Go.iinc C 4 d41_85 rfl rfl (Ls' := #[vr dec, vr a, vi 4, vi 8, vr d, vi 0, vi 0, vi 0, vr fb, vi 8, vi 0, vi q0, vi q1, vi q2, su, su]) rfl <| Go.baload C V 3 (by decide) rfl rfl d41_88 <| Go.sipush C 255 d41_89 rfl <| Go.iand C d41_92 <| Go.eqI (x' := (o_sym q3)) (o_sym_all k3).1 ?_
  refine Go.iaload C Vf ((o_sym q3)).toNatClampNeg (o_sym_all k3).2.1 rfl (o_sym_at k3) d41_93 <| Go.istore C d41_94 (Ls' := #[vr dec, vr a, vi 4, vi 8, vr d, vi 0, vi 0, vi 0, vr fb, vi 8, vi 0, vi q0, vi q1, vi q2, vi q3, su]) rfl <| il C d41_96 rfl <| il C d41_98 rfl <| Go.ior C d41_100 <| il C d41_101 rfl <| Go.ior C d41_103 <| il C d41_104 rfl <| Go.ior C d41_106 <| Go.ifge C d41_107 (fun hc107 => ?_) (fun hc107 => absurd hc107 (o_or4 k0 k1 k2 k3))
  refine il C d41_116 rfl <| Go.bipush C 18 d41_118 rfl <| Go.ishl C d41_120 <| il C d41_121 rfl <| Go.bipush C 12 d41_123 rfl <| Go.ishl C d41_125 <| Go.ior C d41_126 <| Go.eqI (x' := (o_w2 q0 q1)) rfl <| il C d41_127 rfl <| Go.bipush C 6 d41_129 rfl <| Go.ishl C d41_131 <| Go.ior C d41_132 <| Go.eqI (x' := (o_w3 q0 q1 q2)) rfl <| il C d41_133 rfl <| Go.ior C d41_135 <| Go.eqI (x' := (o_w4 q0 q1 q2 q3)) rfl <| Go.istore C d41_136 (Ls' := #[vr dec, vr a, vi 4, vi 8, vr d, vi 0, vi 0, vi 0, vr fb, vi 8, vi 0, vi q0, vi q1, vi q2, vi q3, vi (o_w4 q0 q1 q2 q3)]) rfl <| al C d41_138 rfl <| il C d41_140 rfl <| Go.iinc C 1 d41_142 rfl rfl (Ls' := #[vr dec, vr a, vi 4, vi 8, vr d, vi 0, vi 0, vi 0, vr fb, vi 8, vi 1, vi q0, vi q1, vi q2, vi q3, vi (o_w4 q0 q1 q2 q3)]) rfl <| il C d41_145 rfl <| Go.bipush C 16 d41_147 rfl <| Go.ishr C d41_149 <| Go.i2b C d41_150 <| gq x0 e0 <| Go.bastore C U (mi 0 rfl) 0 (by decide) rfl (nb rfl) (x' := x0) (o_B_nar hB0) (vs' := [.int x0, .int 0, .int 0, .int 0, .int 0, .int 0]) rfl d41_151 (fun h1 K2 U => ?_)
  replace V := V.keep K2 (ninS had nin0)
  replace Vf := Vf.keep K2 (ninS nf nin0)
  refine al C d41_152 rfl <| il C d41_154 rfl <| Go.iinc C 2 d41_156 rfl rfl (Ls' := #[vr dec, vr a, vi 4, vi 8, vr d, vi 0, vi 0, vi 0, vr fb, vi 8, vi 2, vi q0, vi q1, vi q2, vi q3, vi (o_w4 q0 q1 q2 q3)]) rfl <| il C d41_159 rfl <| Go.bipush C 8 d41_161 rfl <| Go.ishr C d41_163 <| Go.i2b C d41_164 <| gq x1 e1 <| Go.bastore C U (mi 0 rfl) 1 (by decide) rfl (nb rfl) (x' := x1) (o_B_nar hB1) (vs' := [.int x0, .int x1, .int 0, .int 0, .int 0, .int 0]) rfl d41_165 (fun h3 K4 U => ?_)
  replace V := V.keep K4 (ninS had nin0)
  replace Vf := Vf.keep K4 (ninS nf nin0)
  refine al C d41_166 rfl <| il C d41_168 rfl <| Go.iinc C 3 d41_170 rfl rfl (Ls' := #[vr dec, vr a, vi 4, vi 8, vr d, vi 0, vi 0, vi 0, vr fb, vi 8, vi 3, vi q0, vi q1, vi q2, vi q3, vi (o_w4 q0 q1 q2 q3)]) rfl <| il C d41_173 rfl <| Go.i2b C d41_175 <| gq x2 e2 <| Go.bastore C U (mi 0 rfl) 2 (by decide) rfl (nb rfl) (x' := x2) (o_B_nar hB2) (vs' := [.int x0, .int x1, .int x2, .int 0, .int 0, .int 0]) rfl d41_176 (fun h5 K6 U => ?_)
  replace V := V.keep K6 (ninS had nin0)
  replace Vf := Vf.keep K6 (ninS nf nin0)
  refine Go.goto C d41_177 <| iN C d41_30 rfl <| il C d41_31 rfl <| icmpgeF C d41_33 (by decide) <| al C d41_36 rfl <| aN C d41_38 rfl <| iN C d41_39 rfl <| Go.iinc C 5 d41_40 rfl rfl (Ls' := #[vr dec, vr a, vi 5, vi 8, vr d, vi 0, vi 0, vi 0, vr fb, vi 8, vi 3, vi q0, vi q1, vi q2, vi q3, vi (o_w4 q0 q1 q2 q3)]) rfl <| Go.baload C V 4 (by decide) rfl rfl d41_43 <| Go.sipush C 255 d41_44 rfl <| Go.iand C d41_47 <| Go.eqI (x' := (o_sym q4)) (o_sym_all k4).1 <| Go.iaload C Vf ((o_sym q4)).toNatClampNeg (o_sym_all k4).2.1 rfl (o_sym_at k4) d41_48 <| Go.istore C d41_49 (Ls' := #[vr dec, vr a, vi 5, vi 8, vr d, vi 0, vi 0, vi 0, vr fb, vi 8, vi 3, vi q4, vi q1, vi q2, vi q3, vi (o_w4 q0 q1 q2 q3)]) rfl <| al C d41_51 rfl <| aN C d41_53 rfl <| iN C d41_54 rfl <| Go.iinc C 6 d41_55 rfl rfl (Ls' := #[vr dec, vr a, vi 6, vi 8, vr d, vi 0, vi 0, vi 0, vr fb, vi 8, vi 3, vi q4, vi q1, vi q2, vi q3, vi (o_w4 q0 q1 q2 q3)]) rfl ?_
  refine Go.baload C V 5 (by decide) rfl rfl d41_58 <| Go.sipush C 255 d41_59 rfl <| Go.iand C d41_62 <| Go.eqI (x' := (o_sym q5)) (o_sym_all k5).1 <| Go.iaload C Vf ((o_sym q5)).toNatClampNeg (o_sym_all k5).2.1 rfl (o_sym_at k5) d41_63 <| Go.istore C d41_64 (Ls' := #[vr dec, vr a, vi 6, vi 8, vr d, vi 0, vi 0, vi 0, vr fb, vi 8, vi 3, vi q4, vi q5, vi q2, vi q3, vi (o_w4 q0 q1 q2 q3)]) rfl <| al C d41_66 rfl <| aN C d41_68 rfl <| iN C d41_69 rfl <| Go.iinc C 7 d41_70 rfl rfl (Ls' := #[vr dec, vr a, vi 7, vi 8, vr d, vi 0, vi 0, vi 0, vr fb, vi 8, vi 3, vi q4, vi q5, vi q2, vi q3, vi (o_w4 q0 q1 q2 q3)]) rfl <| Go.baload C V 6 (by decide) rfl rfl d41_73 <| Go.sipush C 255 d41_74 rfl <| Go.iand C d41_77 <| Go.eqI (x' := (o_sym q6)) (o_sym_all k6).1 <| Go.iaload C Vf ((o_sym q6)).toNatClampNeg (o_sym_all k6).2.1 rfl (o_sym_at k6) d41_78 <| Go.istore C d41_79 (Ls' := #[vr dec, vr a, vi 7, vi 8, vr d, vi 0, vi 0, vi 0, vr fb, vi 8, vi 3, vi q4, vi q5, vi q6, vi q3, vi (o_w4 q0 q1 q2 q3)]) rfl ?_
  refine al C d41_81 rfl <| aN C d41_83 rfl <| iN C d41_84 rfl <| Go.iinc C 8 d41_85 rfl rfl (Ls' := #[vr dec, vr a, vi 8, vi 8, vr d, vi 0, vi 0, vi 0, vr fb, vi 8, vi 3, vi q4, vi q5, vi q6, vi q3, vi (o_w4 q0 q1 q2 q3)]) rfl <| Go.baload C V 7 (by decide) rfl rfl d41_88 <| Go.sipush C 255 d41_89 rfl <| Go.iand C d41_92 <| Go.eqI (x' := (o_sym q7)) (o_sym_all k7).1 <| Go.iaload C Vf ((o_sym q7)).toNatClampNeg (o_sym_all k7).2.1 rfl (o_sym_at k7) d41_93 <| Go.istore C d41_94 (Ls' := #[vr dec, vr a, vi 8, vi 8, vr d, vi 0, vi 0, vi 0, vr fb, vi 8, vi 3, vi q4, vi q5, vi q6, vi q7, vi (o_w4 q0 q1 q2 q3)]) rfl <| il C d41_96 rfl <| il C d41_98 rfl <| Go.ior C d41_100 <| il C d41_101 rfl <| Go.ior C d41_103 <| il C d41_104 rfl <| Go.ior C d41_106 <| Go.ifge C d41_107 (fun hc107 => ?_) (fun hc107 => absurd hc107 (o_or4 k4 k5 k6 k7))
  refine il C d41_116 rfl <| Go.bipush C 18 d41_118 rfl <| Go.ishl C d41_120 <| il C d41_121 rfl <| Go.bipush C 12 d41_123 rfl <| Go.ishl C d41_125 <| Go.ior C d41_126 <| Go.eqI (x' := (o_w2 q4 q5)) rfl <| il C d41_127 rfl <| Go.bipush C 6 d41_129 rfl <| Go.ishl C d41_131 <| Go.ior C d41_132 <| Go.eqI (x' := (o_w3 q4 q5 q6)) rfl <| il C d41_133 rfl <| Go.ior C d41_135 <| Go.eqI (x' := (o_w4 q4 q5 q6 q7)) rfl <| Go.istore C d41_136 (Ls' := #[vr dec, vr a, vi 8, vi 8, vr d, vi 0, vi 0, vi 0, vr fb, vi 8, vi 3, vi q4, vi q5, vi q6, vi q7, vi (o_w4 q4 q5 q6 q7)]) rfl <| al C d41_138 rfl <| il C d41_140 rfl <| Go.iinc C 4 d41_142 rfl rfl (Ls' := #[vr dec, vr a, vi 8, vi 8, vr d, vi 0, vi 0, vi 0, vr fb, vi 8, vi 4, vi q4, vi q5, vi q6, vi q7, vi (o_w4 q4 q5 q6 q7)]) rfl <| il C d41_145 rfl <| Go.bipush C 16 d41_147 rfl <| Go.ishr C d41_149 <| Go.i2b C d41_150 <| gq x3 e3 <| Go.bastore C U (mi 0 rfl) 3 (by decide) rfl (nb rfl) (x' := x3) (o_B_nar hB3) (vs' := [.int x0, .int x1, .int x2, .int x3, .int 0, .int 0]) rfl d41_151 (fun h7 K8 U => ?_)
  refine al C d41_152 rfl <| il C d41_154 rfl <| Go.iinc C 5 d41_156 rfl rfl (Ls' := #[vr dec, vr a, vi 8, vi 8, vr d, vi 0, vi 0, vi 0, vr fb, vi 8, vi 5, vi q4, vi q5, vi q6, vi q7, vi (o_w4 q4 q5 q6 q7)]) rfl <| il C d41_159 rfl <| Go.bipush C 8 d41_161 rfl <| Go.ishr C d41_163 <| Go.i2b C d41_164 <| gq x4 e4 <| Go.bastore C U (mi 0 rfl) 4 (by decide) rfl (nb rfl) (x' := x4) (o_B_nar hB4) (vs' := [.int x0, .int x1, .int x2, .int x3, .int x4, .int 0]) rfl d41_165 (fun h9 K10 U => ?_)
  refine al C d41_166 rfl <| il C d41_168 rfl <| Go.iinc C 6 d41_170 rfl rfl (Ls' := #[vr dec, vr a, vi 8, vi 8, vr d, vi 0, vi 0, vi 0, vr fb, vi 8, vi 6, vi q4, vi q5, vi q6, vi q7, vi (o_w4 q4 q5 q6 q7)]) rfl <| il C d41_173 rfl <| Go.i2b C d41_175 <| gq x5 e5 <| Go.bastore C U (mi 0 rfl) 5 (by decide) rfl (nb rfl) (x' := x5) (o_B_nar hB5) (vs' := [.int x0, .int x1, .int x2, .int x3, .int x4, .int x5]) rfl d41_176 (fun h11 K12 U => ?_)
  refine Go.goto C d41_177 <| iN C d41_30 rfl <| il C d41_31 rfl <| icmpgeT C d41_33 (by decide) <| il C d41_180 rfl <| il C d41_182 rfl <| Go.isub C d41_184 <| gq 6 rfl <| Go.ireturn C d41_185 (nb rfl) (nb rfl) (by simp) rfl [] nx ?_
  exact ⟨rfl, rfl, U⟩
theorem rmD6 (hW : W0 Z a0) (h : Heap) (dec fb a d : Addr) (q0 q1 q2 q3 q4 q5 q6 q7 x0 x1 x2 x3 x4 x5 : Int32) (V : Av Z h a .byte [.int (o_sym q0), .int (o_sym q1), .int (o_sym q2), .int (o_sym q3), .int (o_sym q4), .int (o_sym q5), .int (o_sym q6), .int (o_sym q7)]) (U : Av Z h d .byte [.int 0, .int 0, .int 0, .int 0, .int 0, .int 0]) (hSD : o_SD Z dec fb) (hg0 : o_g3 q0 q1 q2 q3 x0 x1 x2) (hg1 : o_g3 q4 q5 q6 q7 x3 x4 x5) (hB0 : o_B x0) (hB1 : o_B x1) (hB2 : o_B x2) (hB3 : o_B x3) (hB4 : o_B x4) (hB5 : o_B x5) (had : a ≠ d) :
    Con l Z o_EL true y_17 c22 11 (some .int) ⟨1, 0, 0, 40⟩ [] #[.ref dec, .ref a, .int 0, .int 8, .ref d] h [d] (fun v h' os' => v = some (.int 6) ∧ os' = [] ∧ Av Z h' d .byte [.int x0, .int x1, .int x2, .int x3, .int x4, .int x5]) := by
  refine Con.intro (Ls := #[vr dec, vr a, vi 0, vi 8, vr d, su, su, su, su, su, su]) (by decide +kernel) (o_ew hW) (fun _ => en (by simp [argsToLocals, Value.category])) ?_
  intro k C
  obtain ⟨Sd, Od, Sf, Vf⟩ := id hSD
  have ld := Od.lt
  have lf := Vf.lt
  refine Go.ownd C (fun OW => ?_)
  have nd : dec ≠ d := ne_lt ld (OW _ (mi 0 rfl))
  have nf : fb ≠ d := ne_lt lf (OW _ (mi 0 rfl))
  refine Go.old C (fun X0 => ?_)
  replace Od := Od.k0 (Keep.ofExt X0)
  obtain ⟨k0, k1, k2, k3, e0, e1, e2⟩ := id hg0
  obtain ⟨k4, k5, k6, k7, e3, e4, e5⟩ := id hg1
  refine aN C d22_0 rfl <| gF C Od 0 rfl rfl (w_117 hW) d22_1 <| ifeqT C d22_4 (by decide) <| Go.getS C Sf (host := "") (Or.inl (w_119 hW)) Via.refl d22_13 <| Go.astore C d22_16 rfl (Ls' := #[vr dec, vr a, vi 0, vi 8, vr d, vr fb, su, su, su, su, su]) rfl <| ic C 0 d22_18 rfl <| Go.istore C d22_19 (Ls' := #[vr dec, vr a, vi 0, vi 8, vr d, vr fb, vi 0, su, su, su, su]) rfl <| ic C 0 d22_21 rfl <| Go.istore C d22_22 (Ls' := #[vr dec, vr a, vi 0, vi 8, vr d, vr fb, vi 0, vi 0, su, su, su]) rfl <| Go.bipush C 18 d22_24 rfl <| Go.istore C d22_26 (Ls' := #[vr dec, vr a, vi 0, vi 8, vr d, vr fb, vi 0, vi 0, vi 18, su, su]) rfl <| iN C d22_28 rfl <| iN C d22_29 rfl <| icmpgeF C d22_30 (by decide) <| il C d22_33 rfl <| Go.bipush C 18 d22_35 rfl <| icmpneF C d22_37 (by decide) <| iN C d22_40 rfl <| iN C d22_41 rfl <| ic C 4 d22_42 rfl <| Go.isub C d22_43 <| gq 4 rfl <| icmpgeF C d22_44 (by decide) ?_
  refine aN C d22_47 rfl <| aN C d22_48 rfl <| iN C d22_49 rfl <| iN C d22_50 rfl <| al C d22_51 rfl <| il C d22_53 rfl <| aN C d22_55 rfl <| gF C Od 0 rfl rfl (w_117 hW) d22_56 <| aN C d22_59 rfl <| gF C Od 1 rfl rfl (w_120 hW) d22_60 <| Go.callP C (z := y_20) (a := dec) (argsL := [.ref a, .int 0, .int 8, .ref d, .int 0, .int 0, .int 0]) (rmB6 hW h dec fb a d q0 q1 q2 q3 q4 q5 q6 q7 x0 x1 x2 x3 x4 x5 V U hSD hg0 hg1 hB0 hB1 hB2 hB3 hB4 hB5 had) Od.1 (w_237 hW) (w_238 hW) (w_240 hW) (w_239 hW) (w_68 hW) (w_241 hW) d22_63 pd_13 rfl (by decide) rfl (st := []) rfl (by decide) (nb rfl) (by decide) (by decide) (fm ⟨(mi 0 rfl), nx⟩) (fun _ _ _ q4 _ _ => ?_)
  obtain ⟨rfl, rfl, F7⟩ := q4
  show Go k _ _ _ _ _ _ [.int 6]
  refine Go.istore C d22_66 (Ls' := #[vr dec, vr a, vi 0, vi 8, vr d, vr fb, vi 0, vi 0, vi 18, vi 6, su]) rfl <| il C d22_68 rfl <| ic C 2 d22_70 rfl <| Go.iadd C d22_71 <| gq 8 rfl <| ic C 3 d22_72 rfl <| Go.idiv C d22_73 (by decide) <| gq 2 rfl <| ic C 4 d22_74 rfl <| Go.imul C d22_75 <| gq 8 rfl <| Go.istore C d22_76 (Ls' := #[vr dec, vr a, vi 0, vi 8, vr d, vr fb, vi 0, vi 0, vi 18, vi 6, vi 8]) rfl <| iN C d22_78 rfl <| il C d22_79 rfl <| Go.iadd C d22_81 <| gq 8 rfl <| Go.istoreN C d22_82 (Ls' := #[vr dec, vr a, vi 8, vi 8, vr d, vr fb, vi 0, vi 0, vi 18, vi 6, vi 8]) rfl <| il C d22_83 rfl <| il C d22_85 rfl <| Go.iadd C d22_87 <| gq 6 rfl <| Go.istore C d22_88 (Ls' := #[vr dec, vr a, vi 8, vi 8, vr d, vr fb, vi 6, vi 0, vi 18, vi 6, vi 8]) rfl <| iN C d22_90 rfl <| iN C d22_91 rfl <| icmpltF C d22_92 (by decide) <| Go.goto C d22_95 <| il C d22_281 rfl <| Go.bipush C 6 d22_283 rfl ?_
  refine icmpneT C d22_285 (by decide) <| il C d22_305 rfl <| ifneT C d22_307 (by decide) <| il C d22_341 rfl <| Go.bipush C 12 d22_343 rfl <| icmpneT C d22_345 (by decide) <| iN C d22_358 rfl <| iN C d22_359 rfl <| icmpgeT C d22_360 (by decide) <| il C d22_416 rfl <| Go.ireturn C d22_418 (nb rfl) (nb rfl) (by simp) rfl [] nx ?_
  exact ⟨rfl, rfl, F7⟩
theorem rmE6 (hW : W0 Z a0) (h : Heap) (dec fb a : Addr) (q0 q1 q2 q3 q4 q5 q6 q7 x0 x1 x2 x3 x4 x5 : Int32) (V : Av Z h a .byte [.int (o_sym q0), .int (o_sym q1), .int (o_sym q2), .int (o_sym q3), .int (o_sym q4), .int (o_sym q5), .int (o_sym q6), .int (o_sym q7)]) (hSD : o_SD Z dec fb) (hg0 : o_g3 q0 q1 q2 q3 x0 x1 x2) (hg1 : o_g3 q4 q5 q6 q7 x3 x4 x5) (hB0 : o_B x0) (hB1 : o_B x1) (hB2 : o_B x2) (hB3 : o_B x3) (hB4 : o_B x4) (hB5 : o_B x5) :
    Con l Z o_EL true y_18 c20 4 (some (.array .byte)) ⟨2, 1, 6, 66⟩ [] #[.ref dec, .ref a] h [] (fun v h' os' => ∃ r : Addr, v = some (.ref r) ∧ os' = [] ∧ Av Z h' r .byte [.int x0, .int x1, .int x2, .int x3, .int x4, .int x5]) := by
  refine Con.intro (Ls := #[vr dec, vr a, su, su]) (by decide +kernel) (o_ew hW) (fun _ => en (by simp [argsToLocals, Value.category])) ?_
  intro k C
  obtain ⟨Sd, Od, Sf, Vf⟩ := id hSD
  refine Go.old C (fun X0 => ?_)
  replace Od := Od.k0 (Keep.ofExt X0)
  refine aN C d20_0 rfl <| aN C d20_1 rfl <| ic C 0 d20_2 rfl <| aN C d20_3 rfl <| Go.arraylength C V (8 : Int32) rfl d20_4 <| Go.callP C (z := y_16) (a := dec) (argsL := [.ref a, .int 0, .int 8]) (rmL6 hW h dec fb a q0 q1 q2 q3 q4 q5 q6 q7 x0 x1 x2 x3 x4 x5 V hSD hg0 hg1) Od.1 (w_112 hW) (w_113 hW) (w_115 hW) (w_114 hW) (w_68 hW) (w_116 hW) d20_5 pd_9 rfl (by decide) rfl (st := []) rfl (by decide) (nb rfl) (by decide) (by decide) nx (fun _ _ _ q4 _ _ => ?_)
  obtain ⟨rfl, rfl, rfl⟩ := q4
  show Go k _ _ _ _ _ _ [.int 6]
  refine Go.newarray C (aty := .byte) (w_31 hW) d20_8 (by decide) 6 rfl (cap := 6) (by decide) (by decide) (by decide) (by decide) (fun b7 h8 e9 K10 A11 => ?_)
  have A11 : Av Z h8 b7 .byte [.int 0, .int 0, .int 0, .int 0, .int 0, .int 0] := A11
  have n_a_b7 : a ≠ b7 := ne_lt V.lt (ge_of e9)
  replace V := V.k0 K10
  replace Od := Od.k0 K10
  refine Go.astoreN C d20_10 rfl (Ls' := #[vr dec, vr a, vr b7, su]) rfl <| aN C d20_11 rfl <| aN C d20_12 rfl <| ic C 0 d20_13 rfl <| aN C d20_14 rfl <| Go.arraylength C V (8 : Int32) rfl d20_15 <| aN C d20_16 rfl <| Go.callP C (z := y_17) (a := dec) (argsL := [.ref a, .int 0, .int 8, .ref b7]) (rmD6 hW h8 dec fb a b7 q0 q1 q2 q3 q4 q5 q6 q7 x0 x1 x2 x3 x4 x5 V A11 hSD hg0 hg1 hB0 hB1 hB2 hB3 hB4 hB5 n_a_b7) Od.1 (w_124 hW) (w_125 hW) (w_127 hW) (w_126 hW) (w_68 hW) (w_128 hW) d20_17 pd_10 rfl (by decide) rfl (st := []) rfl (by decide) (nb rfl) (by decide) (by decide) (fm ⟨(mi 0 rfl), nx⟩) (fun _ _ _ q15 _ _ => ?_)
  obtain ⟨rfl, rfl, F18⟩ := q15
  show Go k _ _ _ _ _ _ [.int 6]
  refine Go.istoreN C d20_20 (Ls' := #[vr dec, vr a, vr b7, vi 6]) rfl <| iN C d20_21 rfl <| aN C d20_22 rfl <| Go.arraylength C F18 (6 : Int32) rfl d20_23 <| icmpeqT C d20_24 (by decide) <| aN C d20_33 rfl <| Go.areturn C d20_34 (nb rfl) (nb rfl) rfl rfl [] nx ?_
  exact ⟨_, rfl, rfl, F18⟩
theorem rmT6 (hW : W0 Z a0) (h : Heap) (dec fb iso utf y t : Addr) (q0 q1 q2 q3 q4 q5 q6 q7 x0 x1 x2 x3 x4 x5 : Int32) (S : Str Z h y t [(o_sym q0), (o_sym q1), (o_sym q2), (o_sym q3), (o_sym q4), (o_sym q5), (o_sym q6), (o_sym q7)]) (hSD : o_SD Z dec fb) (hSC : o_SC Z iso utf) (hg0 : o_g3 q0 q1 q2 q3 x0 x1 x2) (hg1 : o_g3 q4 q5 q6 q7 x3 x4 x5) (hB0 : o_B x0) (hB1 : o_B x1) (hB2 : o_B x2) (hB3 : o_B x3) (hB4 : o_B x4) (hB5 : o_B x5) :
    Con l Z o_EL true y_19 c14 2 (some (.array .byte)) ⟨5, 2, 14, 105⟩ [] #[.ref dec, .ref y] h [] (fun v h' os' => ∃ r : Addr, v = some (.ref r) ∧ os' = [] ∧ Av Z h' r .byte [.int x0, .int x1, .int x2, .int x3, .int x4, .int x5]) := by
  refine Con.intro (Ls := #[vr dec, vr y]) (by decide +kernel) (o_ew hW) (fun _ => en (by simp [argsToLocals, Value.category])) ?_
  intro k C
  obtain ⟨Sd, Od, Sf, Vf⟩ := id hSD
  refine Go.old C (fun X0 => ?_)
  replace Od := Od.k0 (Keep.ofExt X0)
  obtain ⟨Si, -⟩ := id hSC
  refine aN C d14_0 rfl <| aN C d14_1 rfl <| Go.getS C Si (host := "") (Or.inl (w_74 hW)) Via.refl d14_2 <| Go.callV C (z := y_15) (zr := y_15) (a := y) (argsL := [.ref iso]) (rm15 hW h y t ([(o_sym q0), (o_sym q1), (o_sym q2), (o_sym q3), (o_sym q4), (o_sym q5), (o_sym q6), (o_sym q7)]) iso utf S (nb rfl) hSC) S.exa (w_76 hW) (w_77 hW) (fun hz => notFace_of_selects (args := #[]) (mvT hz (w_79 hW))) (w_79 hW) (w_78 hW) (w_15 hW) (w_80 hW) d14_5 pd_11 rfl (by decide) rfl (st := [.ref dec]) rfl (by decide) (nb rfl) (by decide) (by decide) nx (fun _ h2 _ q4 K5 _ => ?_)
  obtain ⟨r7, rfl, rfl, F8⟩ := q4
  replace Od := Od.k0 K5
  show Go k _ _ _ _ _ _ [.ref r7, .ref dec]
  have F8 : Av Z h2 r7 .byte [.int (o_sym q0), .int (o_sym q1), .int (o_sym q2), .int (o_sym q3), .int (o_sym q4), .int (o_sym q5), .int (o_sym q6), .int (o_sym q7)] := F8
  refine Go.callV C (z := y_18) (zr := y_18) (a := dec) (argsL := [.ref r7]) (rmE6 hW h2 dec fb r7 q0 q1 q2 q3 q4 q5 q6 q7 x0 x1 x2 x3 x4 x5 F8 hSD hg0 hg1 hB0 hB1 hB2 hB3 hB4 hB5) Od.1 (w_107 hW) (w_108 hW) (fun hz => notFace_of_selects (args := #[]) (mvT hz (w_110 hW))) (w_110 hW) (w_109 hW) (w_68 hW) (w_111 hW) d14_8 pd_12 rfl (by decide) rfl (st := []) rfl (by decide) (nb rfl) (by decide) (by decide) nx (fun _ _ _ q12 _ _ => ?_)
  obtain ⟨r15, rfl, rfl, F16⟩ := q12
  show Go k _ _ _ _ _ _ [.ref r15]
  refine Go.areturn C d14_11 (nb rfl) (nb rfl) rfl rfl [] nx ?_
  exact ⟨_, rfl, rfl, F16⟩
theorem o_lp_S0 {k : KT} {l : Launch} {Z : State} {a0 : Array Value} (hW : W0 Z a0) {h0 : Heap} {a : Addr} {vs : List Value} {h : Heap} {f : Nat} {y0 len : Int32} {kk : Int} {QQ : QT}
    (C : Ctx k l y_21 c28 8 (some (.array .int)) ⟨0, 1, 2, 0⟩ Z a0 o_EL true [] h0 QQ) (V : Av Z h a .byte vs) (hf : f < 100) (hB : o_B y0) (h1 : ¬ y0 = 0) (hv : kk = y0.toInt % 256) (hQ : ∀ (m : Addr) (M : List Int32) (h' : Heap), o_mg M kk → h.size ≤ m → Av Z h' m .int (List.map Value.int M) → QQ (some (.ref m)) h' []) :
    Go k h [] 0 0 60 #[vi y0, vr a, vi (oN f), vi len, vi (oN f), su, su, su] [] := by
  refine il C d28_60 rfl <| iN C d28_62 rfl <| Go.isub C d28_63 <| gq 0 (Int32.sub_self _) <| ic C 2 d28_64 rfl <| Go.ishr C d28_65 <| gq 0 rfl <| ic C 1 d28_66 rfl <| Go.iadd C d28_67 <| gq 1 rfl <| Go.newarray C (aty := .int) (w_159 hW) d28_68 (by decide) 1 rfl (cap := 1) (by decide) (by decide) (by decide) (by decide) (fun b1 h2 e3 _ A5 => ?_)
  have A5 : Av Z h2 b1 .int [.int 0] := A5
  refine Go.astore C d28_70 rfl (Ls' := #[vi y0, vr a, vi (oN f), vi len, vi (oN f), vr b1, su, su]) rfl <| iN C d28_72 rfl <| Go.sipush C 255 d28_73 rfl <| Go.iand C d28_76 <| Go.istore C d28_77 (Ls' := #[vi y0, vr a, vi (oN f), vi len, vi (oN f), vr b1, vi (y0 &&& 255), su]) rfl <| il C d28_79 rfl <| iN C d28_81 rfl <| Go.isub C d28_82 <| gq 0 (Int32.sub_self _) <| ic C 3 d28_83 rfl <| Go.iand C d28_84 <| gq 0 rfl <| ifeqT C d28_85 (by decide) <| al C d28_109 rfl <| ic C 0 d28_111 rfl <| il C d28_112 rfl <| Go.iastore C A5 (mi 0 rfl) 0 (by decide) rfl (nb rfl) (vs' := [.int (y0 &&& 255)]) rfl d28_114 (fun _ _ A5 => ?_)
  refine ic C 1 d28_115 rfl <| Go.istore C d28_116 (Ls' := #[vi y0, vr a, vi (oN f), vi len, vi (oN f), vr b1, vi (y0 &&& 255), vi 1]) rfl <| iN C d28_118 rfl <| il C d28_119 rfl <| Go.icmpge C d28_121 (fun hc121 => ?_) (fun hc121 => absurd hc121 Int32.lt_irrefl)
  refine al C d28_183 rfl <| Go.areturn C d28_185 (nb rfl) (nb rfl) rfl rfl [] nx ?_
  obtain ⟨u0, v0⟩ := hB
  have hmg : o_mg [(y0 &&& 255)] kk := by
    have z0 := o_int1 h1
    have z1 := o_m_int y0
    exact o_mg1 (show kk = o_u (y0 &&& 255) from by unfold o_u; omega) (by omega)
  exact hQ _ [(y0 &&& 255)] _ hmg (ge_of e3) A5
theorem o_lp_S1 {k : KT} {l : Launch} {Z : State} {a0 : Array Value} (hW : W0 Z a0) {h0 : Heap} {a : Addr} {vs : List Value} {h : Heap} {f : Nat} {y0 y1 len : Int32} {kk : Int} {QQ : QT}
    (C : Ctx k l y_21 c28 8 (some (.array .int)) ⟨0, 1, 2, 0⟩ Z a0 o_EL true [] h0 QQ) (V : Av Z h a .byte vs) (hf : f < 100) (hy1 : vs[f]? = some (.int y1)) (hB : o_B y0) (h1 : ¬ y0 = 0) (hv : kk = (y0.toInt % 256 * 256 + y1.toInt % 256)) (hQ : ∀ (m : Addr) (M : List Int32) (h' : Heap), o_mg M kk → h.size ≤ m → Av Z h' m .int (List.map Value.int M) → QQ (some (.ref m)) h' []) :
    Go k h [] 0 0 60 #[vi y0, vr a, vi (oN f), vi len, vi (oN (f + 1)), su, su, su] [] := by
  refine il C d28_60 rfl <| iN C d28_62 rfl <| Go.isub C d28_63 <| gq 1 (o_sb (f := f) (a := 1) (b := 0) (by decide)) <| ic C 2 d28_64 rfl <| Go.ishr C d28_65 <| gq 0 rfl <| ic C 1 d28_66 rfl <| Go.iadd C d28_67 <| gq 1 rfl <| Go.newarray C (aty := .int) (w_159 hW) d28_68 (by decide) 1 rfl (cap := 1) (by decide) (by decide) (by decide) (by decide) (fun b1 h2 e3 K4 A5 => ?_)
  have A5 : Av Z h2 b1 .int [.int 0] := A5
  replace V := V.k0 K4
  refine Go.astore C d28_70 rfl (Ls' := #[vi y0, vr a, vi (oN f), vi len, vi (oN (f + 1)), vr b1, su, su]) rfl <| iN C d28_72 rfl <| Go.sipush C 255 d28_73 rfl <| Go.iand C d28_76 <| Go.istore C d28_77 (Ls' := #[vi y0, vr a, vi (oN f), vi len, vi (oN (f + 1)), vr b1, vi (y0 &&& 255), su]) rfl <| il C d28_79 rfl <| iN C d28_81 rfl <| Go.isub C d28_82 <| gq 1 (o_sb (f := f) (a := 1) (b := 0) (by decide)) <| ic C 3 d28_83 rfl <| Go.iand C d28_84 <| gq 1 rfl <| ifeqF C d28_85 (by decide) <| il C d28_88 rfl <| Go.bipush C 8 d28_90 rfl <| Go.ishl C d28_92 <| aN C d28_93 rfl <| iN C d28_94 rfl <| Go.iinc C (oN (f + 1)) d28_95 rfl (nI_succ _) (Ls' := #[vi y0, vr a, vi (oN (f + 1)), vi len, vi (oN (f + 1)), vr b1, vi (y0 &&& 255), su]) rfl <| Go.baload C V f (nI_nn (by omega)) (nI_nat (by omega)) hy1 d28_98 <| Go.sipush C 255 d28_99 rfl <| Go.iand C d28_102 <| Go.ior C d28_103 <| Go.eqI (x' := (o_ct (y0 &&& 255) y1)) rfl ?_
  refine Go.istore C d28_104 (Ls' := #[vi y0, vr a, vi (oN (f + 1)), vi len, vi (oN (f + 1)), vr b1, vi (o_ct (y0 &&& 255) y1), su]) rfl <| Go.goto C d28_106 <| il C d28_79 rfl <| iN C d28_81 rfl <| Go.isub C d28_82 <| gq 0 (Int32.sub_self _) <| ic C 3 d28_83 rfl <| Go.iand C d28_84 <| gq 0 rfl <| ifeqT C d28_85 (by decide) <| al C d28_109 rfl <| ic C 0 d28_111 rfl <| il C d28_112 rfl <| Go.iastore C A5 (mi 0 rfl) 0 (by decide) rfl (nb rfl) (vs' := [.int (o_ct (y0 &&& 255) y1)]) rfl d28_114 (fun _ _ A5 => ?_)
  refine ic C 1 d28_115 rfl <| Go.istore C d28_116 (Ls' := #[vi y0, vr a, vi (oN (f + 1)), vi len, vi (oN (f + 1)), vr b1, vi (o_ct (y0 &&& 255) y1), vi 1]) rfl <| iN C d28_118 rfl <| il C d28_119 rfl <| Go.icmpge C d28_121 (fun hc121 => ?_) (fun hc121 => absurd hc121 Int32.lt_irrefl)
  refine al C d28_183 rfl <| Go.areturn C d28_185 (nb rfl) (nb rfl) rfl rfl [] nx ?_
  obtain ⟨u0, v0⟩ := hB
  have hmg : o_mg [(o_ct (y0 &&& 255) y1)] kk := by
    have z0 := o_int1 h1
    have z1 := o_m_int y0
    have z2 := o_ct_int (y0 &&& 255) y1
    exact o_mg1 (show kk = o_u (o_ct (y0 &&& 255) y1) from by unfold o_u; omega) (by omega)
  exact hQ _ [(o_ct (y0 &&& 255) y1)] _ hmg (ge_of e3) A5
theorem o_lp_S2 {k : KT} {l : Launch} {Z : State} {a0 : Array Value} (hW : W0 Z a0) {h0 : Heap} {a : Addr} {vs : List Value} {h : Heap} {f : Nat} {y0 y1 y2 len : Int32} {kk : Int} {QQ : QT}
    (C : Ctx k l y_21 c28 8 (some (.array .int)) ⟨0, 1, 2, 0⟩ Z a0 o_EL true [] h0 QQ) (V : Av Z h a .byte vs) (hf : f < 100) (hy1 : vs[f]? = some (.int y1)) (hy2 : vs[f + 1]? = some (.int y2)) (hB : o_B y0) (h1 : ¬ y0 = 0) (hv : kk = ((y0.toInt % 256 * 256 + y1.toInt % 256) * 256 + y2.toInt % 256)) (hQ : ∀ (m : Addr) (M : List Int32) (h' : Heap), o_mg M kk → h.size ≤ m → Av Z h' m .int (List.map Value.int M) → QQ (some (.ref m)) h' []) :
    Go k h [] 0 0 60 #[vi y0, vr a, vi (oN f), vi len, vi (oN (f + 2)), su, su, su] [] := by
  refine il C d28_60 rfl <| iN C d28_62 rfl <| Go.isub C d28_63 <| gq 2 (o_sb (f := f) (a := 2) (b := 0) (by decide)) <| ic C 2 d28_64 rfl <| Go.ishr C d28_65 <| gq 0 rfl <| ic C 1 d28_66 rfl <| Go.iadd C d28_67 <| gq 1 rfl <| Go.newarray C (aty := .int) (w_159 hW) d28_68 (by decide) 1 rfl (cap := 1) (by decide) (by decide) (by decide) (by decide) (fun b1 h2 e3 K4 A5 => ?_)
  have A5 : Av Z h2 b1 .int [.int 0] := A5
  replace V := V.k0 K4
  refine Go.astore C d28_70 rfl (Ls' := #[vi y0, vr a, vi (oN f), vi len, vi (oN (f + 2)), vr b1, su, su]) rfl <| iN C d28_72 rfl <| Go.sipush C 255 d28_73 rfl <| Go.iand C d28_76 <| Go.istore C d28_77 (Ls' := #[vi y0, vr a, vi (oN f), vi len, vi (oN (f + 2)), vr b1, vi (y0 &&& 255), su]) rfl <| il C d28_79 rfl <| iN C d28_81 rfl <| Go.isub C d28_82 <| gq 2 (o_sb (f := f) (a := 2) (b := 0) (by decide)) <| ic C 3 d28_83 rfl <| Go.iand C d28_84 <| gq 2 rfl <| ifeqF C d28_85 (by decide) <| il C d28_88 rfl <| Go.bipush C 8 d28_90 rfl <| Go.ishl C d28_92 <| aN C d28_93 rfl <| iN C d28_94 rfl <| Go.iinc C (oN (f + 1)) d28_95 rfl (nI_succ _) (Ls' := #[vi y0, vr a, vi (oN (f + 1)), vi len, vi (oN (f + 2)), vr b1, vi (y0 &&& 255), su]) rfl <| Go.baload C V f (nI_nn (by omega)) (nI_nat (by omega)) hy1 d28_98 <| Go.sipush C 255 d28_99 rfl <| Go.iand C d28_102 <| Go.ior C d28_103 <| Go.eqI (x' := (o_ct (y0 &&& 255) y1)) rfl ?_
  refine Go.istore C d28_104 (Ls' := #[vi y0, vr a, vi (oN (f + 1)), vi len, vi (oN (f + 2)), vr b1, vi (o_ct (y0 &&& 255) y1), su]) rfl <| Go.goto C d28_106 <| il C d28_79 rfl <| iN C d28_81 rfl <| Go.isub C d28_82 <| gq 1 (o_sb (f := f) (a := 2) (b := 1) (by decide)) <| ic C 3 d28_83 rfl <| Go.iand C d28_84 <| gq 1 rfl <| ifeqF C d28_85 (by decide) <| il C d28_88 rfl <| Go.bipush C 8 d28_90 rfl <| Go.ishl C d28_92 <| aN C d28_93 rfl <| iN C d28_94 rfl <| Go.iinc C (oN (f + 2)) d28_95 rfl (nI_succ _) (Ls' := #[vi y0, vr a, vi (oN (f + 2)), vi len, vi (oN (f + 2)), vr b1, vi (o_ct (y0 &&& 255) y1), su]) rfl <| Go.baload C V (f + 1) (nI_nn (by omega)) (nI_nat (by omega)) hy2 d28_98 <| Go.sipush C 255 d28_99 rfl <| Go.iand C d28_102 <| Go.ior C d28_103 <| Go.eqI (x' := (o_ct (o_ct (y0 &&& 255) y1) y2)) rfl <| Go.istore C d28_104 (Ls' := #[vi y0, vr a, vi (oN (f + 2)), vi len, vi (oN (f + 2)), vr b1, vi (o_ct (o_ct (y0 &&& 255) y1) y2), su]) rfl ?_
  refine Go.goto C d28_106 <| il C d28_79 rfl <| iN C d28_81 rfl <| Go.isub C d28_82 <| gq 0 (Int32.sub_self _) <| ic C 3 d28_83 rfl <| Go.iand C d28_84 <| gq 0 rfl <| ifeqT C d28_85 (by decide) <| al C d28_109 rfl <| ic C 0 d28_111 rfl <| il C d28_112 rfl <| Go.iastore C A5 (mi 0 rfl) 0 (by decide) rfl (nb rfl) (vs' := [(.int (o_ct (o_ct (y0 &&& 255) y1) y2))]) rfl d28_114 (fun _ _ A5 => ?_)
  refine ic C 1 d28_115 rfl <| Go.istore C d28_116 (Ls' := #[vi y0, vr a, vi (oN (f + 2)), vi len, vi (oN (f + 2)), vr b1, vi (o_ct (o_ct (y0 &&& 255) y1) y2), vi 1]) rfl <| iN C d28_118 rfl <| il C d28_119 rfl <| Go.icmpge C d28_121 (fun hc121 => ?_) (fun hc121 => absurd hc121 Int32.lt_irrefl)
  refine al C d28_183 rfl <| Go.areturn C d28_185 (nb rfl) (nb rfl) rfl rfl [] nx ?_
  obtain ⟨u0, v0⟩ := hB
  have hmg : o_mg [(o_ct (o_ct (y0 &&& 255) y1) y2)] kk := by
    have z0 := o_int1 h1
    have z1 := o_m_int y0
    have z2 := o_ct_int (o_ct (y0 &&& 255) y1) y2
    have z3 := o_ct_int (y0 &&& 255) y1
    exact o_mg1 (show kk = o_u (o_ct (o_ct (y0 &&& 255) y1) y2) from by unfold o_u; omega) (by omega)
  exact hQ _ [(o_ct (o_ct (y0 &&& 255) y1) y2)] _ hmg (ge_of e3) A5
theorem o_lp_S3 {k : KT} {l : Launch} {Z : State} {a0 : Array Value} (hW : W0 Z a0) {h0 : Heap} {a : Addr} {vs : List Value} {h : Heap} {f : Nat} {y0 y1 y2 y3 len : Int32} {kk : Int} {QQ : QT}
    (C : Ctx k l y_21 c28 8 (some (.array .int)) ⟨0, 1, 2, 0⟩ Z a0 o_EL true [] h0 QQ) (V : Av Z h a .byte vs) (hf : f < 100) (hy1 : vs[f]? = some (.int y1)) (hy2 : vs[f + 1]? = some (.int y2)) (hy3 : vs[f + 2]? = some (.int y3)) (hB : o_B y0) (h1 : ¬ y0 = 0) (hv : kk = (((y0.toInt % 256 * 256 + y1.toInt % 256) * 256 + y2.toInt % 256) * 256 + y3.toInt % 256)) (hQ : ∀ (m : Addr) (M : List Int32) (h' : Heap), o_mg M kk → h.size ≤ m → Av Z h' m .int (List.map Value.int M) → QQ (some (.ref m)) h' []) :
    Go k h [] 0 0 60 #[vi y0, vr a, vi (oN f), vi len, vi (oN (f + 3)), su, su, su] [] := by
  refine il C d28_60 rfl <| iN C d28_62 rfl <| Go.isub C d28_63 <| gq 3 (o_sb (f := f) (a := 3) (b := 0) (by decide)) <| ic C 2 d28_64 rfl <| Go.ishr C d28_65 <| gq 0 rfl <| ic C 1 d28_66 rfl <| Go.iadd C d28_67 <| gq 1 rfl <| Go.newarray C (aty := .int) (w_159 hW) d28_68 (by decide) 1 rfl (cap := 1) (by decide) (by decide) (by decide) (by decide) (fun b1 h2 e3 K4 A5 => ?_)
  have A5 : Av Z h2 b1 .int [.int 0] := A5
  replace V := V.k0 K4
  refine Go.astore C d28_70 rfl (Ls' := #[vi y0, vr a, vi (oN f), vi len, vi (oN (f + 3)), vr b1, su, su]) rfl <| iN C d28_72 rfl <| Go.sipush C 255 d28_73 rfl <| Go.iand C d28_76 <| Go.istore C d28_77 (Ls' := #[vi y0, vr a, vi (oN f), vi len, vi (oN (f + 3)), vr b1, vi (y0 &&& 255), su]) rfl <| il C d28_79 rfl <| iN C d28_81 rfl <| Go.isub C d28_82 <| gq 3 (o_sb (f := f) (a := 3) (b := 0) (by decide)) <| ic C 3 d28_83 rfl <| Go.iand C d28_84 <| gq 3 rfl <| ifeqF C d28_85 (by decide) <| il C d28_88 rfl <| Go.bipush C 8 d28_90 rfl <| Go.ishl C d28_92 <| aN C d28_93 rfl <| iN C d28_94 rfl <| Go.iinc C (oN (f + 1)) d28_95 rfl (nI_succ _) (Ls' := #[vi y0, vr a, vi (oN (f + 1)), vi len, vi (oN (f + 3)), vr b1, vi (y0 &&& 255), su]) rfl <| Go.baload C V f (nI_nn (by omega)) (nI_nat (by omega)) hy1 d28_98 <| Go.sipush C 255 d28_99 rfl <| Go.iand C d28_102 <| Go.ior C d28_103 <| Go.eqI (x' := (o_ct (y0 &&& 255) y1)) rfl ?_
  refine Go.istore C d28_104 (Ls' := #[vi y0, vr a, vi (oN (f + 1)), vi len, vi (oN (f + 3)), vr b1, vi (o_ct (y0 &&& 255) y1), su]) rfl <| Go.goto C d28_106 <| il C d28_79 rfl <| iN C d28_81 rfl <| Go.isub C d28_82 <| gq 2 (o_sb (f := f) (a := 3) (b := 1) (by decide)) <| ic C 3 d28_83 rfl <| Go.iand C d28_84 <| gq 2 rfl <| ifeqF C d28_85 (by decide) <| il C d28_88 rfl <| Go.bipush C 8 d28_90 rfl <| Go.ishl C d28_92 <| aN C d28_93 rfl <| iN C d28_94 rfl <| Go.iinc C (oN (f + 2)) d28_95 rfl (nI_succ _) (Ls' := #[vi y0, vr a, vi (oN (f + 2)), vi len, vi (oN (f + 3)), vr b1, vi (o_ct (y0 &&& 255) y1), su]) rfl <| Go.baload C V (f + 1) (nI_nn (by omega)) (nI_nat (by omega)) hy2 d28_98 <| Go.sipush C 255 d28_99 rfl <| Go.iand C d28_102 <| Go.ior C d28_103 <| Go.eqI (x' := (o_ct (o_ct (y0 &&& 255) y1) y2)) rfl <| Go.istore C d28_104 (Ls' := #[vi y0, vr a, vi (oN (f + 2)), vi len, vi (oN (f + 3)), vr b1, vi (o_ct (o_ct (y0 &&& 255) y1) y2), su]) rfl ?_
  refine Go.goto C d28_106 <| il C d28_79 rfl <| iN C d28_81 rfl <| Go.isub C d28_82 <| gq 1 (o_sb (f := f) (a := 3) (b := 2) (by decide)) <| ic C 3 d28_83 rfl <| Go.iand C d28_84 <| gq 1 rfl <| ifeqF C d28_85 (by decide) <| il C d28_88 rfl <| Go.bipush C 8 d28_90 rfl <| Go.ishl C d28_92 <| aN C d28_93 rfl <| iN C d28_94 rfl <| Go.iinc C (oN (f + 3)) d28_95 rfl (nI_succ _) (Ls' := #[vi y0, vr a, vi (oN (f + 3)), vi len, vi (oN (f + 3)), vr b1, vi (o_ct (o_ct (y0 &&& 255) y1) y2), su]) rfl <| Go.baload C V (f + 2) (nI_nn (by omega)) (nI_nat (by omega)) hy3 d28_98 <| Go.sipush C 255 d28_99 rfl <| Go.iand C d28_102 <| Go.ior C d28_103 <| Go.eqI (x' := (o_ct (o_ct (o_ct (y0 &&& 255) y1) y2) y3)) rfl <| Go.istore C d28_104 (Ls' := #[vi y0, vr a, vi (oN (f + 3)), vi len, vi (oN (f + 3)), vr b1, vi (o_ct (o_ct (o_ct (y0 &&& 255) y1) y2) y3), su]) rfl <| Go.goto C d28_106 <| il C d28_79 rfl ?_
  refine iN C d28_81 rfl <| Go.isub C d28_82 <| gq 0 (Int32.sub_self _) <| ic C 3 d28_83 rfl <| Go.iand C d28_84 <| gq 0 rfl <| ifeqT C d28_85 (by decide) <| al C d28_109 rfl <| ic C 0 d28_111 rfl <| il C d28_112 rfl <| Go.iastore C A5 (mi 0 rfl) 0 (by decide) rfl (nb rfl) (vs' := [(.int (o_ct (o_ct (o_ct (y0 &&& 255) y1) y2) y3))]) rfl d28_114 (fun _ _ A5 => ?_)
  refine ic C 1 d28_115 rfl <| Go.istore C d28_116 (Ls' := #[vi y0, vr a, vi (oN (f + 3)), vi len, vi (oN (f + 3)), vr b1, vi (o_ct (o_ct (o_ct (y0 &&& 255) y1) y2) y3), vi 1]) rfl <| iN C d28_118 rfl <| il C d28_119 rfl <| Go.icmpge C d28_121 (fun hc121 => ?_) (fun hc121 => absurd hc121 Int32.lt_irrefl)
  refine al C d28_183 rfl <| Go.areturn C d28_185 (nb rfl) (nb rfl) rfl rfl [] nx ?_
  obtain ⟨u0, v0⟩ := hB
  have hmg : o_mg [(o_ct (o_ct (o_ct (y0 &&& 255) y1) y2) y3)] kk := by
    have z0 := o_int1 h1
    have z1 := o_m_int y0
    have z2 := o_ct_int (o_ct (o_ct (y0 &&& 255) y1) y2) y3
    have z3 := o_ct_int (o_ct (y0 &&& 255) y1) y2
    have z4 := o_ct_int (y0 &&& 255) y1
    exact o_mg1 (show kk = o_u (o_ct (o_ct (o_ct (y0 &&& 255) y1) y2) y3) from by unfold o_u; omega) (by omega)
  exact hQ _ [(o_ct (o_ct (o_ct (y0 &&& 255) y1) y2) y3)] _ hmg (ge_of e3) A5
theorem o_lp_S4 {k : KT} {l : Launch} {Z : State} {a0 : Array Value} (hW : W0 Z a0) {h0 : Heap} {a : Addr} {vs : List Value} {h : Heap} {f : Nat} {y0 y1 y2 y3 y4 len : Int32} {kk : Int} {QQ : QT}
    (C : Ctx k l y_21 c28 8 (some (.array .int)) ⟨0, 1, 2, 0⟩ Z a0 o_EL true [] h0 QQ) (V : Av Z h a .byte vs) (hf : f < 100) (hy1 : vs[f]? = some (.int y1)) (hy2 : vs[f + 1]? = some (.int y2)) (hy3 : vs[f + 2]? = some (.int y3)) (hy4 : vs[f + 3]? = some (.int y4)) (hB : o_B y0) (h1 : ¬ y0 = 0) (hv : kk = ((((y0.toInt % 256 * 256 + y1.toInt % 256) * 256 + y2.toInt % 256) * 256 + y3.toInt % 256) * 256 + y4.toInt % 256)) (hQ : ∀ (m : Addr) (M : List Int32) (h' : Heap), o_mg M kk → h.size ≤ m → Av Z h' m .int (List.map Value.int M) → QQ (some (.ref m)) h' []) :
    Go k h [] 0 0 60 #[vi y0, vr a, vi (oN f), vi len, vi (oN (f + 4)), su, su, su] [] := by
  refine il C d28_60 rfl <| iN C d28_62 rfl <| Go.isub C d28_63 <| gq 4 (o_sb (f := f) (a := 4) (b := 0) (by decide)) <| ic C 2 d28_64 rfl <| Go.ishr C d28_65 <| gq 1 rfl <| ic C 1 d28_66 rfl <| Go.iadd C d28_67 <| gq 2 rfl <| Go.newarray C (aty := .int) (w_159 hW) d28_68 (by decide) 2 rfl (cap := 2) (by decide) (by decide) (by decide) (by decide) (fun b1 h2 e3 K4 A5 => ?_)
  have A5 : Av Z h2 b1 .int [.int 0, .int 0] := A5
  have n_a_b1 : a ≠ b1 := ne_lt V.lt (ge_of e3)
  replace V := V.k0 K4
  refine Go.astore C d28_70 rfl (Ls' := #[vi y0, vr a, vi (oN f), vi len, vi (oN (f + 4)), vr b1, su, su]) rfl <| iN C d28_72 rfl <| Go.sipush C 255 d28_73 rfl <| Go.iand C d28_76 <| Go.istore C d28_77 (Ls' := #[vi y0, vr a, vi (oN f), vi len, vi (oN (f + 4)), vr b1, vi (y0 &&& 255), su]) rfl <| il C d28_79 rfl <| iN C d28_81 rfl <| Go.isub C d28_82 <| gq 4 (o_sb (f := f) (a := 4) (b := 0) (by decide)) <| ic C 3 d28_83 rfl <| Go.iand C d28_84 <| gq 0 rfl <| ifeqT C d28_85 (by decide) <| al C d28_109 rfl <| ic C 0 d28_111 rfl <| il C d28_112 rfl <| Go.iastore C A5 (mi 0 rfl) 0 (by decide) rfl (nb rfl) (vs' := [.int (y0 &&& 255), .int 0]) rfl d28_114 (fun _ K7 A5 => ?_)
  replace V := V.keep K7 (ninS n_a_b1 nin0)
  refine ic C 1 d28_115 rfl <| Go.istore C d28_116 (Ls' := #[vi y0, vr a, vi (oN f), vi len, vi (oN (f + 4)), vr b1, vi (y0 &&& 255), vi 1]) rfl <| iN C d28_118 rfl <| il C d28_119 rfl <| Go.icmpge C d28_121 (fun hc121 => absurd ((nI_lt (by omega) (by omega)).mpr (by omega)) hc121) (fun hc121 => ?_)
  refine al C d28_124 rfl <| il C d28_126 rfl <| Go.iinc C 2 d28_128 rfl rfl (Ls' := #[vi y0, vr a, vi (oN f), vi len, vi (oN (f + 4)), vr b1, vi (y0 &&& 255), vi 2]) rfl <| aN C d28_131 rfl <| iN C d28_132 rfl <| Go.iinc C (oN (f + 1)) d28_133 rfl (nI_succ _) (Ls' := #[vi y0, vr a, vi (oN (f + 1)), vi len, vi (oN (f + 4)), vr b1, vi (y0 &&& 255), vi 2]) rfl <| Go.baload C V f (nI_nn (by omega)) (nI_nat (by omega)) hy1 d28_136 <| Go.bipush C 24 d28_137 rfl <| Go.ishl C d28_139 <| aN C d28_140 rfl <| iN C d28_141 rfl <| Go.iinc C (oN (f + 2)) d28_142 rfl (nI_succ _) (Ls' := #[vi y0, vr a, vi (oN (f + 2)), vi len, vi (oN (f + 4)), vr b1, vi (y0 &&& 255), vi 2]) rfl <| Go.baload C V (f + 1) (nI_nn (by omega)) (nI_nat (by omega)) hy2 d28_145 <| Go.sipush C 255 d28_146 rfl <| Go.iand C d28_149 <| Go.bipush C 16 d28_150 rfl <| Go.ishl C d28_152 <| Go.ior C d28_153 <| aN C d28_154 rfl <| iN C d28_155 rfl ?_
  refine Go.iinc C (oN (f + 3)) d28_156 rfl (nI_succ _) (Ls' := #[vi y0, vr a, vi (oN (f + 3)), vi len, vi (oN (f + 4)), vr b1, vi (y0 &&& 255), vi 2]) rfl <| Go.baload C V (f + 2) (nI_nn (by omega)) (nI_nat (by omega)) hy3 d28_159 <| Go.sipush C 255 d28_160 rfl <| Go.iand C d28_163 <| Go.bipush C 8 d28_164 rfl <| Go.ishl C d28_166 <| Go.ior C d28_167 <| aN C d28_168 rfl <| iN C d28_169 rfl <| Go.iinc C (oN (f + 4)) d28_170 rfl (nI_succ _) (Ls' := #[vi y0, vr a, vi (oN (f + 4)), vi len, vi (oN (f + 4)), vr b1, vi (y0 &&& 255), vi 2]) rfl <| Go.baload C V (f + 3) (nI_nn (by omega)) (nI_nat (by omega)) hy4 d28_173 <| Go.sipush C 255 d28_174 rfl <| Go.iand C d28_177 <| Go.ior C d28_178 <| Go.eqI (x' := (o_qd y1 y2 y3 y4)) rfl <| Go.iastore C A5 (mi 0 rfl) 1 (by decide) rfl (nb rfl) (vs' := [.int (y0 &&& 255), .int (o_qd y1 y2 y3 y4)]) rfl d28_179 (fun _ _ A5 => ?_)
  refine Go.goto C d28_180 <| iN C d28_118 rfl <| il C d28_119 rfl <| Go.icmpge C d28_121 (fun hc121 => ?_) (fun hc121 => absurd hc121 Int32.lt_irrefl)
  refine al C d28_183 rfl <| Go.areturn C d28_185 (nb rfl) (nb rfl) rfl rfl [] nx ?_
  obtain ⟨u0, v0⟩ := hB
  have hmg : o_mg [(y0 &&& 255), (o_qd y1 y2 y3 y4)] kk := by
    have z0 := o_int1 h1
    have z1 := o_m_int y0
    have z2 := o_qd_u y1 y2 y3 y4
    have zu : o_u (y0 &&& 255) = y0.toInt % 256 := by unfold o_u; omega
    exact o_mg2 (by omega) (by omega) (show kk = o_u (y0 &&& 255) * 4294967296 + o_u (o_qd y1 y2 y3 y4) from by omega)
  exact hQ _ [(y0 &&& 255), (o_qd y1 y2 y3 y4)] _ hmg (ge_of e3) A5
theorem o_lp_S5 {k : KT} {l : Launch} {Z : State} {a0 : Array Value} (hW : W0 Z a0) {h0 : Heap} {a : Addr} {vs : List Value} {h : Heap} {f : Nat} {y0 y1 y2 y3 y4 y5 len : Int32} {kk : Int} {QQ : QT}
    (C : Ctx k l y_21 c28 8 (some (.array .int)) ⟨0, 1, 2, 0⟩ Z a0 o_EL true [] h0 QQ) (V : Av Z h a .byte vs) (hf : f < 100) (hy1 : vs[f]? = some (.int y1)) (hy2 : vs[f + 1]? = some (.int y2)) (hy3 : vs[f + 2]? = some (.int y3)) (hy4 : vs[f + 3]? = some (.int y4)) (hy5 : vs[f + 4]? = some (.int y5)) (hB : o_B y0) (h1 : ¬ y0 = 0) (hv : kk = (((((y0.toInt % 256 * 256 + y1.toInt % 256) * 256 + y2.toInt % 256) * 256 + y3.toInt % 256) * 256 + y4.toInt % 256) * 256 + y5.toInt % 256)) (hQ : ∀ (m : Addr) (M : List Int32) (h' : Heap), o_mg M kk → h.size ≤ m → Av Z h' m .int (List.map Value.int M) → QQ (some (.ref m)) h' []) :
    Go k h [] 0 0 60 #[vi y0, vr a, vi (oN f), vi len, vi (oN (f + 5)), su, su, su] [] := by
  refine il C d28_60 rfl <| iN C d28_62 rfl <| Go.isub C d28_63 <| gq 5 (o_sb (f := f) (a := 5) (b := 0) (by decide)) <| ic C 2 d28_64 rfl <| Go.ishr C d28_65 <| gq 1 rfl <| ic C 1 d28_66 rfl <| Go.iadd C d28_67 <| gq 2 rfl <| Go.newarray C (aty := .int) (w_159 hW) d28_68 (by decide) 2 rfl (cap := 2) (by decide) (by decide) (by decide) (by decide) (fun b1 h2 e3 K4 A5 => ?_)
  have A5 : Av Z h2 b1 .int [.int 0, .int 0] := A5
  have n_a_b1 : a ≠ b1 := ne_lt V.lt (ge_of e3)
  replace V := V.k0 K4
  refine Go.astore C d28_70 rfl (Ls' := #[vi y0, vr a, vi (oN f), vi len, vi (oN (f + 5)), vr b1, su, su]) rfl <| iN C d28_72 rfl <| Go.sipush C 255 d28_73 rfl <| Go.iand C d28_76 <| Go.istore C d28_77 (Ls' := #[vi y0, vr a, vi (oN f), vi len, vi (oN (f + 5)), vr b1, vi (y0 &&& 255), su]) rfl <| il C d28_79 rfl <| iN C d28_81 rfl <| Go.isub C d28_82 <| gq 5 (o_sb (f := f) (a := 5) (b := 0) (by decide)) <| ic C 3 d28_83 rfl <| Go.iand C d28_84 <| gq 1 rfl <| ifeqF C d28_85 (by decide) <| il C d28_88 rfl <| Go.bipush C 8 d28_90 rfl <| Go.ishl C d28_92 <| aN C d28_93 rfl <| iN C d28_94 rfl <| Go.iinc C (oN (f + 1)) d28_95 rfl (nI_succ _) (Ls' := #[vi y0, vr a, vi (oN (f + 1)), vi len, vi (oN (f + 5)), vr b1, vi (y0 &&& 255), su]) rfl <| Go.baload C V f (nI_nn (by omega)) (nI_nat (by omega)) hy1 d28_98 <| Go.sipush C 255 d28_99 rfl <| Go.iand C d28_102 <| Go.ior C d28_103 <| Go.eqI (x' := (o_ct (y0 &&& 255) y1)) rfl ?_
  refine Go.istore C d28_104 (Ls' := #[vi y0, vr a, vi (oN (f + 1)), vi len, vi (oN (f + 5)), vr b1, vi (o_ct (y0 &&& 255) y1), su]) rfl <| Go.goto C d28_106 <| il C d28_79 rfl <| iN C d28_81 rfl <| Go.isub C d28_82 <| gq 4 (o_sb (f := f) (a := 5) (b := 1) (by decide)) <| ic C 3 d28_83 rfl <| Go.iand C d28_84 <| gq 0 rfl <| ifeqT C d28_85 (by decide) <| al C d28_109 rfl <| ic C 0 d28_111 rfl <| il C d28_112 rfl <| Go.iastore C A5 (mi 0 rfl) 0 (by decide) rfl (nb rfl) (vs' := [.int (o_ct (y0 &&& 255) y1), .int 0]) rfl d28_114 (fun _ K7 A5 => ?_)
  replace V := V.keep K7 (ninS n_a_b1 nin0)
  refine ic C 1 d28_115 rfl <| Go.istore C d28_116 (Ls' := #[vi y0, vr a, vi (oN (f + 1)), vi len, vi (oN (f + 5)), vr b1, vi (o_ct (y0 &&& 255) y1), vi 1]) rfl <| iN C d28_118 rfl <| il C d28_119 rfl <| Go.icmpge C d28_121 (fun hc121 => absurd ((nI_lt (by omega) (by omega)).mpr (by omega)) hc121) (fun hc121 => ?_)
  refine al C d28_124 rfl <| il C d28_126 rfl <| Go.iinc C 2 d28_128 rfl rfl (Ls' := #[vi y0, vr a, vi (oN (f + 1)), vi len, vi (oN (f + 5)), vr b1, vi (o_ct (y0 &&& 255) y1), vi 2]) rfl <| aN C d28_131 rfl <| iN C d28_132 rfl <| Go.iinc C (oN (f + 2)) d28_133 rfl (nI_succ _) (Ls' := #[vi y0, vr a, vi (oN (f + 2)), vi len, vi (oN (f + 5)), vr b1, vi (o_ct (y0 &&& 255) y1), vi 2]) rfl <| Go.baload C V (f + 1) (nI_nn (by omega)) (nI_nat (by omega)) hy2 d28_136 <| Go.bipush C 24 d28_137 rfl <| Go.ishl C d28_139 <| aN C d28_140 rfl <| iN C d28_141 rfl <| Go.iinc C (oN (f + 3)) d28_142 rfl (nI_succ _) (Ls' := #[vi y0, vr a, vi (oN (f + 3)), vi len, vi (oN (f + 5)), vr b1, vi (o_ct (y0 &&& 255) y1), vi 2]) rfl <| Go.baload C V (f + 2) (nI_nn (by omega)) (nI_nat (by omega)) hy3 d28_145 <| Go.sipush C 255 d28_146 rfl <| Go.iand C d28_149 <| Go.bipush C 16 d28_150 rfl <| Go.ishl C d28_152 ?_
  refine Go.ior C d28_153 <| aN C d28_154 rfl <| iN C d28_155 rfl <| Go.iinc C (oN (f + 4)) d28_156 rfl (nI_succ _) (Ls' := #[vi y0, vr a, vi (oN (f + 4)), vi len, vi (oN (f + 5)), vr b1, vi (o_ct (y0 &&& 255) y1), vi 2]) rfl <| Go.baload C V (f + 3) (nI_nn (by omega)) (nI_nat (by omega)) hy4 d28_159 <| Go.sipush C 255 d28_160 rfl <| Go.iand C d28_163 <| Go.bipush C 8 d28_164 rfl <| Go.ishl C d28_166 <| Go.ior C d28_167 <| aN C d28_168 rfl <| iN C d28_169 rfl <| Go.iinc C (oN (f + 5)) d28_170 rfl (nI_succ _) (Ls' := #[vi y0, vr a, vi (oN (f + 5)), vi len, vi (oN (f + 5)), vr b1, vi (o_ct (y0 &&& 255) y1), vi 2]) rfl <| Go.baload C V (f + 4) (nI_nn (by omega)) (nI_nat (by omega)) hy5 d28_173 <| Go.sipush C 255 d28_174 rfl <| Go.iand C d28_177 <| Go.ior C d28_178 <| Go.eqI (x' := (o_qd y2 y3 y4 y5)) rfl <| Go.iastore C A5 (mi 0 rfl) 1 (by decide) rfl (nb rfl) (vs' := [.int (o_ct (y0 &&& 255) y1), .int (o_qd y2 y3 y4 y5)]) rfl d28_179 (fun _ _ A5 => ?_)
  refine Go.goto C d28_180 <| iN C d28_118 rfl <| il C d28_119 rfl <| Go.icmpge C d28_121 (fun hc121 => ?_) (fun hc121 => absurd hc121 Int32.lt_irrefl)
  refine al C d28_183 rfl <| Go.areturn C d28_185 (nb rfl) (nb rfl) rfl rfl [] nx ?_
  obtain ⟨u0, v0⟩ := hB
  have hmg : o_mg [(o_ct (y0 &&& 255) y1), (o_qd y2 y3 y4 y5)] kk := by
    have z0 := o_int1 h1
    have z1 := o_m_int y0
    have z2 := o_ct_int (y0 &&& 255) y1
    have z3 := o_qd_u y2 y3 y4 y5
    have zu : o_u (o_ct (y0 &&& 255) y1) = (y0.toInt % 256 * 256 + y1.toInt % 256) := by unfold o_u; omega
    exact o_mg2 (by omega) (by omega) (show kk = o_u (o_ct (y0 &&& 255) y1) * 4294967296 + o_u (o_qd y2 y3 y4 y5) from by omega)
  exact hQ _ [(o_ct (y0 &&& 255) y1), (o_qd y2 y3 y4 y5)] _ hmg (ge_of e3) A5
theorem o_lp_JA {k : KT} {l : Launch} {Z : State} {a0 : Array Value} (hW : W0 Z a0) {h0 : Heap} {a : Addr} {vs : List Value} {h : Heap} {f : Nat} {b0 d0 e0 len : Int32} {kk : Int} {QQ : QT}
    (C : Ctx k l y_22 c42 11 (some (.array .int)) ⟨0, 1, 2, 0⟩ Z a0 o_EL true [] h0 QQ) (V : Av Z h a .byte vs) (hv : kk = o_u d0 - 4294967296) (he : d0 = 0 → e0 = 0) (hQ : ∀ (m : Addr) (M : List Int32) (h' : Heap), o_mg M (-kk) → h.size ≤ m → Av Z h' m .int (List.map Value.int M) → QQ (some (.ref m)) h' []) :
    Go k h [] 0 0 132 #[vi b0, vr a, vi (oN f), vi len, vi (oN f), vi d0, vi (oN f), vi e0, su, su, su] [] := by
  refine il C d42_132 rfl <| iN C d42_134 rfl <| Go.isub C d42_135 <| gq 0 (Int32.sub_self _) <| il C d42_136 rfl <| Go.ior C d42_138 <| il C d42_139 rfl <| Go.ior C d42_141 <| Go.ifne C d42_142 (fun hx => ?_) (fun hx => ?_)
  · refine ic C 0 d42_149 rfl <| Go.istore C d42_150 (Ls' := #[vi b0, vr a, vi (oN f), vi len, vi (oN f), vi d0, vi (oN f), vi e0, vi 0, su, su]) rfl <| il C d42_152 rfl <| ic C 1 d42_154 rfl <| Go.iadd C d42_155 <| gq 1 rfl <| il C d42_156 rfl <| il C d42_158 rfl <| Go.isub C d42_160 <| gq 0 (Int32.sub_self _) <| ic C 2 d42_161 rfl <| Go.ishr C d42_162 <| gq 0 rfl <| Go.iadd C d42_163 <| gq 1 rfl <| Go.newarray C (aty := .int) (w_159 hW) d42_164 (by decide) 1 rfl (cap := 1) (by decide) (by decide) (by decide) (by decide) (fun b1 h2 e3 _ A5 => ?_)
    have A5 : Av Z h2 b1 .int [.int 0] := A5
    refine Go.astore C d42_166 rfl (Ls' := #[vi b0, vr a, vi (oN f), vi len, vi (oN f), vi d0, vi (oN f), vi e0, vi 0, vr b1, su]) rfl <| al C d42_168 rfl <| ic C 0 d42_170 rfl <| il C d42_171 rfl <| ifneF C d42_173 (by decide) <| il C d42_176 rfl <| Go.goto C d42_178 <| Go.iastore C A5 (mi 0 rfl) 0 (by decide) rfl (nb rfl) (vs' := [.int d0]) rfl d42_182 (fun _ _ A5 => ?_)
    refine al C d42_183 rfl <| Go.arraylength C A5 (1 : Int32) rfl d42_185 <| il C d42_186 rfl <| iN C d42_188 rfl <| Go.isub C d42_189 <| gq 0 (Int32.sub_self _) <| ic C 2 d42_190 rfl <| Go.ishr C d42_191 <| gq 0 rfl <| Go.isub C d42_192 <| gq 1 rfl <| Go.istore C d42_193 (Ls' := #[vi b0, vr a, vi (oN f), vi len, vi (oN f), vi d0, vi (oN f), vi e0, vi 0, vr b1, vi 1]) rfl <| il C d42_195 rfl <| ic C 1 d42_197 rfl <| icmpleT C d42_198 (by decide) <| iN C d42_210 rfl <| il C d42_211 rfl <| Go.icmpge C d42_213 (fun hc213 => ?_) (fun hc213 => absurd hc213 Int32.lt_irrefl)
    refine Go.iinc C 0 d42_275 rfl (by  decide) (Ls' := #[vi b0, vr a, vi (oN f), vi len, vi (oN f), vi d0, vi (oN f), vi e0, vi 0, vr b1, vi 0]) rfl <| il C d42_278 rfl <| ifltF C d42_280 (by decide) <| al C d42_283 rfl <| il C d42_285 rfl <| Go.iaload C A5 0 (by decide) rfl rfl d42_287 <| Go.ifne C d42_288 (fun hc288 => ?_) (fun hc288 => absurd (by rw [hc288, he hc288]; exact o_or00) hx)
    refine al C d42_294 rfl <| il C d42_296 rfl <| al C d42_298 rfl <| il C d42_300 rfl <| Go.iaload C A5 0 (by decide) rfl rfl d42_302 <| Go.ineg C d42_303 <| Go.iastore C A5 (mi 0 rfl) 0 (by decide) rfl (nb rfl) (vs' := [.int (-d0)]) rfl d42_304 (fun _ _ A5 => ?_)
    refine Go.iinc C (-1) d42_305 rfl (by  decide) (Ls' := #[vi b0, vr a, vi (oN f), vi len, vi (oN f), vi d0, vi (oN f), vi e0, vi 0, vr b1, vi (-1)]) rfl <| il C d42_308 rfl <| ifltT C d42_310 (by decide) <| al C d42_328 rfl <| Go.areturn C d42_330 (nb rfl) (nb rfl) rfl rfl [] nx ?_
    exact hQ _ [-d0] _ (o_JA1 (e := e0) hv hc288) (ge_of e3) A5
  have z0 := o_or_r hx
  refine ic C 1 d42_145 rfl <| Go.goto C d42_146 <| Go.istore C d42_150 (Ls' := #[vi b0, vr a, vi (oN f), vi len, vi (oN f), vi d0, vi (oN f), vi e0, vi 1, su, su]) rfl <| il C d42_152 rfl <| ic C 1 d42_154 rfl <| Go.iadd C d42_155 <| gq 2 rfl <| il C d42_156 rfl <| il C d42_158 rfl <| Go.isub C d42_160 <| gq 0 (Int32.sub_self _) <| ic C 2 d42_161 rfl <| Go.ishr C d42_162 <| gq 0 rfl <| Go.iadd C d42_163 <| gq 2 rfl <| Go.newarray C (aty := .int) (w_159 hW) d42_164 (by decide) 2 rfl (cap := 2) (by decide) (by decide) (by decide) (by decide) (fun b10 h11 e12 _ A14 => ?_)
  have A14 : Av Z h11 b10 .int [.int 0, .int 0] := A14
  refine Go.astore C d42_166 rfl (Ls' := #[vi b0, vr a, vi (oN f), vi len, vi (oN f), vi d0, vi (oN f), vi e0, vi 1, vr b10, su]) rfl <| al C d42_168 rfl <| ic C 0 d42_170 rfl <| il C d42_171 rfl <| ifneT C d42_173 (by decide) <| ic C (-1) d42_181 (by decide) <| Go.iastore C A14 (mi 0 rfl) 0 (by decide) rfl (nb rfl) (vs' := [.int (-1), .int 0]) rfl d42_182 (fun _ _ A14 => ?_)
  refine al C d42_183 rfl <| Go.arraylength C A14 (2 : Int32) rfl d42_185 <| il C d42_186 rfl <| iN C d42_188 rfl <| Go.isub C d42_189 <| gq 0 (Int32.sub_self _) <| ic C 2 d42_190 rfl <| Go.ishr C d42_191 <| gq 0 rfl <| Go.isub C d42_192 <| gq 2 rfl <| Go.istore C d42_193 (Ls' := #[vi b0, vr a, vi (oN f), vi len, vi (oN f), vi d0, vi (oN f), vi e0, vi 1, vr b10, vi 2]) rfl <| il C d42_195 rfl <| ic C 1 d42_197 rfl <| icmpleF C d42_198 (by decide) <| al C d42_201 rfl <| il C d42_203 rfl <| ic C 1 d42_205 rfl <| Go.isub C d42_206 <| gq 1 rfl <| il C d42_207 rfl <| Go.iastore C A14 (mi 0 rfl) 1 (by decide) rfl (nb rfl) (vs' := [.int (-1), .int e0]) rfl d42_209 (fun _ _ A14 => ?_)
  refine iN C d42_210 rfl <| il C d42_211 rfl <| Go.icmpge C d42_213 (fun hc213 => ?_) (fun hc213 => absurd hc213 Int32.lt_irrefl)
  refine Go.iinc C 1 d42_275 rfl (by  decide) (Ls' := #[vi b0, vr a, vi (oN f), vi len, vi (oN f), vi d0, vi (oN f), vi e0, vi 1, vr b10, vi 1]) rfl <| il C d42_278 rfl <| ifltF C d42_280 (by decide) <| al C d42_283 rfl <| il C d42_285 rfl <| Go.iaload C A14 1 (by decide) rfl rfl d42_287 <| Go.ifne C d42_288 (fun hc288 => absurd z0 hc288) (fun hc288 => ?_)
  refine Go.goto C d42_291 <| Go.iinc C 0 d42_275 rfl (by  decide) (Ls' := #[vi b0, vr a, vi (oN f), vi len, vi (oN f), vi d0, vi (oN f), vi e0, vi 1, vr b10, vi 0]) rfl <| il C d42_278 rfl <| ifltF C d42_280 (by decide) <| al C d42_283 rfl <| il C d42_285 rfl <| Go.iaload C A14 0 (by decide) rfl rfl d42_287 <| ifneT C d42_288 (by decide) <| al C d42_294 rfl <| il C d42_296 rfl <| al C d42_298 rfl <| il C d42_300 rfl <| Go.iaload C A14 0 (by decide) rfl rfl d42_302 <| Go.ineg C d42_303 <| gq 1 (by  decide) <| Go.iastore C A14 (mi 0 rfl) 0 (by decide) rfl (nb rfl) (vs' := [.int 1, .int e0]) rfl d42_304 (fun _ _ A14 => ?_)
  refine Go.iinc C (-1) d42_305 rfl (by  decide) (Ls' := #[vi b0, vr a, vi (oN f), vi len, vi (oN f), vi d0, vi (oN f), vi e0, vi 1, vr b10, vi (-1)]) rfl <| il C d42_308 rfl <| ifltT C d42_310 (by decide) <| al C d42_328 rfl <| Go.areturn C d42_330 (nb rfl) (nb rfl) rfl rfl [] nx ?_
  exact hQ _ [1, e0] _ (o_JA2 hv (o_or0l hx) z0) (ge_of e12) A14
theorem o_lp_JB {k : KT} {l : Launch} {Z : State} {a0 : Array Value} (hW : W0 Z a0) {h0 : Heap} {a : Addr} {vs : List Value} {h : Heap} {f : Nat} {b0 d0 e0 len y1 y2 y3 y4 : Int32} {kk : Int} {QQ : QT}
    (C : Ctx k l y_22 c42 11 (some (.array .int)) ⟨0, 1, 2, 0⟩ Z a0 o_EL true [] h0 QQ) (V : Av Z h a .byte vs) (hf : f < 200) (hv : kk = d0.toInt * 4294967296 + o_u e0) (hd1 : -65535 ≤ d0.toInt) (hd2 : d0.toInt ≤ -2) (hQ : ∀ (m : Addr) (M : List Int32) (h' : Heap), o_mg M (-kk) → h.size ≤ m → Av Z h' m .int (List.map Value.int M) → QQ (some (.ref m)) h' []) :
    Go k h [] 0 0 132 #[vi b0, vr a, vi (oN (f + 4)), vi len, vi (oN (f + 4)), vi d0, vi (oN f), vi e0, su, su, su] [] := by
  refine il C d42_132 rfl <| iN C d42_134 rfl <| Go.isub C d42_135 <| gq 0 (Int32.sub_self _) <| il C d42_136 rfl <| Go.ior C d42_138 <| il C d42_139 rfl <| Go.ior C d42_141 <| Go.ifne C d42_142 (fun hc142 => ?_) (fun hc142 => absurd (o_or0l hc142) (o_dne hd2))
  refine ic C 0 d42_149 rfl <| Go.istore C d42_150 (Ls' := #[vi b0, vr a, vi (oN (f + 4)), vi len, vi (oN (f + 4)), vi d0, vi (oN f), vi e0, vi 0, su, su]) rfl <| il C d42_152 rfl <| ic C 1 d42_154 rfl <| Go.iadd C d42_155 <| gq 1 rfl <| il C d42_156 rfl <| il C d42_158 rfl <| Go.isub C d42_160 <| gq 4 (o_sb (f := f) (a := 4) (b := 0) (by decide)) <| ic C 2 d42_161 rfl <| Go.ishr C d42_162 <| gq 1 rfl <| Go.iadd C d42_163 <| gq 2 rfl <| Go.newarray C (aty := .int) (w_159 hW) d42_164 (by decide) 2 rfl (cap := 2) (by decide) (by decide) (by decide) (by decide) (fun b1 h2 e3 _ A5 => ?_)
  have A5 : Av Z h2 b1 .int [.int 0, .int 0] := A5
  refine Go.astore C d42_166 rfl (Ls' := #[vi b0, vr a, vi (oN (f + 4)), vi len, vi (oN (f + 4)), vi d0, vi (oN f), vi e0, vi 0, vr b1, su]) rfl <| al C d42_168 rfl <| ic C 0 d42_170 rfl <| il C d42_171 rfl <| ifneF C d42_173 (by decide) <| il C d42_176 rfl <| Go.goto C d42_178 <| Go.iastore C A5 (mi 0 rfl) 0 (by decide) rfl (nb rfl) (vs' := [.int d0, .int 0]) rfl d42_182 (fun _ _ A5 => ?_)
  refine al C d42_183 rfl <| Go.arraylength C A5 (2 : Int32) rfl d42_185 <| il C d42_186 rfl <| iN C d42_188 rfl <| Go.isub C d42_189 <| gq 0 (Int32.sub_self _) <| ic C 2 d42_190 rfl <| Go.ishr C d42_191 <| gq 0 rfl <| Go.isub C d42_192 <| gq 2 rfl <| Go.istore C d42_193 (Ls' := #[vi b0, vr a, vi (oN (f + 4)), vi len, vi (oN (f + 4)), vi d0, vi (oN f), vi e0, vi 0, vr b1, vi 2]) rfl <| il C d42_195 rfl <| ic C 1 d42_197 rfl <| icmpleF C d42_198 (by decide) <| al C d42_201 rfl <| il C d42_203 rfl <| ic C 1 d42_205 rfl <| Go.isub C d42_206 <| gq 1 rfl <| il C d42_207 rfl <| Go.iastore C A5 (mi 0 rfl) 1 (by decide) rfl (nb rfl) (vs' := [.int d0, .int e0]) rfl d42_209 (fun _ _ A5 => ?_)
  refine iN C d42_210 rfl <| il C d42_211 rfl <| Go.icmpge C d42_213 (fun hc213 => ?_) (fun hc213 => absurd hc213 Int32.lt_irrefl)
  refine Go.iinc C 1 d42_275 rfl (by  decide) (Ls' := #[vi b0, vr a, vi (oN (f + 4)), vi len, vi (oN (f + 4)), vi d0, vi (oN f), vi e0, vi 0, vr b1, vi 1]) rfl <| il C d42_278 rfl <| ifltF C d42_280 (by decide) <| al C d42_283 rfl <| il C d42_285 rfl <| Go.iaload C A5 1 (by decide) rfl rfl d42_287 <| Go.ifne C d42_288 (fun hE => ?_) (fun hE => ?_)
  · refine al C d42_294 rfl <| il C d42_296 rfl <| al C d42_298 rfl <| il C d42_300 rfl <| Go.iaload C A5 1 (by decide) rfl rfl d42_302 <| Go.ineg C d42_303 <| Go.iastore C A5 (mi 0 rfl) 1 (by decide) rfl (nb rfl) (vs' := [.int d0, .int (-e0)]) rfl d42_304 (fun _ _ A5 => ?_)
    refine Go.iinc C 0 d42_305 rfl (by  decide) (Ls' := #[vi b0, vr a, vi (oN (f + 4)), vi len, vi (oN (f + 4)), vi d0, vi (oN f), vi e0, vi 0, vr b1, vi 0]) rfl <| il C d42_308 rfl <| ifltF C d42_310 (by decide) <| al C d42_313 rfl <| il C d42_315 rfl <| al C d42_317 rfl <| il C d42_319 rfl <| Go.iaload C A5 0 (by decide) rfl rfl d42_321 <| ic C (-1) d42_322 (by decide) <| Go.ixor C d42_323 <| Go.iastore C A5 (mi 0 rfl) 0 (by decide) rfl (nb rfl) (vs' := [.int (d0 ^^^ (-1 : Int32)), .int (-e0)]) rfl d42_324 (fun _ _ A5 => ?_)
    refine Go.goto C d42_325 <| Go.iinc C (-1) d42_305 rfl (by  decide) (Ls' := #[vi b0, vr a, vi (oN (f + 4)), vi len, vi (oN (f + 4)), vi d0, vi (oN f), vi e0, vi 0, vr b1, vi (-1)]) rfl <| il C d42_308 rfl <| ifltT C d42_310 (by decide) <| al C d42_328 rfl <| Go.areturn C d42_330 (nb rfl) (nb rfl) rfl rfl [] nx ?_
    exact hQ _ [d0 ^^^ (-1 : Int32), -e0] _ (o_JB1 hv hd1 hd2 hE) (ge_of e3) A5
  refine Go.goto C d42_291 <| Go.iinc C 0 d42_275 rfl (by  decide) (Ls' := #[vi b0, vr a, vi (oN (f + 4)), vi len, vi (oN (f + 4)), vi d0, vi (oN f), vi e0, vi 0, vr b1, vi 0]) rfl <| il C d42_278 rfl <| ifltF C d42_280 (by decide) <| al C d42_283 rfl <| il C d42_285 rfl <| Go.iaload C A5 0 (by decide) rfl rfl d42_287 <| Go.ifne C d42_288 (fun hc288 => ?_) (fun hc288 => absurd hc288 (o_dne hd2))
  refine al C d42_294 rfl <| il C d42_296 rfl <| al C d42_298 rfl <| il C d42_300 rfl <| Go.iaload C A5 0 (by decide) rfl rfl d42_302 <| Go.ineg C d42_303 <| Go.iastore C A5 (mi 0 rfl) 0 (by decide) rfl (nb rfl) (vs' := [.int (-d0), .int e0]) rfl d42_304 (fun _ _ A5 => ?_)
  refine Go.iinc C (-1) d42_305 rfl (by  decide) (Ls' := #[vi b0, vr a, vi (oN (f + 4)), vi len, vi (oN (f + 4)), vi d0, vi (oN f), vi e0, vi 0, vr b1, vi (-1)]) rfl <| il C d42_308 rfl <| ifltT C d42_310 (by decide) <| al C d42_328 rfl <| Go.areturn C d42_330 (nb rfl) (nb rfl) rfl rfl [] nx ?_
  exact hQ _ [-d0, e0] _ (o_JB2 hv hd1 hd2 hE) (ge_of e3) A5
theorem o_lp_JC {k : KT} {l : Launch} {Z : State} {a0 : Array Value} (hW : W0 Z a0) {h0 : Heap} {a : Addr} {vs : List Value} {h : Heap} {f : Nat} {b0 d0 e0 len y1 y2 y3 y4 : Int32} {kk : Int} {QQ : QT}
    (C : Ctx k l y_22 c42 11 (some (.array .int)) ⟨0, 1, 2, 0⟩ Z a0 o_EL true [] h0 QQ) (V : Av Z h a .byte vs) (hf : f < 200) (hy1 : vs[f]? = some (.int y1)) (hy2 : vs[f + 1]? = some (.int y2)) (hy3 : vs[f + 2]? = some (.int y3)) (hy4 : vs[f + 3]? = some (.int y4)) (hv : kk = d0.toInt * 4294967296 + o_u (o_qd y1 y2 y3 y4)) (hd1 : -65535 ≤ d0.toInt) (hd2 : d0.toInt ≤ -2) (hQ : ∀ (m : Addr) (M : List Int32) (h' : Heap), o_mg M (-kk) → h.size ≤ m → Av Z h' m .int (List.map Value.int M) → QQ (some (.ref m)) h' []) :
    Go k h [] 0 0 132 #[vi b0, vr a, vi (oN f), vi len, vi (oN (f + 4)), vi d0, vi (oN f), vi e0, su, su, su] [] := by
  refine il C d42_132 rfl <| iN C d42_134 rfl <| Go.isub C d42_135 <| gq 4 (o_sb (f := f) (a := 4) (b := 0) (by decide)) <| il C d42_136 rfl <| Go.ior C d42_138 <| il C d42_139 rfl <| Go.ior C d42_141 <| Go.ifne C d42_142 (fun hc142 => ?_) (fun hc142 => (o_or4l hc142).elim)
  refine ic C 0 d42_149 rfl <| Go.istore C d42_150 (Ls' := #[vi b0, vr a, vi (oN f), vi len, vi (oN (f + 4)), vi d0, vi (oN f), vi e0, vi 0, su, su]) rfl <| il C d42_152 rfl <| ic C 1 d42_154 rfl <| Go.iadd C d42_155 <| gq 1 rfl <| il C d42_156 rfl <| il C d42_158 rfl <| Go.isub C d42_160 <| gq 4 (o_sb (f := f) (a := 4) (b := 0) (by decide)) <| ic C 2 d42_161 rfl <| Go.ishr C d42_162 <| gq 1 rfl <| Go.iadd C d42_163 <| gq 2 rfl <| Go.newarray C (aty := .int) (w_159 hW) d42_164 (by decide) 2 rfl (cap := 2) (by decide) (by decide) (by decide) (by decide) (fun b1 h2 e3 K4 A5 => ?_)
  have A5 : Av Z h2 b1 .int [.int 0, .int 0] := A5
  have n_a_b1 : a ≠ b1 := ne_lt V.lt (ge_of e3)
  replace V := V.k0 K4
  refine Go.astore C d42_166 rfl (Ls' := #[vi b0, vr a, vi (oN f), vi len, vi (oN (f + 4)), vi d0, vi (oN f), vi e0, vi 0, vr b1, su]) rfl <| al C d42_168 rfl <| ic C 0 d42_170 rfl <| il C d42_171 rfl <| ifneF C d42_173 (by decide) <| il C d42_176 rfl <| Go.goto C d42_178 <| Go.iastore C A5 (mi 0 rfl) 0 (by decide) rfl (nb rfl) (vs' := [.int d0, .int 0]) rfl d42_182 (fun _ K7 A5 => ?_)
  replace V := V.keep K7 (ninS n_a_b1 nin0)
  refine al C d42_183 rfl <| Go.arraylength C A5 (2 : Int32) rfl d42_185 <| il C d42_186 rfl <| iN C d42_188 rfl <| Go.isub C d42_189 <| gq 4 (o_sb (f := f) (a := 4) (b := 0) (by decide)) <| ic C 2 d42_190 rfl <| Go.ishr C d42_191 <| gq 1 rfl <| Go.isub C d42_192 <| gq 1 rfl <| Go.istore C d42_193 (Ls' := #[vi b0, vr a, vi (oN f), vi len, vi (oN (f + 4)), vi d0, vi (oN f), vi e0, vi 0, vr b1, vi 1]) rfl <| il C d42_195 rfl <| ic C 1 d42_197 rfl <| icmpleT C d42_198 (by decide) <| iN C d42_210 rfl <| il C d42_211 rfl <| Go.icmpge C d42_213 (fun hc213 => absurd ((nI_lt (by omega) (by omega)).mpr (by omega)) hc213) (fun hc213 => ?_)
  refine al C d42_216 rfl <| il C d42_218 rfl <| Go.iinc C 2 d42_220 rfl rfl (Ls' := #[vi b0, vr a, vi (oN f), vi len, vi (oN (f + 4)), vi d0, vi (oN f), vi e0, vi 0, vr b1, vi 2]) rfl <| aN C d42_223 rfl <| iN C d42_224 rfl <| Go.iinc C (oN (f + 1)) d42_225 rfl (nI_succ _) (Ls' := #[vi b0, vr a, vi (oN (f + 1)), vi len, vi (oN (f + 4)), vi d0, vi (oN f), vi e0, vi 0, vr b1, vi 2]) rfl <| Go.baload C V f (nI_nn (by omega)) (nI_nat (by omega)) hy1 d42_228 <| Go.bipush C 24 d42_229 rfl <| Go.ishl C d42_231 <| aN C d42_232 rfl <| iN C d42_233 rfl <| Go.iinc C (oN (f + 2)) d42_234 rfl (nI_succ _) (Ls' := #[vi b0, vr a, vi (oN (f + 2)), vi len, vi (oN (f + 4)), vi d0, vi (oN f), vi e0, vi 0, vr b1, vi 2]) rfl <| Go.baload C V (f + 1) (nI_nn (by omega)) (nI_nat (by omega)) hy2 d42_237 <| Go.sipush C 255 d42_238 rfl <| Go.iand C d42_241 <| Go.bipush C 16 d42_242 rfl <| Go.ishl C d42_244 <| Go.ior C d42_245 ?_
  refine aN C d42_246 rfl <| iN C d42_247 rfl <| Go.iinc C (oN (f + 3)) d42_248 rfl (nI_succ _) (Ls' := #[vi b0, vr a, vi (oN (f + 3)), vi len, vi (oN (f + 4)), vi d0, vi (oN f), vi e0, vi 0, vr b1, vi 2]) rfl <| Go.baload C V (f + 2) (nI_nn (by omega)) (nI_nat (by omega)) hy3 d42_251 <| Go.sipush C 255 d42_252 rfl <| Go.iand C d42_255 <| Go.bipush C 8 d42_256 rfl <| Go.ishl C d42_258 <| Go.ior C d42_259 <| aN C d42_260 rfl <| iN C d42_261 rfl <| Go.iinc C (oN (f + 4)) d42_262 rfl (nI_succ _) (Ls' := #[vi b0, vr a, vi (oN (f + 4)), vi len, vi (oN (f + 4)), vi d0, vi (oN f), vi e0, vi 0, vr b1, vi 2]) rfl <| Go.baload C V (f + 3) (nI_nn (by omega)) (nI_nat (by omega)) hy4 d42_265 <| Go.sipush C 255 d42_266 rfl <| Go.iand C d42_269 <| Go.ior C d42_270 <| Go.eqI (x' := (o_qd y1 y2 y3 y4)) rfl <| Go.iastore C A5 (mi 0 rfl) 1 (by decide) rfl (nb rfl) (vs' := [.int d0, .int (o_qd y1 y2 y3 y4)]) rfl d42_271 (fun _ _ A5 => ?_)
  refine Go.goto C d42_272 <| iN C d42_210 rfl <| il C d42_211 rfl <| Go.icmpge C d42_213 (fun hc213 => ?_) (fun hc213 => absurd hc213 Int32.lt_irrefl)
  refine Go.iinc C 1 d42_275 rfl (by  decide) (Ls' := #[vi b0, vr a, vi (oN (f + 4)), vi len, vi (oN (f + 4)), vi d0, vi (oN f), vi e0, vi 0, vr b1, vi 1]) rfl <| il C d42_278 rfl <| ifltF C d42_280 (by decide) <| al C d42_283 rfl <| il C d42_285 rfl <| Go.iaload C A5 1 (by decide) rfl rfl d42_287 <| Go.ifne C d42_288 (fun hE => ?_) (fun hE => ?_)
  · refine al C d42_294 rfl <| il C d42_296 rfl <| al C d42_298 rfl <| il C d42_300 rfl <| Go.iaload C A5 1 (by decide) rfl rfl d42_302 <| Go.ineg C d42_303 <| Go.iastore C A5 (mi 0 rfl) 1 (by decide) rfl (nb rfl) (vs' := [.int d0, .int (-(o_qd y1 y2 y3 y4))]) rfl d42_304 (fun _ _ A5 => ?_)
    refine Go.iinc C 0 d42_305 rfl (by  decide) (Ls' := #[vi b0, vr a, vi (oN (f + 4)), vi len, vi (oN (f + 4)), vi d0, vi (oN f), vi e0, vi 0, vr b1, vi 0]) rfl <| il C d42_308 rfl <| ifltF C d42_310 (by decide) <| al C d42_313 rfl <| il C d42_315 rfl <| al C d42_317 rfl <| il C d42_319 rfl <| Go.iaload C A5 0 (by decide) rfl rfl d42_321 <| ic C (-1) d42_322 (by decide) <| Go.ixor C d42_323 <| Go.iastore C A5 (mi 0 rfl) 0 (by decide) rfl (nb rfl) (vs' := [.int (d0 ^^^ (-1 : Int32)), .int (-(o_qd y1 y2 y3 y4))]) rfl d42_324 (fun _ _ A5 => ?_)
    refine Go.goto C d42_325 <| Go.iinc C (-1) d42_305 rfl (by  decide) (Ls' := #[vi b0, vr a, vi (oN (f + 4)), vi len, vi (oN (f + 4)), vi d0, vi (oN f), vi e0, vi 0, vr b1, vi (-1)]) rfl <| il C d42_308 rfl <| ifltT C d42_310 (by decide) <| al C d42_328 rfl <| Go.areturn C d42_330 (nb rfl) (nb rfl) rfl rfl [] nx ?_
    exact hQ _ [d0 ^^^ (-1 : Int32), -(o_qd y1 y2 y3 y4)] _ (o_JB1 hv hd1 hd2 hE) (ge_of e3) A5
  refine Go.goto C d42_291 <| Go.iinc C 0 d42_275 rfl (by  decide) (Ls' := #[vi b0, vr a, vi (oN (f + 4)), vi len, vi (oN (f + 4)), vi d0, vi (oN f), vi e0, vi 0, vr b1, vi 0]) rfl <| il C d42_278 rfl <| ifltF C d42_280 (by decide) <| al C d42_283 rfl <| il C d42_285 rfl <| Go.iaload C A5 0 (by decide) rfl rfl d42_287 <| Go.ifne C d42_288 (fun hc288 => ?_) (fun hc288 => absurd hc288 (o_dne hd2))
  refine al C d42_294 rfl <| il C d42_296 rfl <| al C d42_298 rfl <| il C d42_300 rfl <| Go.iaload C A5 0 (by decide) rfl rfl d42_302 <| Go.ineg C d42_303 <| Go.iastore C A5 (mi 0 rfl) 0 (by decide) rfl (nb rfl) (vs' := [.int (-d0), .int (o_qd y1 y2 y3 y4)]) rfl d42_304 (fun _ _ A5 => ?_)
  refine Go.iinc C (-1) d42_305 rfl (by  decide) (Ls' := #[vi b0, vr a, vi (oN (f + 4)), vi len, vi (oN (f + 4)), vi d0, vi (oN f), vi e0, vi 0, vr b1, vi (-1)]) rfl <| il C d42_308 rfl <| ifltT C d42_310 (by decide) <| al C d42_328 rfl <| Go.areturn C d42_330 (nb rfl) (nb rfl) rfl rfl [] nx ?_
  exact hQ _ [-d0, (o_qd y1 y2 y3 y4)] _ (o_JB2 hv hd1 hd2 hE) (ge_of e3) A5
theorem o_lp_M0 {k : KT} {l : Launch} {Z : State} {a0 : Array Value} (hW : W0 Z a0) {h0 : Heap} {a : Addr} {vs : List Value} {h : Heap} {f : Nat} {y0 len : Int32} {kk : Int} {QQ : QT}
    (C : Ctx k l y_22 c42 11 (some (.array .int)) ⟨0, 1, 2, 0⟩ Z a0 o_EL true [] h0 QQ) (V : Av Z h a .byte vs) (hf : f < 100) (hv : kk = (y0.toInt % 256 - 256)) (hQ : ∀ (m : Addr) (M : List Int32) (h' : Heap), o_mg M (-kk) → h.size ≤ m → Av Z h' m .int (List.map Value.int M) → QQ (some (.ref m)) h' []) :
    Go k h [] 0 0 29 #[vi y0, vr a, vi (oN f), vi len, vi (oN f), su, su, su, su, su, su] [] := by
  refine Go.sipush C (-256) d42_29 (by decide) <| iN C d42_32 rfl <| Go.sipush C 255 d42_33 rfl <| Go.iand C d42_36 <| Go.ior C d42_37 <| Go.eqI (x' := (o_f1 y0)) rfl <| Go.istore C d42_38 (Ls' := #[vi y0, vr a, vi (oN f), vi len, vi (oN f), vi (o_f1 y0), su, su, su, su, su]) rfl <| il C d42_40 rfl <| iN C d42_42 rfl <| Go.isub C d42_43 <| gq 0 (Int32.sub_self _) <| ic C 3 d42_44 rfl <| Go.iand C d42_45 <| gq 0 rfl <| ifeqT C d42_46 (by decide) <| iN C d42_72 rfl <| Go.istore C d42_73 (Ls' := #[vi y0, vr a, vi (oN f), vi len, vi (oN f), vi (o_f1 y0), vi (oN f), su, su, su, su]) rfl <| iN C d42_75 rfl ?_
  suffices J76 : Go k h [] 0 0 95 #[vi y0, vr a, vi (oN f), vi len, vi (oN f), vi (o_f1 y0), vi (oN f), su, su, su, su] [] by
    refine Go.ifne C d42_76 (fun _ => J76) (fun _ => ?_)
    refine iN C d42_79 rfl <| il C d42_80 rfl <| Go.icmpge C d42_82 (fun hc82 => ?_) (fun hc82 => absurd hc82 Int32.lt_irrefl)
    exact J76
  refine iN C d42_95 rfl <| Go.sipush C 255 d42_96 rfl <| Go.iand C d42_99 <| Go.istore C d42_100 (Ls' := #[vi y0, vr a, vi (oN f), vi len, vi (oN f), vi (o_f1 y0), vi (oN f), vi (y0 &&& 255), su, su, su]) rfl <| il C d42_102 rfl <| iN C d42_104 rfl <| Go.isub C d42_105 <| gq 0 (Int32.sub_self _) <| ic C 3 d42_106 rfl <| Go.iand C d42_107 <| gq 0 rfl <| ifeqT C d42_108 (by decide) ?_
  have hd : kk = o_u (o_f1 y0) - 4294967296 := by
    have z0 := o_f1_int y0
    unfold o_u; omega
  exact o_lp_JA hW C V hd (fun q => o_or_r q) hQ
theorem o_lp_M1 {k : KT} {l : Launch} {Z : State} {a0 : Array Value} (hW : W0 Z a0) {h0 : Heap} {a : Addr} {vs : List Value} {h : Heap} {f : Nat} {y0 y1 len : Int32} {kk : Int} {QQ : QT}
    (C : Ctx k l y_22 c42 11 (some (.array .int)) ⟨0, 1, 2, 0⟩ Z a0 o_EL true [] h0 QQ) (V : Av Z h a .byte vs) (hf : f < 100) (hy1 : vs[f]? = some (.int y1)) (hv : kk = ((y0.toInt % 256 - 256) * 256 + y1.toInt % 256)) (hQ : ∀ (m : Addr) (M : List Int32) (h' : Heap), o_mg M (-kk) → h.size ≤ m → Av Z h' m .int (List.map Value.int M) → QQ (some (.ref m)) h' []) :
    Go k h [] 0 0 29 #[vi y0, vr a, vi (oN f), vi len, vi (oN (f + 1)), su, su, su, su, su, su] [] := by
  refine Go.sipush C (-256) d42_29 (by decide) <| iN C d42_32 rfl <| Go.sipush C 255 d42_33 rfl <| Go.iand C d42_36 <| Go.ior C d42_37 <| Go.eqI (x' := (o_f1 y0)) rfl <| Go.istore C d42_38 (Ls' := #[vi y0, vr a, vi (oN f), vi len, vi (oN (f + 1)), vi (o_f1 y0), su, su, su, su, su]) rfl <| il C d42_40 rfl <| iN C d42_42 rfl <| Go.isub C d42_43 <| gq 1 (o_sb (f := f) (a := 1) (b := 0) (by decide)) <| ic C 3 d42_44 rfl <| Go.iand C d42_45 <| gq 1 rfl <| ifeqF C d42_46 (by decide) <| il C d42_49 rfl <| Go.bipush C 8 d42_51 rfl <| Go.ishl C d42_53 <| aN C d42_54 rfl <| iN C d42_55 rfl <| Go.iinc C (oN (f + 1)) d42_56 rfl (nI_succ _) (Ls' := #[vi y0, vr a, vi (oN (f + 1)), vi len, vi (oN (f + 1)), vi (o_f1 y0), su, su, su, su, su]) rfl <| Go.baload C V f (nI_nn (by omega)) (nI_nat (by omega)) hy1 d42_59 <| Go.dup C d42_60 rfl <| Go.istoreN C d42_61 (Ls' := #[vi y1, vr a, vi (oN (f + 1)), vi len, vi (oN (f + 1)), vi (o_f1 y0), su, su, su, su, su]) rfl ?_
  refine Go.sipush C 255 d42_62 rfl <| Go.iand C d42_65 <| Go.ior C d42_66 <| Go.eqI (x' := (o_ct (o_f1 y0) y1)) rfl <| Go.istore C d42_67 (Ls' := #[vi y1, vr a, vi (oN (f + 1)), vi len, vi (oN (f + 1)), vi (o_ct (o_f1 y0) y1), su, su, su, su, su]) rfl <| Go.goto C d42_69 <| il C d42_40 rfl <| iN C d42_42 rfl <| Go.isub C d42_43 <| gq 0 (Int32.sub_self _) <| ic C 3 d42_44 rfl <| Go.iand C d42_45 <| gq 0 rfl <| ifeqT C d42_46 (by decide) <| iN C d42_72 rfl <| Go.istore C d42_73 (Ls' := #[vi y1, vr a, vi (oN (f + 1)), vi len, vi (oN (f + 1)), vi (o_ct (o_f1 y0) y1), vi (oN (f + 1)), su, su, su, su]) rfl <| iN C d42_75 rfl ?_
  suffices J76 : Go k h [] 0 0 95 #[vi y1, vr a, vi (oN (f + 1)), vi len, vi (oN (f + 1)), vi (o_ct (o_f1 y0) y1), vi (oN (f + 1)), su, su, su, su] [] by
    refine Go.ifne C d42_76 (fun _ => J76) (fun _ => ?_)
    refine iN C d42_79 rfl <| il C d42_80 rfl <| Go.icmpge C d42_82 (fun hc82 => ?_) (fun hc82 => absurd hc82 Int32.lt_irrefl)
    exact J76
  refine iN C d42_95 rfl <| Go.sipush C 255 d42_96 rfl <| Go.iand C d42_99 <| Go.istore C d42_100 (Ls' := #[vi y1, vr a, vi (oN (f + 1)), vi len, vi (oN (f + 1)), vi (o_ct (o_f1 y0) y1), vi (oN (f + 1)), vi (y1 &&& 255), su, su, su]) rfl <| il C d42_102 rfl <| iN C d42_104 rfl <| Go.isub C d42_105 <| gq 0 (Int32.sub_self _) <| ic C 3 d42_106 rfl <| Go.iand C d42_107 <| gq 0 rfl <| ifeqT C d42_108 (by decide) ?_
  have hd : kk = o_u (o_ct (o_f1 y0) y1) - 4294967296 := by
    have z0 := o_f1_int y0
    have z1 := o_ct_int (o_f1 y0) y1
    unfold o_u; omega
  exact o_lp_JA hW C V hd (fun q => o_or_r q) hQ
theorem o_lp_M2 {k : KT} {l : Launch} {Z : State} {a0 : Array Value} (hW : W0 Z a0) {h0 : Heap} {a : Addr} {vs : List Value} {h : Heap} {f : Nat} {y0 y1 y2 len : Int32} {kk : Int} {QQ : QT}
    (C : Ctx k l y_22 c42 11 (some (.array .int)) ⟨0, 1, 2, 0⟩ Z a0 o_EL true [] h0 QQ) (V : Av Z h a .byte vs) (hf : f < 100) (hy1 : vs[f]? = some (.int y1)) (hy2 : vs[f + 1]? = some (.int y2)) (hv : kk = (((y0.toInt % 256 - 256) * 256 + y1.toInt % 256) * 256 + y2.toInt % 256)) (hQ : ∀ (m : Addr) (M : List Int32) (h' : Heap), o_mg M (-kk) → h.size ≤ m → Av Z h' m .int (List.map Value.int M) → QQ (some (.ref m)) h' []) :
    Go k h [] 0 0 29 #[vi y0, vr a, vi (oN f), vi len, vi (oN (f + 2)), su, su, su, su, su, su] [] := by
  refine Go.sipush C (-256) d42_29 (by decide) <| iN C d42_32 rfl <| Go.sipush C 255 d42_33 rfl <| Go.iand C d42_36 <| Go.ior C d42_37 <| Go.eqI (x' := (o_f1 y0)) rfl <| Go.istore C d42_38 (Ls' := #[vi y0, vr a, vi (oN f), vi len, vi (oN (f + 2)), vi (o_f1 y0), su, su, su, su, su]) rfl <| il C d42_40 rfl <| iN C d42_42 rfl <| Go.isub C d42_43 <| gq 2 (o_sb (f := f) (a := 2) (b := 0) (by decide)) <| ic C 3 d42_44 rfl <| Go.iand C d42_45 <| gq 2 rfl <| ifeqF C d42_46 (by decide) <| il C d42_49 rfl <| Go.bipush C 8 d42_51 rfl <| Go.ishl C d42_53 <| aN C d42_54 rfl <| iN C d42_55 rfl <| Go.iinc C (oN (f + 1)) d42_56 rfl (nI_succ _) (Ls' := #[vi y0, vr a, vi (oN (f + 1)), vi len, vi (oN (f + 2)), vi (o_f1 y0), su, su, su, su, su]) rfl <| Go.baload C V f (nI_nn (by omega)) (nI_nat (by omega)) hy1 d42_59 <| Go.dup C d42_60 rfl <| Go.istoreN C d42_61 (Ls' := #[vi y1, vr a, vi (oN (f + 1)), vi len, vi (oN (f + 2)), vi (o_f1 y0), su, su, su, su, su]) rfl ?_
  refine Go.sipush C 255 d42_62 rfl <| Go.iand C d42_65 <| Go.ior C d42_66 <| Go.eqI (x' := (o_ct (o_f1 y0) y1)) rfl <| Go.istore C d42_67 (Ls' := #[vi y1, vr a, vi (oN (f + 1)), vi len, vi (oN (f + 2)), vi (o_ct (o_f1 y0) y1), su, su, su, su, su]) rfl <| Go.goto C d42_69 <| il C d42_40 rfl <| iN C d42_42 rfl <| Go.isub C d42_43 <| gq 1 (o_sb (f := f) (a := 2) (b := 1) (by decide)) <| ic C 3 d42_44 rfl <| Go.iand C d42_45 <| gq 1 rfl <| ifeqF C d42_46 (by decide) <| il C d42_49 rfl <| Go.bipush C 8 d42_51 rfl <| Go.ishl C d42_53 <| aN C d42_54 rfl <| iN C d42_55 rfl <| Go.iinc C (oN (f + 2)) d42_56 rfl (nI_succ _) (Ls' := #[vi y1, vr a, vi (oN (f + 2)), vi len, vi (oN (f + 2)), vi (o_ct (o_f1 y0) y1), su, su, su, su, su]) rfl <| Go.baload C V (f + 1) (nI_nn (by omega)) (nI_nat (by omega)) hy2 d42_59 <| Go.dup C d42_60 rfl <| Go.istoreN C d42_61 (Ls' := #[vi y2, vr a, vi (oN (f + 2)), vi len, vi (oN (f + 2)), vi (o_ct (o_f1 y0) y1), su, su, su, su, su]) rfl ?_
  refine Go.sipush C 255 d42_62 rfl <| Go.iand C d42_65 <| Go.ior C d42_66 <| Go.eqI (x' := (o_ct (o_ct (o_f1 y0) y1) y2)) rfl <| Go.istore C d42_67 (Ls' := #[vi y2, vr a, vi (oN (f + 2)), vi len, vi (oN (f + 2)), vi (o_ct (o_ct (o_f1 y0) y1) y2), su, su, su, su, su]) rfl <| Go.goto C d42_69 <| il C d42_40 rfl <| iN C d42_42 rfl <| Go.isub C d42_43 <| gq 0 (Int32.sub_self _) <| ic C 3 d42_44 rfl <| Go.iand C d42_45 <| gq 0 rfl <| ifeqT C d42_46 (by decide) <| iN C d42_72 rfl <| Go.istore C d42_73 (Ls' := #[vi y2, vr a, vi (oN (f + 2)), vi len, vi (oN (f + 2)), vi (o_ct (o_ct (o_f1 y0) y1) y2), vi (oN (f + 2)), su, su, su, su]) rfl <| iN C d42_75 rfl ?_
  suffices J76 : Go k h [] 0 0 95 #[vi y2, vr a, vi (oN (f + 2)), vi len, vi (oN (f + 2)), vi (o_ct (o_ct (o_f1 y0) y1) y2), vi (oN (f + 2)), su, su, su, su] [] by
    refine Go.ifne C d42_76 (fun _ => J76) (fun _ => ?_)
    refine iN C d42_79 rfl <| il C d42_80 rfl <| Go.icmpge C d42_82 (fun hc82 => ?_) (fun hc82 => absurd hc82 Int32.lt_irrefl)
    exact J76
  refine iN C d42_95 rfl <| Go.sipush C 255 d42_96 rfl <| Go.iand C d42_99 <| Go.istore C d42_100 (Ls' := #[vi y2, vr a, vi (oN (f + 2)), vi len, vi (oN (f + 2)), vi (o_ct (o_ct (o_f1 y0) y1) y2), vi (oN (f + 2)), vi (y2 &&& 255), su, su, su]) rfl <| il C d42_102 rfl <| iN C d42_104 rfl <| Go.isub C d42_105 <| gq 0 (Int32.sub_self _) <| ic C 3 d42_106 rfl <| Go.iand C d42_107 <| gq 0 rfl <| ifeqT C d42_108 (by decide) ?_
  have hd : kk = o_u (o_ct (o_ct (o_f1 y0) y1) y2) - 4294967296 := by
    have z0 := o_f1_int y0
    have z1 := o_ct_int (o_ct (o_f1 y0) y1) y2
    have z2 := o_ct_int (o_f1 y0) y1
    unfold o_u; omega
  exact o_lp_JA hW C V hd (fun q => o_or_r q) hQ
theorem o_lp_M3 {k : KT} {l : Launch} {Z : State} {a0 : Array Value} (hW : W0 Z a0) {h0 : Heap} {a : Addr} {vs : List Value} {h : Heap} {f : Nat} {y0 y1 y2 y3 len : Int32} {kk : Int} {QQ : QT}
    (C : Ctx k l y_22 c42 11 (some (.array .int)) ⟨0, 1, 2, 0⟩ Z a0 o_EL true [] h0 QQ) (V : Av Z h a .byte vs) (hf : f < 100) (hy1 : vs[f]? = some (.int y1)) (hy2 : vs[f + 1]? = some (.int y2)) (hy3 : vs[f + 2]? = some (.int y3)) (hv : kk = ((((y0.toInt % 256 - 256) * 256 + y1.toInt % 256) * 256 + y2.toInt % 256) * 256 + y3.toInt % 256)) (hQ : ∀ (m : Addr) (M : List Int32) (h' : Heap), o_mg M (-kk) → h.size ≤ m → Av Z h' m .int (List.map Value.int M) → QQ (some (.ref m)) h' []) :
    Go k h [] 0 0 29 #[vi y0, vr a, vi (oN f), vi len, vi (oN (f + 3)), su, su, su, su, su, su] [] := by
  refine Go.sipush C (-256) d42_29 (by decide) <| iN C d42_32 rfl <| Go.sipush C 255 d42_33 rfl <| Go.iand C d42_36 <| Go.ior C d42_37 <| Go.eqI (x' := (o_f1 y0)) rfl <| Go.istore C d42_38 (Ls' := #[vi y0, vr a, vi (oN f), vi len, vi (oN (f + 3)), vi (o_f1 y0), su, su, su, su, su]) rfl <| il C d42_40 rfl <| iN C d42_42 rfl <| Go.isub C d42_43 <| gq 3 (o_sb (f := f) (a := 3) (b := 0) (by decide)) <| ic C 3 d42_44 rfl <| Go.iand C d42_45 <| gq 3 rfl <| ifeqF C d42_46 (by decide) <| il C d42_49 rfl <| Go.bipush C 8 d42_51 rfl <| Go.ishl C d42_53 <| aN C d42_54 rfl <| iN C d42_55 rfl <| Go.iinc C (oN (f + 1)) d42_56 rfl (nI_succ _) (Ls' := #[vi y0, vr a, vi (oN (f + 1)), vi len, vi (oN (f + 3)), vi (o_f1 y0), su, su, su, su, su]) rfl <| Go.baload C V f (nI_nn (by omega)) (nI_nat (by omega)) hy1 d42_59 <| Go.dup C d42_60 rfl <| Go.istoreN C d42_61 (Ls' := #[vi y1, vr a, vi (oN (f + 1)), vi len, vi (oN (f + 3)), vi (o_f1 y0), su, su, su, su, su]) rfl ?_
  refine Go.sipush C 255 d42_62 rfl <| Go.iand C d42_65 <| Go.ior C d42_66 <| Go.eqI (x' := (o_ct (o_f1 y0) y1)) rfl <| Go.istore C d42_67 (Ls' := #[vi y1, vr a, vi (oN (f + 1)), vi len, vi (oN (f + 3)), vi (o_ct (o_f1 y0) y1), su, su, su, su, su]) rfl <| Go.goto C d42_69 <| il C d42_40 rfl <| iN C d42_42 rfl <| Go.isub C d42_43 <| gq 2 (o_sb (f := f) (a := 3) (b := 1) (by decide)) <| ic C 3 d42_44 rfl <| Go.iand C d42_45 <| gq 2 rfl <| ifeqF C d42_46 (by decide) <| il C d42_49 rfl <| Go.bipush C 8 d42_51 rfl <| Go.ishl C d42_53 <| aN C d42_54 rfl <| iN C d42_55 rfl <| Go.iinc C (oN (f + 2)) d42_56 rfl (nI_succ _) (Ls' := #[vi y1, vr a, vi (oN (f + 2)), vi len, vi (oN (f + 3)), vi (o_ct (o_f1 y0) y1), su, su, su, su, su]) rfl <| Go.baload C V (f + 1) (nI_nn (by omega)) (nI_nat (by omega)) hy2 d42_59 <| Go.dup C d42_60 rfl <| Go.istoreN C d42_61 (Ls' := #[vi y2, vr a, vi (oN (f + 2)), vi len, vi (oN (f + 3)), vi (o_ct (o_f1 y0) y1), su, su, su, su, su]) rfl ?_
  refine Go.sipush C 255 d42_62 rfl <| Go.iand C d42_65 <| Go.ior C d42_66 <| Go.eqI (x' := (o_ct (o_ct (o_f1 y0) y1) y2)) rfl <| Go.istore C d42_67 (Ls' := #[vi y2, vr a, vi (oN (f + 2)), vi len, vi (oN (f + 3)), vi (o_ct (o_ct (o_f1 y0) y1) y2), su, su, su, su, su]) rfl <| Go.goto C d42_69 <| il C d42_40 rfl <| iN C d42_42 rfl <| Go.isub C d42_43 <| gq 1 (o_sb (f := f) (a := 3) (b := 2) (by decide)) <| ic C 3 d42_44 rfl <| Go.iand C d42_45 <| gq 1 rfl <| ifeqF C d42_46 (by decide) <| il C d42_49 rfl <| Go.bipush C 8 d42_51 rfl <| Go.ishl C d42_53 <| aN C d42_54 rfl <| iN C d42_55 rfl <| Go.iinc C (oN (f + 3)) d42_56 rfl (nI_succ _) (Ls' := #[vi y2, vr a, vi (oN (f + 3)), vi len, vi (oN (f + 3)), vi (o_ct (o_ct (o_f1 y0) y1) y2), su, su, su, su, su]) rfl <| Go.baload C V (f + 2) (nI_nn (by omega)) (nI_nat (by omega)) hy3 d42_59 <| Go.dup C d42_60 rfl <| Go.istoreN C d42_61 (Ls' := #[vi y3, vr a, vi (oN (f + 3)), vi len, vi (oN (f + 3)), vi (o_ct (o_ct (o_f1 y0) y1) y2), su, su, su, su, su]) rfl ?_
  refine Go.sipush C 255 d42_62 rfl <| Go.iand C d42_65 <| Go.ior C d42_66 <| Go.eqI (x' := (o_ct (o_ct (o_ct (o_f1 y0) y1) y2) y3)) rfl <| Go.istore C d42_67 (Ls' := #[vi y3, vr a, vi (oN (f + 3)), vi len, vi (oN (f + 3)), vi (o_ct (o_ct (o_ct (o_f1 y0) y1) y2) y3), su, su, su, su, su]) rfl <| Go.goto C d42_69 <| il C d42_40 rfl <| iN C d42_42 rfl <| Go.isub C d42_43 <| gq 0 (Int32.sub_self _) <| ic C 3 d42_44 rfl <| Go.iand C d42_45 <| gq 0 rfl <| ifeqT C d42_46 (by decide) <| iN C d42_72 rfl <| Go.istore C d42_73 (Ls' := #[vi y3, vr a, vi (oN (f + 3)), vi len, vi (oN (f + 3)), vi (o_ct (o_ct (o_ct (o_f1 y0) y1) y2) y3), vi (oN (f + 3)), su, su, su, su]) rfl <| iN C d42_75 rfl ?_
  suffices J76 : Go k h [] 0 0 95 #[vi y3, vr a, vi (oN (f + 3)), vi len, vi (oN (f + 3)), vi (o_ct (o_ct (o_ct (o_f1 y0) y1) y2) y3), vi (oN (f + 3)), su, su, su, su] [] by
    refine Go.ifne C d42_76 (fun _ => J76) (fun _ => ?_)
    refine iN C d42_79 rfl <| il C d42_80 rfl <| Go.icmpge C d42_82 (fun hc82 => ?_) (fun hc82 => absurd hc82 Int32.lt_irrefl)
    exact J76
  refine iN C d42_95 rfl <| Go.sipush C 255 d42_96 rfl <| Go.iand C d42_99 <| Go.istore C d42_100 (Ls' := #[vi y3, vr a, vi (oN (f + 3)), vi len, vi (oN (f + 3)), vi (o_ct (o_ct (o_ct (o_f1 y0) y1) y2) y3), vi (oN (f + 3)), vi (y3 &&& 255), su, su, su]) rfl <| il C d42_102 rfl <| iN C d42_104 rfl <| Go.isub C d42_105 <| gq 0 (Int32.sub_self _) <| ic C 3 d42_106 rfl <| Go.iand C d42_107 <| gq 0 rfl <| ifeqT C d42_108 (by decide) ?_
  have hd : kk = o_u (o_ct (o_ct (o_ct (o_f1 y0) y1) y2) y3) - 4294967296 := by
    have z0 := o_f1_int y0
    have z1 := o_ct_int (o_ct (o_ct (o_f1 y0) y1) y2) y3
    have z2 := o_ct_int (o_ct (o_f1 y0) y1) y2
    have z3 := o_ct_int (o_f1 y0) y1
    unfold o_u; omega
  exact o_lp_JA hW C V hd (fun q => o_or_r q) hQ
theorem o_lp_M4 {k : KT} {l : Launch} {Z : State} {a0 : Array Value} (hW : W0 Z a0) {h0 : Heap} {a : Addr} {vs : List Value} {h : Heap} {f : Nat} {y0 y1 y2 y3 y4 len : Int32} {kk : Int} {QQ : QT}
    (C : Ctx k l y_22 c42 11 (some (.array .int)) ⟨0, 1, 2, 0⟩ Z a0 o_EL true [] h0 QQ) (V : Av Z h a .byte vs) (hf : f < 100) (hy1 : vs[f]? = some (.int y1)) (hy2 : vs[f + 1]? = some (.int y2)) (hy3 : vs[f + 2]? = some (.int y3)) (hy4 : vs[f + 3]? = some (.int y4)) (hB : o_B y0) (h1 : ¬ y0 = -1) (hv : kk = (((((y0.toInt % 256 - 256) * 256 + y1.toInt % 256) * 256 + y2.toInt % 256) * 256 + y3.toInt % 256) * 256 + y4.toInt % 256)) (hQ : ∀ (m : Addr) (M : List Int32) (h' : Heap), o_mg M (-kk) → h.size ≤ m → Av Z h' m .int (List.map Value.int M) → QQ (some (.ref m)) h' []) :
    Go k h [] 0 0 29 #[vi y0, vr a, vi (oN f), vi len, vi (oN (f + 4)), su, su, su, su, su, su] [] := by
  refine Go.sipush C (-256) d42_29 (by decide) <| iN C d42_32 rfl <| Go.sipush C 255 d42_33 rfl <| Go.iand C d42_36 <| Go.ior C d42_37 <| Go.eqI (x' := (o_f1 y0)) rfl <| Go.istore C d42_38 (Ls' := #[vi y0, vr a, vi (oN f), vi len, vi (oN (f + 4)), vi (o_f1 y0), su, su, su, su, su]) rfl <| il C d42_40 rfl <| iN C d42_42 rfl <| Go.isub C d42_43 <| gq 4 (o_sb (f := f) (a := 4) (b := 0) (by decide)) <| ic C 3 d42_44 rfl <| Go.iand C d42_45 <| gq 0 rfl <| ifeqT C d42_46 (by decide) <| iN C d42_72 rfl <| Go.istore C d42_73 (Ls' := #[vi y0, vr a, vi (oN f), vi len, vi (oN (f + 4)), vi (o_f1 y0), vi (oN f), su, su, su, su]) rfl <| iN C d42_75 rfl <| Go.ifne C d42_76 (fun hz0 => ?_) (fun hz0 => ?_)
  · refine iN C d42_95 rfl <| Go.sipush C 255 d42_96 rfl <| Go.iand C d42_99 <| Go.istore C d42_100 (Ls' := #[vi y0, vr a, vi (oN f), vi len, vi (oN (f + 4)), vi (o_f1 y0), vi (oN f), vi (y0 &&& 255), su, su, su]) rfl <| il C d42_102 rfl <| iN C d42_104 rfl <| Go.isub C d42_105 <| gq 4 (o_sb (f := f) (a := 4) (b := 0) (by decide)) <| ic C 3 d42_106 rfl <| Go.iand C d42_107 <| gq 0 rfl <| ifeqT C d42_108 (by decide) ?_
    have hd : -65535 ≤ ((o_f1 y0)).toInt ∧ ((o_f1 y0)).toInt ≤ -2 := by
      have z0 := o_intn h1
      have z1 := o_f1_int y0
      obtain ⟨u0, v0⟩ := hB
      have r0 := rng32 (o_f1 y0)
      omega
    have hv2 : kk = ((o_f1 y0)).toInt * 4294967296 + o_u (o_qd y1 y2 y3 y4) := by
      have z0 := o_f1_int y0
      have z1 := o_qd_u y1 y2 y3 y4
      obtain ⟨u0, v0⟩ := hB
      have r0 := rng32 (o_f1 y0)
      have hu : o_u (o_qd y1 y2 y3 y4) = y1.toInt % 256 * 16777216 + y2.toInt % 256 * 65536 + y3.toInt % 256 * 256 + y4.toInt % 256 := by assumption
      omega
    exact o_lp_JC hW C (f := f) V (by omega) hy1 hy2 hy3 hy4 hv2 hd.1 hd.2 hQ
  refine iN C d42_79 rfl <| il C d42_80 rfl <| Go.icmpge C d42_82 (fun hc82 => absurd ((nI_lt (by omega) (by omega)).mpr (by omega)) hc82) (fun hc82 => ?_)
  refine aN C d42_85 rfl <| iN C d42_86 rfl <| Go.iinc C (oN (f + 1)) d42_87 rfl (nI_succ _) (Ls' := #[vi y0, vr a, vi (oN (f + 1)), vi len, vi (oN (f + 4)), vi (o_f1 y0), vi (oN f), su, su, su, su]) rfl <| Go.baload C V f (nI_nn (by omega)) (nI_nat (by omega)) hy1 d42_90 <| Go.istoreN C d42_91 (Ls' := #[vi y1, vr a, vi (oN (f + 1)), vi len, vi (oN (f + 4)), vi (o_f1 y0), vi (oN f), su, su, su, su]) rfl <| Go.goto C d42_92 <| iN C d42_75 rfl <| Go.ifne C d42_76 (fun hz1 => ?_) (fun hz1 => ?_)
  · refine iN C d42_95 rfl <| Go.sipush C 255 d42_96 rfl <| Go.iand C d42_99 <| Go.istore C d42_100 (Ls' := #[vi y1, vr a, vi (oN (f + 1)), vi len, vi (oN (f + 4)), vi (o_f1 y0), vi (oN f), vi (y1 &&& 255), su, su, su]) rfl <| il C d42_102 rfl <| iN C d42_104 rfl <| Go.isub C d42_105 <| gq 3 (o_sb (f := f) (a := 4) (b := 1) (by decide)) <| ic C 3 d42_106 rfl <| Go.iand C d42_107 <| gq 3 rfl <| ifeqF C d42_108 (by decide) <| il C d42_111 rfl <| Go.bipush C 8 d42_113 rfl <| Go.ishl C d42_115 <| aN C d42_116 rfl <| iN C d42_117 rfl <| Go.iinc C (oN (f + 2)) d42_118 rfl (nI_succ _) (Ls' := #[vi y1, vr a, vi (oN (f + 2)), vi len, vi (oN (f + 4)), vi (o_f1 y0), vi (oN f), vi (y1 &&& 255), su, su, su]) rfl <| Go.baload C V (f + 1) (nI_nn (by omega)) (nI_nat (by omega)) hy2 d42_121 <| Go.sipush C 255 d42_122 rfl <| Go.iand C d42_125 <| Go.ior C d42_126 <| Go.eqI (x' := (o_ct (y1 &&& 255) y2)) rfl ?_
    refine Go.istore C d42_127 (Ls' := #[vi y1, vr a, vi (oN (f + 2)), vi len, vi (oN (f + 4)), vi (o_f1 y0), vi (oN f), vi (o_ct (y1 &&& 255) y2), su, su, su]) rfl <| Go.goto C d42_129 <| il C d42_102 rfl <| iN C d42_104 rfl <| Go.isub C d42_105 <| gq 2 (o_sb (f := f) (a := 4) (b := 2) (by decide)) <| ic C 3 d42_106 rfl <| Go.iand C d42_107 <| gq 2 rfl <| ifeqF C d42_108 (by decide) <| il C d42_111 rfl <| Go.bipush C 8 d42_113 rfl <| Go.ishl C d42_115 <| aN C d42_116 rfl <| iN C d42_117 rfl <| Go.iinc C (oN (f + 3)) d42_118 rfl (nI_succ _) (Ls' := #[vi y1, vr a, vi (oN (f + 3)), vi len, vi (oN (f + 4)), vi (o_f1 y0), vi (oN f), vi (o_ct (y1 &&& 255) y2), su, su, su]) rfl <| Go.baload C V (f + 2) (nI_nn (by omega)) (nI_nat (by omega)) hy3 d42_121 <| Go.sipush C 255 d42_122 rfl <| Go.iand C d42_125 <| Go.ior C d42_126 <| Go.eqI (x' := (o_ct (o_ct (y1 &&& 255) y2) y3)) rfl ?_
    refine Go.istore C d42_127 (Ls' := #[vi y1, vr a, vi (oN (f + 3)), vi len, vi (oN (f + 4)), vi (o_f1 y0), vi (oN f), vi (o_ct (o_ct (y1 &&& 255) y2) y3), su, su, su]) rfl <| Go.goto C d42_129 <| il C d42_102 rfl <| iN C d42_104 rfl <| Go.isub C d42_105 <| gq 1 (o_sb (f := f) (a := 4) (b := 3) (by decide)) <| ic C 3 d42_106 rfl <| Go.iand C d42_107 <| gq 1 rfl <| ifeqF C d42_108 (by decide) <| il C d42_111 rfl <| Go.bipush C 8 d42_113 rfl <| Go.ishl C d42_115 <| aN C d42_116 rfl <| iN C d42_117 rfl <| Go.iinc C (oN (f + 4)) d42_118 rfl (nI_succ _) (Ls' := #[vi y1, vr a, vi (oN (f + 4)), vi len, vi (oN (f + 4)), vi (o_f1 y0), vi (oN f), vi (o_ct (o_ct (y1 &&& 255) y2) y3), su, su, su]) rfl <| Go.baload C V (f + 3) (nI_nn (by omega)) (nI_nat (by omega)) hy4 d42_121 <| Go.sipush C 255 d42_122 rfl <| Go.iand C d42_125 <| Go.ior C d42_126 <| Go.eqI (x' := (o_ct (o_ct (o_ct (y1 &&& 255) y2) y3) y4)) rfl ?_
    refine Go.istore C d42_127 (Ls' := #[vi y1, vr a, vi (oN (f + 4)), vi len, vi (oN (f + 4)), vi (o_f1 y0), vi (oN f), vi (o_ct (o_ct (o_ct (y1 &&& 255) y2) y3) y4), su, su, su]) rfl <| Go.goto C d42_129 <| il C d42_102 rfl <| iN C d42_104 rfl <| Go.isub C d42_105 <| gq 0 (Int32.sub_self _) <| ic C 3 d42_106 rfl <| Go.iand C d42_107 <| gq 0 rfl <| ifeqT C d42_108 (by decide) ?_
    have hd : -65535 ≤ ((o_f1 y0)).toInt ∧ ((o_f1 y0)).toInt ≤ -2 := by
      have z0 := o_intn h1
      have z1 := o_f1_int y0
      obtain ⟨u0, v0⟩ := hB
      have r0 := rng32 (o_f1 y0)
      omega
    have hv2 : kk = ((o_f1 y0)).toInt * 4294967296 + o_u (o_ct (o_ct (o_ct (y1 &&& 255) y2) y3) y4) := by
      have z0 := o_int0 hz0
      have z1 := o_f1_int y0
      have z2 := o_m_int y1
      have z3 := o_ct_int (o_ct (o_ct (y1 &&& 255) y2) y3) y4
      have z4 := o_ct_int (o_ct (y1 &&& 255) y2) y3
      have z5 := o_ct_int (y1 &&& 255) y2
      obtain ⟨u0, v0⟩ := hB
      have r0 := rng32 (o_f1 y0)
      have hu : o_u (o_ct (o_ct (o_ct (y1 &&& 255) y2) y3) y4) = y1.toInt % 256 * 16777216 + y2.toInt % 256 * 65536 + y3.toInt % 256 * 256 + y4.toInt % 256 := by unfold o_u; omega
      omega
    exact o_lp_JB hW C (f := f) (y1 := y0) (y2 := y0) (y3 := y0) (y4 := y0) V (by omega) hv2 hd.1 hd.2 hQ
  refine iN C d42_79 rfl <| il C d42_80 rfl <| Go.icmpge C d42_82 (fun hc82 => absurd ((nI_lt (by omega) (by omega)).mpr (by omega)) hc82) (fun hc82 => ?_)
  refine aN C d42_85 rfl <| iN C d42_86 rfl <| Go.iinc C (oN (f + 2)) d42_87 rfl (nI_succ _) (Ls' := #[vi y1, vr a, vi (oN (f + 2)), vi len, vi (oN (f + 4)), vi (o_f1 y0), vi (oN f), su, su, su, su]) rfl <| Go.baload C V (f + 1) (nI_nn (by omega)) (nI_nat (by omega)) hy2 d42_90 <| Go.istoreN C d42_91 (Ls' := #[vi y2, vr a, vi (oN (f + 2)), vi len, vi (oN (f + 4)), vi (o_f1 y0), vi (oN f), su, su, su, su]) rfl <| Go.goto C d42_92 <| iN C d42_75 rfl <| Go.ifne C d42_76 (fun hz2 => ?_) (fun hz2 => ?_)
  · refine iN C d42_95 rfl <| Go.sipush C 255 d42_96 rfl <| Go.iand C d42_99 <| Go.istore C d42_100 (Ls' := #[vi y2, vr a, vi (oN (f + 2)), vi len, vi (oN (f + 4)), vi (o_f1 y0), vi (oN f), vi (y2 &&& 255), su, su, su]) rfl <| il C d42_102 rfl <| iN C d42_104 rfl <| Go.isub C d42_105 <| gq 2 (o_sb (f := f) (a := 4) (b := 2) (by decide)) <| ic C 3 d42_106 rfl <| Go.iand C d42_107 <| gq 2 rfl <| ifeqF C d42_108 (by decide) <| il C d42_111 rfl <| Go.bipush C 8 d42_113 rfl <| Go.ishl C d42_115 <| aN C d42_116 rfl <| iN C d42_117 rfl <| Go.iinc C (oN (f + 3)) d42_118 rfl (nI_succ _) (Ls' := #[vi y2, vr a, vi (oN (f + 3)), vi len, vi (oN (f + 4)), vi (o_f1 y0), vi (oN f), vi (y2 &&& 255), su, su, su]) rfl <| Go.baload C V (f + 2) (nI_nn (by omega)) (nI_nat (by omega)) hy3 d42_121 <| Go.sipush C 255 d42_122 rfl <| Go.iand C d42_125 <| Go.ior C d42_126 <| Go.eqI (x' := (o_ct (y2 &&& 255) y3)) rfl ?_
    refine Go.istore C d42_127 (Ls' := #[vi y2, vr a, vi (oN (f + 3)), vi len, vi (oN (f + 4)), vi (o_f1 y0), vi (oN f), vi (o_ct (y2 &&& 255) y3), su, su, su]) rfl <| Go.goto C d42_129 <| il C d42_102 rfl <| iN C d42_104 rfl <| Go.isub C d42_105 <| gq 1 (o_sb (f := f) (a := 4) (b := 3) (by decide)) <| ic C 3 d42_106 rfl <| Go.iand C d42_107 <| gq 1 rfl <| ifeqF C d42_108 (by decide) <| il C d42_111 rfl <| Go.bipush C 8 d42_113 rfl <| Go.ishl C d42_115 <| aN C d42_116 rfl <| iN C d42_117 rfl <| Go.iinc C (oN (f + 4)) d42_118 rfl (nI_succ _) (Ls' := #[vi y2, vr a, vi (oN (f + 4)), vi len, vi (oN (f + 4)), vi (o_f1 y0), vi (oN f), vi (o_ct (y2 &&& 255) y3), su, su, su]) rfl <| Go.baload C V (f + 3) (nI_nn (by omega)) (nI_nat (by omega)) hy4 d42_121 <| Go.sipush C 255 d42_122 rfl <| Go.iand C d42_125 <| Go.ior C d42_126 <| Go.eqI (x' := (o_ct (o_ct (y2 &&& 255) y3) y4)) rfl ?_
    refine Go.istore C d42_127 (Ls' := #[vi y2, vr a, vi (oN (f + 4)), vi len, vi (oN (f + 4)), vi (o_f1 y0), vi (oN f), vi (o_ct (o_ct (y2 &&& 255) y3) y4), su, su, su]) rfl <| Go.goto C d42_129 <| il C d42_102 rfl <| iN C d42_104 rfl <| Go.isub C d42_105 <| gq 0 (Int32.sub_self _) <| ic C 3 d42_106 rfl <| Go.iand C d42_107 <| gq 0 rfl <| ifeqT C d42_108 (by decide) ?_
    have hd : -65535 ≤ ((o_f1 y0)).toInt ∧ ((o_f1 y0)).toInt ≤ -2 := by
      have z0 := o_intn h1
      have z1 := o_f1_int y0
      obtain ⟨u0, v0⟩ := hB
      have r0 := rng32 (o_f1 y0)
      omega
    have hv2 : kk = ((o_f1 y0)).toInt * 4294967296 + o_u (o_ct (o_ct (y2 &&& 255) y3) y4) := by
      have z0 := o_int0 hz0
      have z1 := o_int0 hz1
      have z2 := o_f1_int y0
      have z3 := o_m_int y2
      have z4 := o_ct_int (o_ct (y2 &&& 255) y3) y4
      have z5 := o_ct_int (y2 &&& 255) y3
      obtain ⟨u0, v0⟩ := hB
      have r0 := rng32 (o_f1 y0)
      have hu : o_u (o_ct (o_ct (y2 &&& 255) y3) y4) = y1.toInt % 256 * 16777216 + y2.toInt % 256 * 65536 + y3.toInt % 256 * 256 + y4.toInt % 256 := by unfold o_u; omega
      omega
    exact o_lp_JB hW C (f := f) (y1 := y0) (y2 := y0) (y3 := y0) (y4 := y0) V (by omega) hv2 hd.1 hd.2 hQ
  refine iN C d42_79 rfl <| il C d42_80 rfl <| Go.icmpge C d42_82 (fun hc82 => absurd ((nI_lt (by omega) (by omega)).mpr (by omega)) hc82) (fun hc82 => ?_)
  refine aN C d42_85 rfl <| iN C d42_86 rfl <| Go.iinc C (oN (f + 3)) d42_87 rfl (nI_succ _) (Ls' := #[vi y2, vr a, vi (oN (f + 3)), vi len, vi (oN (f + 4)), vi (o_f1 y0), vi (oN f), su, su, su, su]) rfl <| Go.baload C V (f + 2) (nI_nn (by omega)) (nI_nat (by omega)) hy3 d42_90 <| Go.istoreN C d42_91 (Ls' := #[vi y3, vr a, vi (oN (f + 3)), vi len, vi (oN (f + 4)), vi (o_f1 y0), vi (oN f), su, su, su, su]) rfl <| Go.goto C d42_92 <| iN C d42_75 rfl <| Go.ifne C d42_76 (fun hz3 => ?_) (fun hz3 => ?_)
  · refine iN C d42_95 rfl <| Go.sipush C 255 d42_96 rfl <| Go.iand C d42_99 <| Go.istore C d42_100 (Ls' := #[vi y3, vr a, vi (oN (f + 3)), vi len, vi (oN (f + 4)), vi (o_f1 y0), vi (oN f), vi (y3 &&& 255), su, su, su]) rfl <| il C d42_102 rfl <| iN C d42_104 rfl <| Go.isub C d42_105 <| gq 1 (o_sb (f := f) (a := 4) (b := 3) (by decide)) <| ic C 3 d42_106 rfl <| Go.iand C d42_107 <| gq 1 rfl <| ifeqF C d42_108 (by decide) <| il C d42_111 rfl <| Go.bipush C 8 d42_113 rfl <| Go.ishl C d42_115 <| aN C d42_116 rfl <| iN C d42_117 rfl <| Go.iinc C (oN (f + 4)) d42_118 rfl (nI_succ _) (Ls' := #[vi y3, vr a, vi (oN (f + 4)), vi len, vi (oN (f + 4)), vi (o_f1 y0), vi (oN f), vi (y3 &&& 255), su, su, su]) rfl <| Go.baload C V (f + 3) (nI_nn (by omega)) (nI_nat (by omega)) hy4 d42_121 <| Go.sipush C 255 d42_122 rfl <| Go.iand C d42_125 <| Go.ior C d42_126 <| Go.eqI (x' := (o_ct (y3 &&& 255) y4)) rfl ?_
    refine Go.istore C d42_127 (Ls' := #[vi y3, vr a, vi (oN (f + 4)), vi len, vi (oN (f + 4)), vi (o_f1 y0), vi (oN f), vi (o_ct (y3 &&& 255) y4), su, su, su]) rfl <| Go.goto C d42_129 <| il C d42_102 rfl <| iN C d42_104 rfl <| Go.isub C d42_105 <| gq 0 (Int32.sub_self _) <| ic C 3 d42_106 rfl <| Go.iand C d42_107 <| gq 0 rfl <| ifeqT C d42_108 (by decide) ?_
    have hd : -65535 ≤ ((o_f1 y0)).toInt ∧ ((o_f1 y0)).toInt ≤ -2 := by
      have z0 := o_intn h1
      have z1 := o_f1_int y0
      obtain ⟨u0, v0⟩ := hB
      have r0 := rng32 (o_f1 y0)
      omega
    have hv2 : kk = ((o_f1 y0)).toInt * 4294967296 + o_u (o_ct (y3 &&& 255) y4) := by
      have z0 := o_int0 hz0
      have z1 := o_int0 hz1
      have z2 := o_int0 hz2
      have z3 := o_f1_int y0
      have z4 := o_m_int y3
      have z5 := o_ct_int (y3 &&& 255) y4
      obtain ⟨u0, v0⟩ := hB
      have r0 := rng32 (o_f1 y0)
      have hu : o_u (o_ct (y3 &&& 255) y4) = y1.toInt % 256 * 16777216 + y2.toInt % 256 * 65536 + y3.toInt % 256 * 256 + y4.toInt % 256 := by unfold o_u; omega
      omega
    exact o_lp_JB hW C (f := f) (y1 := y0) (y2 := y0) (y3 := y0) (y4 := y0) V (by omega) hv2 hd.1 hd.2 hQ
  refine iN C d42_79 rfl <| il C d42_80 rfl <| Go.icmpge C d42_82 (fun hc82 => absurd ((nI_lt (by omega) (by omega)).mpr (by omega)) hc82) (fun hc82 => ?_)
  refine aN C d42_85 rfl <| iN C d42_86 rfl <| Go.iinc C (oN (f + 4)) d42_87 rfl (nI_succ _) (Ls' := #[vi y3, vr a, vi (oN (f + 4)), vi len, vi (oN (f + 4)), vi (o_f1 y0), vi (oN f), su, su, su, su]) rfl <| Go.baload C V (f + 3) (nI_nn (by omega)) (nI_nat (by omega)) hy4 d42_90 <| Go.istoreN C d42_91 (Ls' := #[vi y4, vr a, vi (oN (f + 4)), vi len, vi (oN (f + 4)), vi (o_f1 y0), vi (oN f), su, su, su, su]) rfl <| Go.goto C d42_92 <| iN C d42_75 rfl ?_
  suffices J76 : Go k h [] 0 0 95 #[vi y4, vr a, vi (oN (f + 4)), vi len, vi (oN (f + 4)), vi (o_f1 y0), vi (oN f), su, su, su, su] [] by
    refine Go.ifne C d42_76 (fun _ => J76) (fun _ => ?_)
    refine iN C d42_79 rfl <| il C d42_80 rfl <| Go.icmpge C d42_82 (fun hc82 => ?_) (fun hc82 => absurd hc82 Int32.lt_irrefl)
    exact J76
  refine iN C d42_95 rfl <| Go.sipush C 255 d42_96 rfl <| Go.iand C d42_99 <| Go.istore C d42_100 (Ls' := #[vi y4, vr a, vi (oN (f + 4)), vi len, vi (oN (f + 4)), vi (o_f1 y0), vi (oN f), vi (y4 &&& 255), su, su, su]) rfl <| il C d42_102 rfl <| iN C d42_104 rfl <| Go.isub C d42_105 <| gq 0 (Int32.sub_self _) <| ic C 3 d42_106 rfl <| Go.iand C d42_107 <| gq 0 rfl <| ifeqT C d42_108 (by decide) ?_
  have hd : -65535 ≤ ((o_f1 y0)).toInt ∧ ((o_f1 y0)).toInt ≤ -2 := by
    have z0 := o_intn h1
    have z1 := o_f1_int y0
    obtain ⟨u0, v0⟩ := hB
    have r0 := rng32 (o_f1 y0)
    omega
  have hv2 : kk = ((o_f1 y0)).toInt * 4294967296 + o_u (y4 &&& 255) := by
    have z0 := o_int0 hz0
    have z1 := o_int0 hz1
    have z2 := o_int0 hz2
    have z3 := o_int0 hz3
    have z4 := o_f1_int y0
    have z5 := o_m_int y4
    obtain ⟨u0, v0⟩ := hB
    have r0 := rng32 (o_f1 y0)
    have hu : o_u (y4 &&& 255) = y1.toInt % 256 * 16777216 + y2.toInt % 256 * 65536 + y3.toInt % 256 * 256 + y4.toInt % 256 := by unfold o_u; omega
    omega
  exact o_lp_JB hW C (f := f) (y1 := y0) (y2 := y0) (y3 := y0) (y4 := y0) V (by omega) hv2 hd.1 hd.2 hQ
theorem o_lp_M5 {k : KT} {l : Launch} {Z : State} {a0 : Array Value} (hW : W0 Z a0) {h0 : Heap} {a : Addr} {vs : List Value} {h : Heap} {f : Nat} {y0 y1 y2 y3 y4 y5 len : Int32} {kk : Int} {QQ : QT}
    (C : Ctx k l y_22 c42 11 (some (.array .int)) ⟨0, 1, 2, 0⟩ Z a0 o_EL true [] h0 QQ) (V : Av Z h a .byte vs) (hf : f < 100) (hy1 : vs[f]? = some (.int y1)) (hy2 : vs[f + 1]? = some (.int y2)) (hy3 : vs[f + 2]? = some (.int y3)) (hy4 : vs[f + 3]? = some (.int y4)) (hy5 : vs[f + 4]? = some (.int y5)) (hB : o_B y0) (h1 : ¬ y0 = -1) (h2 : y0.toInt < 0) (hv : kk = ((((((y0.toInt % 256 - 256) * 256 + y1.toInt % 256) * 256 + y2.toInt % 256) * 256 + y3.toInt % 256) * 256 + y4.toInt % 256) * 256 + y5.toInt % 256)) (hQ : ∀ (m : Addr) (M : List Int32) (h' : Heap), o_mg M (-kk) → h.size ≤ m → Av Z h' m .int (List.map Value.int M) → QQ (some (.ref m)) h' []) :
    Go k h [] 0 0 29 #[vi y0, vr a, vi (oN f), vi len, vi (oN (f + 5)), su, su, su, su, su, su] [] := by
  refine Go.sipush C (-256) d42_29 (by decide) <| iN C d42_32 rfl <| Go.sipush C 255 d42_33 rfl <| Go.iand C d42_36 <| Go.ior C d42_37 <| Go.eqI (x' := (o_f1 y0)) rfl <| Go.istore C d42_38 (Ls' := #[vi y0, vr a, vi (oN f), vi len, vi (oN (f + 5)), vi (o_f1 y0), su, su, su, su, su]) rfl <| il C d42_40 rfl <| iN C d42_42 rfl <| Go.isub C d42_43 <| gq 5 (o_sb (f := f) (a := 5) (b := 0) (by decide)) <| ic C 3 d42_44 rfl <| Go.iand C d42_45 <| gq 1 rfl <| ifeqF C d42_46 (by decide) <| il C d42_49 rfl <| Go.bipush C 8 d42_51 rfl <| Go.ishl C d42_53 <| aN C d42_54 rfl <| iN C d42_55 rfl <| Go.iinc C (oN (f + 1)) d42_56 rfl (nI_succ _) (Ls' := #[vi y0, vr a, vi (oN (f + 1)), vi len, vi (oN (f + 5)), vi (o_f1 y0), su, su, su, su, su]) rfl <| Go.baload C V f (nI_nn (by omega)) (nI_nat (by omega)) hy1 d42_59 <| Go.dup C d42_60 rfl <| Go.istoreN C d42_61 (Ls' := #[vi y1, vr a, vi (oN (f + 1)), vi len, vi (oN (f + 5)), vi (o_f1 y0), su, su, su, su, su]) rfl ?_
  refine Go.sipush C 255 d42_62 rfl <| Go.iand C d42_65 <| Go.ior C d42_66 <| Go.eqI (x' := (o_ct (o_f1 y0) y1)) rfl <| Go.istore C d42_67 (Ls' := #[vi y1, vr a, vi (oN (f + 1)), vi len, vi (oN (f + 5)), vi (o_ct (o_f1 y0) y1), su, su, su, su, su]) rfl <| Go.goto C d42_69 <| il C d42_40 rfl <| iN C d42_42 rfl <| Go.isub C d42_43 <| gq 4 (o_sb (f := f) (a := 5) (b := 1) (by decide)) <| ic C 3 d42_44 rfl <| Go.iand C d42_45 <| gq 0 rfl <| ifeqT C d42_46 (by decide) <| iN C d42_72 rfl <| Go.istore C d42_73 (Ls' := #[vi y1, vr a, vi (oN (f + 1)), vi len, vi (oN (f + 5)), vi (o_ct (o_f1 y0) y1), vi (oN (f + 1)), su, su, su, su]) rfl <| iN C d42_75 rfl <| Go.ifne C d42_76 (fun hz1 => ?_) (fun hz1 => ?_)
  · refine iN C d42_95 rfl <| Go.sipush C 255 d42_96 rfl <| Go.iand C d42_99 <| Go.istore C d42_100 (Ls' := #[vi y1, vr a, vi (oN (f + 1)), vi len, vi (oN (f + 5)), vi (o_ct (o_f1 y0) y1), vi (oN (f + 1)), vi (y1 &&& 255), su, su, su]) rfl <| il C d42_102 rfl <| iN C d42_104 rfl <| Go.isub C d42_105 <| gq 4 (o_sb (f := f) (a := 5) (b := 1) (by decide)) <| ic C 3 d42_106 rfl <| Go.iand C d42_107 <| gq 0 rfl <| ifeqT C d42_108 (by decide) ?_
    have hd : -65535 ≤ ((o_ct (o_f1 y0) y1)).toInt ∧ ((o_ct (o_f1 y0) y1)).toInt ≤ -2 := by
      have z0 := o_intn h1
      have z1 := o_f1_int y0
      have z2 := o_ct_int (o_f1 y0) y1
      obtain ⟨u0, v0⟩ := hB
      have r0 := rng32 (o_ct (o_f1 y0) y1)
      omega
    have hv2 : kk = ((o_ct (o_f1 y0) y1)).toInt * 4294967296 + o_u (o_qd y2 y3 y4 y5) := by
      have z0 := o_f1_int y0
      have z1 := o_ct_int (o_f1 y0) y1
      have z2 := o_qd_u y2 y3 y4 y5
      obtain ⟨u0, v0⟩ := hB
      have r0 := rng32 (o_ct (o_f1 y0) y1)
      have hu : o_u (o_qd y2 y3 y4 y5) = y2.toInt % 256 * 16777216 + y3.toInt % 256 * 65536 + y4.toInt % 256 * 256 + y5.toInt % 256 := by assumption
      omega
    exact o_lp_JC hW C (f := f + 1) V (by omega) hy2 hy3 hy4 hy5 hv2 hd.1 hd.2 hQ
  refine iN C d42_79 rfl <| il C d42_80 rfl <| Go.icmpge C d42_82 (fun hc82 => absurd ((nI_lt (by omega) (by omega)).mpr (by omega)) hc82) (fun hc82 => ?_)
  refine aN C d42_85 rfl <| iN C d42_86 rfl <| Go.iinc C (oN (f + 2)) d42_87 rfl (nI_succ _) (Ls' := #[vi y1, vr a, vi (oN (f + 2)), vi len, vi (oN (f + 5)), vi (o_ct (o_f1 y0) y1), vi (oN (f + 1)), su, su, su, su]) rfl <| Go.baload C V (f + 1) (nI_nn (by omega)) (nI_nat (by omega)) hy2 d42_90 <| Go.istoreN C d42_91 (Ls' := #[vi y2, vr a, vi (oN (f + 2)), vi len, vi (oN (f + 5)), vi (o_ct (o_f1 y0) y1), vi (oN (f + 1)), su, su, su, su]) rfl <| Go.goto C d42_92 <| iN C d42_75 rfl <| Go.ifne C d42_76 (fun hz2 => ?_) (fun hz2 => ?_)
  · refine iN C d42_95 rfl <| Go.sipush C 255 d42_96 rfl <| Go.iand C d42_99 <| Go.istore C d42_100 (Ls' := #[vi y2, vr a, vi (oN (f + 2)), vi len, vi (oN (f + 5)), vi (o_ct (o_f1 y0) y1), vi (oN (f + 1)), vi (y2 &&& 255), su, su, su]) rfl <| il C d42_102 rfl <| iN C d42_104 rfl <| Go.isub C d42_105 <| gq 3 (o_sb (f := f) (a := 5) (b := 2) (by decide)) <| ic C 3 d42_106 rfl <| Go.iand C d42_107 <| gq 3 rfl <| ifeqF C d42_108 (by decide) <| il C d42_111 rfl <| Go.bipush C 8 d42_113 rfl <| Go.ishl C d42_115 <| aN C d42_116 rfl <| iN C d42_117 rfl <| Go.iinc C (oN (f + 3)) d42_118 rfl (nI_succ _) (Ls' := #[vi y2, vr a, vi (oN (f + 3)), vi len, vi (oN (f + 5)), vi (o_ct (o_f1 y0) y1), vi (oN (f + 1)), vi (y2 &&& 255), su, su, su]) rfl <| Go.baload C V (f + 2) (nI_nn (by omega)) (nI_nat (by omega)) hy3 d42_121 <| Go.sipush C 255 d42_122 rfl <| Go.iand C d42_125 <| Go.ior C d42_126 ?_
    refine Go.eqI (x' := (o_ct (y2 &&& 255) y3)) rfl <| Go.istore C d42_127 (Ls' := #[vi y2, vr a, vi (oN (f + 3)), vi len, vi (oN (f + 5)), vi (o_ct (o_f1 y0) y1), vi (oN (f + 1)), vi (o_ct (y2 &&& 255) y3), su, su, su]) rfl <| Go.goto C d42_129 <| il C d42_102 rfl <| iN C d42_104 rfl <| Go.isub C d42_105 <| gq 2 (o_sb (f := f) (a := 5) (b := 3) (by decide)) <| ic C 3 d42_106 rfl <| Go.iand C d42_107 <| gq 2 rfl <| ifeqF C d42_108 (by decide) <| il C d42_111 rfl <| Go.bipush C 8 d42_113 rfl <| Go.ishl C d42_115 <| aN C d42_116 rfl <| iN C d42_117 rfl <| Go.iinc C (oN (f + 4)) d42_118 rfl (nI_succ _) (Ls' := #[vi y2, vr a, vi (oN (f + 4)), vi len, vi (oN (f + 5)), vi (o_ct (o_f1 y0) y1), vi (oN (f + 1)), vi (o_ct (y2 &&& 255) y3), su, su, su]) rfl <| Go.baload C V (f + 3) (nI_nn (by omega)) (nI_nat (by omega)) hy4 d42_121 <| Go.sipush C 255 d42_122 rfl <| Go.iand C d42_125 ?_
    refine Go.ior C d42_126 <| Go.eqI (x' := (o_ct (o_ct (y2 &&& 255) y3) y4)) rfl <| Go.istore C d42_127 (Ls' := #[vi y2, vr a, vi (oN (f + 4)), vi len, vi (oN (f + 5)), vi (o_ct (o_f1 y0) y1), vi (oN (f + 1)), vi (o_ct (o_ct (y2 &&& 255) y3) y4), su, su, su]) rfl <| Go.goto C d42_129 <| il C d42_102 rfl <| iN C d42_104 rfl <| Go.isub C d42_105 <| gq 1 (o_sb (f := f) (a := 5) (b := 4) (by decide)) <| ic C 3 d42_106 rfl <| Go.iand C d42_107 <| gq 1 rfl <| ifeqF C d42_108 (by decide) <| il C d42_111 rfl <| Go.bipush C 8 d42_113 rfl <| Go.ishl C d42_115 <| aN C d42_116 rfl <| iN C d42_117 rfl <| Go.iinc C (oN (f + 5)) d42_118 rfl (nI_succ _) (Ls' := #[vi y2, vr a, vi (oN (f + 5)), vi len, vi (oN (f + 5)), vi (o_ct (o_f1 y0) y1), vi (oN (f + 1)), vi (o_ct (o_ct (y2 &&& 255) y3) y4), su, su, su]) rfl <| Go.baload C V (f + 4) (nI_nn (by omega)) (nI_nat (by omega)) hy5 d42_121 ?_
    refine Go.sipush C 255 d42_122 rfl <| Go.iand C d42_125 <| Go.ior C d42_126 <| Go.eqI (x' := (o_ct (o_ct (o_ct (y2 &&& 255) y3) y4) y5)) rfl <| Go.istore C d42_127 (Ls' := #[vi y2, vr a, vi (oN (f + 5)), vi len, vi (oN (f + 5)), vi (o_ct (o_f1 y0) y1), vi (oN (f + 1)), vi (o_ct (o_ct (o_ct (y2 &&& 255) y3) y4) y5), su, su, su]) rfl <| Go.goto C d42_129 <| il C d42_102 rfl <| iN C d42_104 rfl <| Go.isub C d42_105 <| gq 0 (Int32.sub_self _) <| ic C 3 d42_106 rfl <| Go.iand C d42_107 <| gq 0 rfl <| ifeqT C d42_108 (by decide) ?_
    have hd : -65535 ≤ ((o_ct (o_f1 y0) y1)).toInt ∧ ((o_ct (o_f1 y0) y1)).toInt ≤ -2 := by
      have z0 := o_intn h1
      have z1 := o_f1_int y0
      have z2 := o_ct_int (o_f1 y0) y1
      obtain ⟨u0, v0⟩ := hB
      have r0 := rng32 (o_ct (o_f1 y0) y1)
      omega
    have hv2 : kk = ((o_ct (o_f1 y0) y1)).toInt * 4294967296 + o_u (o_ct (o_ct (o_ct (y2 &&& 255) y3) y4) y5) := by
      have z0 := o_int0 hz1
      have z1 := o_f1_int y0
      have z2 := o_ct_int (o_f1 y0) y1
      have z3 := o_m_int y2
      have z4 := o_ct_int (o_ct (o_ct (y2 &&& 255) y3) y4) y5
      have z5 := o_ct_int (o_ct (y2 &&& 255) y3) y4
      have z6 := o_ct_int (y2 &&& 255) y3
      obtain ⟨u0, v0⟩ := hB
      have r0 := rng32 (o_ct (o_f1 y0) y1)
      have hu : o_u (o_ct (o_ct (o_ct (y2 &&& 255) y3) y4) y5) = y2.toInt % 256 * 16777216 + y3.toInt % 256 * 65536 + y4.toInt % 256 * 256 + y5.toInt % 256 := by unfold o_u; omega
      omega
    exact o_lp_JB hW C (f := f + 1) (y1 := y0) (y2 := y0) (y3 := y0) (y4 := y0) V (by omega) hv2 hd.1 hd.2 hQ
  refine iN C d42_79 rfl <| il C d42_80 rfl <| Go.icmpge C d42_82 (fun hc82 => absurd ((nI_lt (by omega) (by omega)).mpr (by omega)) hc82) (fun hc82 => ?_)
  refine aN C d42_85 rfl <| iN C d42_86 rfl <| Go.iinc C (oN (f + 3)) d42_87 rfl (nI_succ _) (Ls' := #[vi y2, vr a, vi (oN (f + 3)), vi len, vi (oN (f + 5)), vi (o_ct (o_f1 y0) y1), vi (oN (f + 1)), su, su, su, su]) rfl <| Go.baload C V (f + 2) (nI_nn (by omega)) (nI_nat (by omega)) hy3 d42_90 <| Go.istoreN C d42_91 (Ls' := #[vi y3, vr a, vi (oN (f + 3)), vi len, vi (oN (f + 5)), vi (o_ct (o_f1 y0) y1), vi (oN (f + 1)), su, su, su, su]) rfl <| Go.goto C d42_92 <| iN C d42_75 rfl <| Go.ifne C d42_76 (fun hz3 => ?_) (fun hz3 => ?_)
  · refine iN C d42_95 rfl <| Go.sipush C 255 d42_96 rfl <| Go.iand C d42_99 <| Go.istore C d42_100 (Ls' := #[vi y3, vr a, vi (oN (f + 3)), vi len, vi (oN (f + 5)), vi (o_ct (o_f1 y0) y1), vi (oN (f + 1)), vi (y3 &&& 255), su, su, su]) rfl <| il C d42_102 rfl <| iN C d42_104 rfl <| Go.isub C d42_105 <| gq 2 (o_sb (f := f) (a := 5) (b := 3) (by decide)) <| ic C 3 d42_106 rfl <| Go.iand C d42_107 <| gq 2 rfl <| ifeqF C d42_108 (by decide) <| il C d42_111 rfl <| Go.bipush C 8 d42_113 rfl <| Go.ishl C d42_115 <| aN C d42_116 rfl <| iN C d42_117 rfl <| Go.iinc C (oN (f + 4)) d42_118 rfl (nI_succ _) (Ls' := #[vi y3, vr a, vi (oN (f + 4)), vi len, vi (oN (f + 5)), vi (o_ct (o_f1 y0) y1), vi (oN (f + 1)), vi (y3 &&& 255), su, su, su]) rfl <| Go.baload C V (f + 3) (nI_nn (by omega)) (nI_nat (by omega)) hy4 d42_121 <| Go.sipush C 255 d42_122 rfl <| Go.iand C d42_125 <| Go.ior C d42_126 ?_
    refine Go.eqI (x' := (o_ct (y3 &&& 255) y4)) rfl <| Go.istore C d42_127 (Ls' := #[vi y3, vr a, vi (oN (f + 4)), vi len, vi (oN (f + 5)), vi (o_ct (o_f1 y0) y1), vi (oN (f + 1)), vi (o_ct (y3 &&& 255) y4), su, su, su]) rfl <| Go.goto C d42_129 <| il C d42_102 rfl <| iN C d42_104 rfl <| Go.isub C d42_105 <| gq 1 (o_sb (f := f) (a := 5) (b := 4) (by decide)) <| ic C 3 d42_106 rfl <| Go.iand C d42_107 <| gq 1 rfl <| ifeqF C d42_108 (by decide) <| il C d42_111 rfl <| Go.bipush C 8 d42_113 rfl <| Go.ishl C d42_115 <| aN C d42_116 rfl <| iN C d42_117 rfl <| Go.iinc C (oN (f + 5)) d42_118 rfl (nI_succ _) (Ls' := #[vi y3, vr a, vi (oN (f + 5)), vi len, vi (oN (f + 5)), vi (o_ct (o_f1 y0) y1), vi (oN (f + 1)), vi (o_ct (y3 &&& 255) y4), su, su, su]) rfl <| Go.baload C V (f + 4) (nI_nn (by omega)) (nI_nat (by omega)) hy5 d42_121 <| Go.sipush C 255 d42_122 rfl <| Go.iand C d42_125 ?_
    refine Go.ior C d42_126 <| Go.eqI (x' := (o_ct (o_ct (y3 &&& 255) y4) y5)) rfl <| Go.istore C d42_127 (Ls' := #[vi y3, vr a, vi (oN (f + 5)), vi len, vi (oN (f + 5)), vi (o_ct (o_f1 y0) y1), vi (oN (f + 1)), vi (o_ct (o_ct (y3 &&& 255) y4) y5), su, su, su]) rfl <| Go.goto C d42_129 <| il C d42_102 rfl <| iN C d42_104 rfl <| Go.isub C d42_105 <| gq 0 (Int32.sub_self _) <| ic C 3 d42_106 rfl <| Go.iand C d42_107 <| gq 0 rfl <| ifeqT C d42_108 (by decide) ?_
    have hd : -65535 ≤ ((o_ct (o_f1 y0) y1)).toInt ∧ ((o_ct (o_f1 y0) y1)).toInt ≤ -2 := by
      have z0 := o_intn h1
      have z1 := o_f1_int y0
      have z2 := o_ct_int (o_f1 y0) y1
      obtain ⟨u0, v0⟩ := hB
      have r0 := rng32 (o_ct (o_f1 y0) y1)
      omega
    have hv2 : kk = ((o_ct (o_f1 y0) y1)).toInt * 4294967296 + o_u (o_ct (o_ct (y3 &&& 255) y4) y5) := by
      have z0 := o_int0 hz1
      have z1 := o_int0 hz2
      have z2 := o_f1_int y0
      have z3 := o_ct_int (o_f1 y0) y1
      have z4 := o_m_int y3
      have z5 := o_ct_int (o_ct (y3 &&& 255) y4) y5
      have z6 := o_ct_int (y3 &&& 255) y4
      obtain ⟨u0, v0⟩ := hB
      have r0 := rng32 (o_ct (o_f1 y0) y1)
      have hu : o_u (o_ct (o_ct (y3 &&& 255) y4) y5) = y2.toInt % 256 * 16777216 + y3.toInt % 256 * 65536 + y4.toInt % 256 * 256 + y5.toInt % 256 := by unfold o_u; omega
      omega
    exact o_lp_JB hW C (f := f + 1) (y1 := y0) (y2 := y0) (y3 := y0) (y4 := y0) V (by omega) hv2 hd.1 hd.2 hQ
  refine iN C d42_79 rfl <| il C d42_80 rfl <| Go.icmpge C d42_82 (fun hc82 => absurd ((nI_lt (by omega) (by omega)).mpr (by omega)) hc82) (fun hc82 => ?_)
  refine aN C d42_85 rfl <| iN C d42_86 rfl <| Go.iinc C (oN (f + 4)) d42_87 rfl (nI_succ _) (Ls' := #[vi y3, vr a, vi (oN (f + 4)), vi len, vi (oN (f + 5)), vi (o_ct (o_f1 y0) y1), vi (oN (f + 1)), su, su, su, su]) rfl <| Go.baload C V (f + 3) (nI_nn (by omega)) (nI_nat (by omega)) hy4 d42_90 <| Go.istoreN C d42_91 (Ls' := #[vi y4, vr a, vi (oN (f + 4)), vi len, vi (oN (f + 5)), vi (o_ct (o_f1 y0) y1), vi (oN (f + 1)), su, su, su, su]) rfl <| Go.goto C d42_92 <| iN C d42_75 rfl <| Go.ifne C d42_76 (fun hz4 => ?_) (fun hz4 => ?_)
  · refine iN C d42_95 rfl <| Go.sipush C 255 d42_96 rfl <| Go.iand C d42_99 <| Go.istore C d42_100 (Ls' := #[vi y4, vr a, vi (oN (f + 4)), vi len, vi (oN (f + 5)), vi (o_ct (o_f1 y0) y1), vi (oN (f + 1)), vi (y4 &&& 255), su, su, su]) rfl <| il C d42_102 rfl <| iN C d42_104 rfl <| Go.isub C d42_105 <| gq 1 (o_sb (f := f) (a := 5) (b := 4) (by decide)) <| ic C 3 d42_106 rfl <| Go.iand C d42_107 <| gq 1 rfl <| ifeqF C d42_108 (by decide) <| il C d42_111 rfl <| Go.bipush C 8 d42_113 rfl <| Go.ishl C d42_115 <| aN C d42_116 rfl <| iN C d42_117 rfl <| Go.iinc C (oN (f + 5)) d42_118 rfl (nI_succ _) (Ls' := #[vi y4, vr a, vi (oN (f + 5)), vi len, vi (oN (f + 5)), vi (o_ct (o_f1 y0) y1), vi (oN (f + 1)), vi (y4 &&& 255), su, su, su]) rfl <| Go.baload C V (f + 4) (nI_nn (by omega)) (nI_nat (by omega)) hy5 d42_121 <| Go.sipush C 255 d42_122 rfl <| Go.iand C d42_125 <| Go.ior C d42_126 ?_
    refine Go.eqI (x' := (o_ct (y4 &&& 255) y5)) rfl <| Go.istore C d42_127 (Ls' := #[vi y4, vr a, vi (oN (f + 5)), vi len, vi (oN (f + 5)), vi (o_ct (o_f1 y0) y1), vi (oN (f + 1)), vi (o_ct (y4 &&& 255) y5), su, su, su]) rfl <| Go.goto C d42_129 <| il C d42_102 rfl <| iN C d42_104 rfl <| Go.isub C d42_105 <| gq 0 (Int32.sub_self _) <| ic C 3 d42_106 rfl <| Go.iand C d42_107 <| gq 0 rfl <| ifeqT C d42_108 (by decide) ?_
    have hd : -65535 ≤ ((o_ct (o_f1 y0) y1)).toInt ∧ ((o_ct (o_f1 y0) y1)).toInt ≤ -2 := by
      have z0 := o_intn h1
      have z1 := o_f1_int y0
      have z2 := o_ct_int (o_f1 y0) y1
      obtain ⟨u0, v0⟩ := hB
      have r0 := rng32 (o_ct (o_f1 y0) y1)
      omega
    have hv2 : kk = ((o_ct (o_f1 y0) y1)).toInt * 4294967296 + o_u (o_ct (y4 &&& 255) y5) := by
      have z0 := o_int0 hz1
      have z1 := o_int0 hz2
      have z2 := o_int0 hz3
      have z3 := o_f1_int y0
      have z4 := o_ct_int (o_f1 y0) y1
      have z5 := o_m_int y4
      have z6 := o_ct_int (y4 &&& 255) y5
      obtain ⟨u0, v0⟩ := hB
      have r0 := rng32 (o_ct (o_f1 y0) y1)
      have hu : o_u (o_ct (y4 &&& 255) y5) = y2.toInt % 256 * 16777216 + y3.toInt % 256 * 65536 + y4.toInt % 256 * 256 + y5.toInt % 256 := by unfold o_u; omega
      omega
    exact o_lp_JB hW C (f := f + 1) (y1 := y0) (y2 := y0) (y3 := y0) (y4 := y0) V (by omega) hv2 hd.1 hd.2 hQ
  refine iN C d42_79 rfl <| il C d42_80 rfl <| Go.icmpge C d42_82 (fun hc82 => absurd ((nI_lt (by omega) (by omega)).mpr (by omega)) hc82) (fun hc82 => ?_)
  refine aN C d42_85 rfl <| iN C d42_86 rfl <| Go.iinc C (oN (f + 5)) d42_87 rfl (nI_succ _) (Ls' := #[vi y4, vr a, vi (oN (f + 5)), vi len, vi (oN (f + 5)), vi (o_ct (o_f1 y0) y1), vi (oN (f + 1)), su, su, su, su]) rfl <| Go.baload C V (f + 4) (nI_nn (by omega)) (nI_nat (by omega)) hy5 d42_90 <| Go.istoreN C d42_91 (Ls' := #[vi y5, vr a, vi (oN (f + 5)), vi len, vi (oN (f + 5)), vi (o_ct (o_f1 y0) y1), vi (oN (f + 1)), su, su, su, su]) rfl <| Go.goto C d42_92 <| iN C d42_75 rfl ?_
  suffices J76 : Go k h [] 0 0 95 #[vi y5, vr a, vi (oN (f + 5)), vi len, vi (oN (f + 5)), vi (o_ct (o_f1 y0) y1), vi (oN (f + 1)), su, su, su, su] [] by
    refine Go.ifne C d42_76 (fun _ => J76) (fun _ => ?_)
    refine iN C d42_79 rfl <| il C d42_80 rfl <| Go.icmpge C d42_82 (fun hc82 => ?_) (fun hc82 => absurd hc82 Int32.lt_irrefl)
    exact J76
  refine iN C d42_95 rfl <| Go.sipush C 255 d42_96 rfl <| Go.iand C d42_99 <| Go.istore C d42_100 (Ls' := #[vi y5, vr a, vi (oN (f + 5)), vi len, vi (oN (f + 5)), vi (o_ct (o_f1 y0) y1), vi (oN (f + 1)), vi (y5 &&& 255), su, su, su]) rfl <| il C d42_102 rfl <| iN C d42_104 rfl <| Go.isub C d42_105 <| gq 0 (Int32.sub_self _) <| ic C 3 d42_106 rfl <| Go.iand C d42_107 <| gq 0 rfl <| ifeqT C d42_108 (by decide) ?_
  have hd : -65535 ≤ ((o_ct (o_f1 y0) y1)).toInt ∧ ((o_ct (o_f1 y0) y1)).toInt ≤ -2 := by
    have z0 := o_intn h1
    have z1 := o_f1_int y0
    have z2 := o_ct_int (o_f1 y0) y1
    obtain ⟨u0, v0⟩ := hB
    have r0 := rng32 (o_ct (o_f1 y0) y1)
    omega
  have hv2 : kk = ((o_ct (o_f1 y0) y1)).toInt * 4294967296 + o_u (y5 &&& 255) := by
    have z0 := o_int0 hz1
    have z1 := o_int0 hz2
    have z2 := o_int0 hz3
    have z3 := o_int0 hz4
    have z4 := o_f1_int y0
    have z5 := o_ct_int (o_f1 y0) y1
    have z6 := o_m_int y5
    obtain ⟨u0, v0⟩ := hB
    have r0 := rng32 (o_ct (o_f1 y0) y1)
    have hu : o_u (y5 &&& 255) = y2.toInt % 256 * 16777216 + y3.toInt % 256 * 65536 + y4.toInt % 256 * 256 + y5.toInt % 256 := by unfold o_u; omega
    omega
  exact o_lp_JB hW C (f := f + 1) (y1 := y0) (y2 := y0) (y3 := y0) (y4 := y0) V (by omega) hv2 hd.1 hd.2 hQ
theorem rmS1 (hW : W0 Z a0) (h : Heap) (a zz zm : Addr) (x0 : Int32) (V : Av Z h a .byte [.int x0]) (hSZ : o_SZ Z zz zm) (h0 : ¬ x0 < 0) (hB0 : o_B x0) :
    Con l Z o_EL true y_21 c28 8 (some (.array .int)) ⟨0, 1, 2, 0⟩ [] #[.int x0, .ref a, .int 0, .int 1] h [] (fun v h' os' => ∃ m : Addr, ∃ M : List Int32, v = some (.ref m) ∧ os' = [] ∧ o_mg M (o_be x0 []) ∧ (m < Z.heap.size ∨ h.size ≤ m) ∧ Av Z h' m .int (List.map Value.int M)) := by
  refine Con.intro (Ls := #[vi x0, vr a, vi 0, vi 1, su, su, su, su]) (by decide +kernel) (o_ew hW) (fun _ => en (by simp [argsToLocals, Value.category])) ?_
  intro k C
  refine iN C d28_0 rfl <| ifneT C d28_1 (by decide) <| iN C d28_11 rfl <| iN C d28_12 rfl <| Go.iadd C d28_13 <| gq 1 rfl <| Go.istore C d28_14 (Ls' := #[vi x0, vr a, vi 0, vi 1, vi 1, su, su, su]) rfl <| iN C d28_16 rfl <| Go.bipush C (-128) d28_17 (by decide) <| Go.icmpge C d28_19 (fun hc19 => ?_) (fun hc19 => absurd hc19 (o_Bge hB0))
  refine Go.iinc C 1 d28_26 rfl rfl (Ls' := #[vi x0, vr a, vi 1, vi 1, vi 1, su, su, su]) rfl <| iN C d28_29 rfl <| Go.ifne C d28_30 (fun hz0 => ?_) (fun hz0 => ?_)
  · refine iN C d28_49 rfl <| Go.ifne C d28_50 (fun hc50 => ?_) (fun hc50 => absurd hc50 hz0)
    have hv : (o_be x0 []) = x0.toInt % 256 := by
      have z0 := o_ge0 h0
      obtain ⟨u0, v0⟩ := hB0
      show x0.toInt = x0.toInt % 256
      omega
    exact o_lp_S0 hW C (f := 1) V (by decide) hB0 hz0 hv (fun m M h' q1 q2 q3 => ⟨m, M, rfl, rfl, q1, Or.inr q2, q3⟩)
  refine iN C d28_33 rfl <| il C d28_34 rfl <| icmpgeT C d28_36 (by decide) <| iN C d28_49 rfl <| Go.ifne C d28_50 (fun hc50 => absurd hz0 hc50) (fun hc50 => ?_)
  obtain ⟨Sz, Oz, Vz⟩ := id hSZ
  have lz := Vz.lt
  refine Go.old C (fun X0 => ?_)
  replace Oz := Oz.k0 (Keep.ofExt X0)
  replace Vz := Vz.k0 (Keep.ofExt X0)
  refine Go.getS C Sz (host := "") (Or.inl (w_258 hW)) Via.refl d28_53 <| gF C Oz 0 rfl rfl (w_160 hW) d28_56 <| Go.areturn C d28_59 (nb rfl) (nb rfl) rfl rfl [] nx ?_
  have hmg : o_mg [] (o_be x0 []) := by
    have z0 := o_int0 hz0
    exact Or.inl ⟨rfl, show x0.toInt = 0 from by omega⟩
  exact ⟨_, [], rfl, rfl, hmg, Or.inl lz, Vz⟩
theorem rmM1 (hW : W0 Z a0) (h : Heap) (a : Addr) (x0 : Int32) (V : Av Z h a .byte [.int x0]) (h0 : x0 < 0) (hB0 : o_B x0) :
    Con l Z o_EL true y_22 c42 11 (some (.array .int)) ⟨0, 1, 2, 0⟩ [] #[.int x0, .ref a, .int 0, .int 1] h [] (fun v h' os' => ∃ m : Addr, ∃ M : List Int32, v = some (.ref m) ∧ os' = [] ∧ o_mg M (-(o_be x0 [])) ∧ (m < Z.heap.size ∨ h.size ≤ m) ∧ Av Z h' m .int (List.map Value.int M)) := by
  refine Con.intro (Ls := #[vi x0, vr a, vi 0, vi 1, su, su, su, su, su, su, su]) (by decide +kernel) (o_ew hW) (fun _ => en (by simp [argsToLocals, Value.category])) ?_
  intro k C
  refine iN C d42_0 rfl <| iN C d42_1 rfl <| Go.iadd C d42_2 <| gq 1 rfl <| Go.istore C d42_3 (Ls' := #[vi x0, vr a, vi 0, vi 1, vi 1, su, su, su, su, su, su]) rfl <| Go.iinc C 1 d42_5 rfl rfl (Ls' := #[vi x0, vr a, vi 1, vi 1, vi 1, su, su, su, su, su, su]) rfl <| iN C d42_8 rfl <| ic C (-1) d42_9 (by decide) <| Go.icmpne C d42_10 (fun hm0 => ?_) (fun hm0 => ?_)
  · have hv : (o_be x0 []) = (x0.toInt % 256 - 256) := by
      have z0 := o_lt0 h0
      obtain ⟨u0, v0⟩ := hB0
      show x0.toInt = (x0.toInt % 256 - 256)
      omega
    exact o_lp_M0 hW C (f := 1) V (by decide) hv (fun m M h' q1 q2 q3 => ⟨m, M, rfl, rfl, q1, Or.inr q2, q3⟩)
  refine iN C d42_13 rfl <| il C d42_14 rfl <| icmpgeT C d42_16 (by decide) ?_
  have hv : (o_be x0 []) = (x0.toInt % 256 - 256) := by
    have z0 := o_lt0 h0
    have z1 := o_intm hm0
    obtain ⟨u0, v0⟩ := hB0
    show x0.toInt = (x0.toInt % 256 - 256)
    omega
  exact o_lp_M0 hW C (f := 1) V (by decide) hv (fun m M h' q1 q2 q3 => ⟨m, M, rfl, rfl, q1, Or.inr q2, q3⟩)
theorem rmS2 (hW : W0 Z a0) (h : Heap) (a zz zm : Addr) (x0 x1 : Int32) (V : Av Z h a .byte [.int x0, .int x1]) (hSZ : o_SZ Z zz zm) (h0 : ¬ x0 < 0) (hB0 : o_B x0) (hB1 : o_B x1) :
    Con l Z o_EL true y_21 c28 8 (some (.array .int)) ⟨0, 1, 2, 0⟩ [] #[.int x0, .ref a, .int 0, .int 2] h [] (fun v h' os' => ∃ m : Addr, ∃ M : List Int32, v = some (.ref m) ∧ os' = [] ∧ o_mg M (o_be x0 [x1]) ∧ (m < Z.heap.size ∨ h.size ≤ m) ∧ Av Z h' m .int (List.map Value.int M)) := by
  refine Con.intro (Ls := #[vi x0, vr a, vi 0, vi 2, su, su, su, su]) (by decide +kernel) (o_ew hW) (fun _ => en (by simp [argsToLocals, Value.category])) ?_
  intro k C
  refine iN C d28_0 rfl <| ifneT C d28_1 (by decide) <| iN C d28_11 rfl <| iN C d28_12 rfl <| Go.iadd C d28_13 <| gq 2 rfl <| Go.istore C d28_14 (Ls' := #[vi x0, vr a, vi 0, vi 2, vi 2, su, su, su]) rfl <| iN C d28_16 rfl <| Go.bipush C (-128) d28_17 (by decide) <| Go.icmpge C d28_19 (fun hc19 => ?_) (fun hc19 => absurd hc19 (o_Bge hB0))
  refine Go.iinc C 1 d28_26 rfl rfl (Ls' := #[vi x0, vr a, vi 1, vi 2, vi 2, su, su, su]) rfl <| iN C d28_29 rfl <| Go.ifne C d28_30 (fun hz0 => ?_) (fun hz0 => ?_)
  · refine iN C d28_49 rfl <| Go.ifne C d28_50 (fun hc50 => ?_) (fun hc50 => absurd hc50 hz0)
    have hv : (o_be x0 [x1]) = (x0.toInt % 256 * 256 + x1.toInt % 256) := by
      have z0 := o_ge0 h0
      obtain ⟨u0, v0⟩ := hB0; obtain ⟨u1, v1⟩ := hB1
      show (x0.toInt * 256 + x1.toInt % 256) = (x0.toInt % 256 * 256 + x1.toInt % 256)
      omega
    exact o_lp_S1 hW C (f := 1) V (by decide) rfl hB0 hz0 hv (fun m M h' q1 q2 q3 => ⟨m, M, rfl, rfl, q1, Or.inr q2, q3⟩)
  refine iN C d28_33 rfl <| il C d28_34 rfl <| icmpgeF C d28_36 (by decide) <| aN C d28_39 rfl <| iN C d28_40 rfl <| Go.iinc C 2 d28_41 rfl rfl (Ls' := #[vi x0, vr a, vi 2, vi 2, vi 2, su, su, su]) rfl <| Go.baload C V 1 (by decide) rfl rfl d28_44 <| Go.istoreN C d28_45 (Ls' := #[vi x1, vr a, vi 2, vi 2, vi 2, su, su, su]) rfl <| Go.goto C d28_46 <| iN C d28_29 rfl <| Go.ifne C d28_30 (fun hz1 => ?_) (fun hz1 => ?_)
  · refine iN C d28_49 rfl <| Go.ifne C d28_50 (fun hc50 => ?_) (fun hc50 => absurd hc50 hz1)
    have hv : (o_be x0 [x1]) = x1.toInt % 256 := by
      have z0 := o_ge0 h0
      have z1 := o_int0 hz0
      obtain ⟨u0, v0⟩ := hB0; obtain ⟨u1, v1⟩ := hB1
      show (x0.toInt * 256 + x1.toInt % 256) = x1.toInt % 256
      omega
    exact o_lp_S0 hW C (f := 2) V (by decide) hB1 hz1 hv (fun m M h' q1 q2 q3 => ⟨m, M, rfl, rfl, q1, Or.inr q2, q3⟩)
  refine iN C d28_33 rfl <| il C d28_34 rfl <| icmpgeT C d28_36 (by decide) <| iN C d28_49 rfl <| Go.ifne C d28_50 (fun hc50 => absurd hz1 hc50) (fun hc50 => ?_)
  obtain ⟨Sz, Oz, Vz⟩ := id hSZ
  have lz := Vz.lt
  refine Go.old C (fun X0 => ?_)
  replace Oz := Oz.k0 (Keep.ofExt X0)
  replace Vz := Vz.k0 (Keep.ofExt X0)
  refine Go.getS C Sz (host := "") (Or.inl (w_258 hW)) Via.refl d28_53 <| gF C Oz 0 rfl rfl (w_160 hW) d28_56 <| Go.areturn C d28_59 (nb rfl) (nb rfl) rfl rfl [] nx ?_
  have hmg : o_mg [] (o_be x0 [x1]) := by
    have z0 := o_int0 hz0
    have z1 := o_int0 hz1
    exact Or.inl ⟨rfl, show (x0.toInt * 256 + x1.toInt % 256) = 0 from by omega⟩
  exact ⟨_, [], rfl, rfl, hmg, Or.inl lz, Vz⟩
theorem rmM2 (hW : W0 Z a0) (h : Heap) (a : Addr) (x0 x1 : Int32) (V : Av Z h a .byte [.int x0, .int x1]) (h0 : x0 < 0) (hB0 : o_B x0) (hB1 : o_B x1) :
    Con l Z o_EL true y_22 c42 11 (some (.array .int)) ⟨0, 1, 2, 0⟩ [] #[.int x0, .ref a, .int 0, .int 2] h [] (fun v h' os' => ∃ m : Addr, ∃ M : List Int32, v = some (.ref m) ∧ os' = [] ∧ o_mg M (-(o_be x0 [x1])) ∧ (m < Z.heap.size ∨ h.size ≤ m) ∧ Av Z h' m .int (List.map Value.int M)) := by
  refine Con.intro (Ls := #[vi x0, vr a, vi 0, vi 2, su, su, su, su, su, su, su]) (by decide +kernel) (o_ew hW) (fun _ => en (by simp [argsToLocals, Value.category])) ?_
  intro k C
  refine iN C d42_0 rfl <| iN C d42_1 rfl <| Go.iadd C d42_2 <| gq 2 rfl <| Go.istore C d42_3 (Ls' := #[vi x0, vr a, vi 0, vi 2, vi 2, su, su, su, su, su, su]) rfl <| Go.iinc C 1 d42_5 rfl rfl (Ls' := #[vi x0, vr a, vi 1, vi 2, vi 2, su, su, su, su, su, su]) rfl <| iN C d42_8 rfl <| ic C (-1) d42_9 (by decide) <| Go.icmpne C d42_10 (fun hm0 => ?_) (fun hm0 => ?_)
  · have hv : (o_be x0 [x1]) = ((x0.toInt % 256 - 256) * 256 + x1.toInt % 256) := by
      have z0 := o_lt0 h0
      obtain ⟨u0, v0⟩ := hB0; obtain ⟨u1, v1⟩ := hB1
      show (x0.toInt * 256 + x1.toInt % 256) = ((x0.toInt % 256 - 256) * 256 + x1.toInt % 256)
      omega
    exact o_lp_M1 hW C (f := 1) V (by decide) rfl hv (fun m M h' q1 q2 q3 => ⟨m, M, rfl, rfl, q1, Or.inr q2, q3⟩)
  refine iN C d42_13 rfl <| il C d42_14 rfl <| icmpgeF C d42_16 (by decide) <| aN C d42_19 rfl <| iN C d42_20 rfl <| Go.iinc C 2 d42_21 rfl rfl (Ls' := #[vi x0, vr a, vi 2, vi 2, vi 2, su, su, su, su, su, su]) rfl <| Go.baload C V 1 (by decide) rfl rfl d42_24 <| Go.istoreN C d42_25 (Ls' := #[vi x1, vr a, vi 2, vi 2, vi 2, su, su, su, su, su, su]) rfl <| Go.goto C d42_26 <| iN C d42_8 rfl <| ic C (-1) d42_9 (by decide) <| Go.icmpne C d42_10 (fun hm1 => ?_) (fun hm1 => ?_)
  · have hv : (o_be x0 [x1]) = (x1.toInt % 256 - 256) := by
      have z0 := o_lt0 h0
      have z1 := o_intm hm0
      obtain ⟨u0, v0⟩ := hB0; obtain ⟨u1, v1⟩ := hB1
      show (x0.toInt * 256 + x1.toInt % 256) = (x1.toInt % 256 - 256)
      omega
    exact o_lp_M0 hW C (f := 2) V (by decide) hv (fun m M h' q1 q2 q3 => ⟨m, M, rfl, rfl, q1, Or.inr q2, q3⟩)
  refine iN C d42_13 rfl <| il C d42_14 rfl <| icmpgeT C d42_16 (by decide) ?_
  have hv : (o_be x0 [x1]) = (x1.toInt % 256 - 256) := by
    have z0 := o_lt0 h0
    have z1 := o_intm hm0
    have z2 := o_intm hm1
    obtain ⟨u0, v0⟩ := hB0; obtain ⟨u1, v1⟩ := hB1
    show (x0.toInt * 256 + x1.toInt % 256) = (x1.toInt % 256 - 256)
    omega
  exact o_lp_M0 hW C (f := 2) V (by decide) hv (fun m M h' q1 q2 q3 => ⟨m, M, rfl, rfl, q1, Or.inr q2, q3⟩)
theorem rmS3 (hW : W0 Z a0) (h : Heap) (a zz zm : Addr) (x0 x1 x2 : Int32) (V : Av Z h a .byte [.int x0, .int x1, .int x2]) (hSZ : o_SZ Z zz zm) (h0 : ¬ x0 < 0) (hB0 : o_B x0) (hB1 : o_B x1) (hB2 : o_B x2) :
    Con l Z o_EL true y_21 c28 8 (some (.array .int)) ⟨0, 1, 2, 0⟩ [] #[.int x0, .ref a, .int 0, .int 3] h [] (fun v h' os' => ∃ m : Addr, ∃ M : List Int32, v = some (.ref m) ∧ os' = [] ∧ o_mg M (o_be x0 [x1, x2]) ∧ (m < Z.heap.size ∨ h.size ≤ m) ∧ Av Z h' m .int (List.map Value.int M)) := by
  refine Con.intro (Ls := #[vi x0, vr a, vi 0, vi 3, su, su, su, su]) (by decide +kernel) (o_ew hW) (fun _ => en (by simp [argsToLocals, Value.category])) ?_
  intro k C
  refine iN C d28_0 rfl <| ifneT C d28_1 (by decide) <| iN C d28_11 rfl <| iN C d28_12 rfl <| Go.iadd C d28_13 <| gq 3 rfl <| Go.istore C d28_14 (Ls' := #[vi x0, vr a, vi 0, vi 3, vi 3, su, su, su]) rfl <| iN C d28_16 rfl <| Go.bipush C (-128) d28_17 (by decide) <| Go.icmpge C d28_19 (fun hc19 => ?_) (fun hc19 => absurd hc19 (o_Bge hB0))
  refine Go.iinc C 1 d28_26 rfl rfl (Ls' := #[vi x0, vr a, vi 1, vi 3, vi 3, su, su, su]) rfl <| iN C d28_29 rfl <| Go.ifne C d28_30 (fun hz0 => ?_) (fun hz0 => ?_)
  · refine iN C d28_49 rfl <| Go.ifne C d28_50 (fun hc50 => ?_) (fun hc50 => absurd hc50 hz0)
    have hv : (o_be x0 [x1, x2]) = ((x0.toInt % 256 * 256 + x1.toInt % 256) * 256 + x2.toInt % 256) := by
      have z0 := o_ge0 h0
      obtain ⟨u0, v0⟩ := hB0; obtain ⟨u1, v1⟩ := hB1; obtain ⟨u2, v2⟩ := hB2
      show ((x0.toInt * 256 + x1.toInt % 256) * 256 + x2.toInt % 256) = ((x0.toInt % 256 * 256 + x1.toInt % 256) * 256 + x2.toInt % 256)
      omega
    exact o_lp_S2 hW C (f := 1) V (by decide) rfl rfl hB0 hz0 hv (fun m M h' q1 q2 q3 => ⟨m, M, rfl, rfl, q1, Or.inr q2, q3⟩)
  refine iN C d28_33 rfl <| il C d28_34 rfl <| icmpgeF C d28_36 (by decide) <| aN C d28_39 rfl <| iN C d28_40 rfl <| Go.iinc C 2 d28_41 rfl rfl (Ls' := #[vi x0, vr a, vi 2, vi 3, vi 3, su, su, su]) rfl <| Go.baload C V 1 (by decide) rfl rfl d28_44 <| Go.istoreN C d28_45 (Ls' := #[vi x1, vr a, vi 2, vi 3, vi 3, su, su, su]) rfl <| Go.goto C d28_46 <| iN C d28_29 rfl <| Go.ifne C d28_30 (fun hz1 => ?_) (fun hz1 => ?_)
  · refine iN C d28_49 rfl <| Go.ifne C d28_50 (fun hc50 => ?_) (fun hc50 => absurd hc50 hz1)
    have hv : (o_be x0 [x1, x2]) = (x1.toInt % 256 * 256 + x2.toInt % 256) := by
      have z0 := o_ge0 h0
      have z1 := o_int0 hz0
      obtain ⟨u0, v0⟩ := hB0; obtain ⟨u1, v1⟩ := hB1; obtain ⟨u2, v2⟩ := hB2
      show ((x0.toInt * 256 + x1.toInt % 256) * 256 + x2.toInt % 256) = (x1.toInt % 256 * 256 + x2.toInt % 256)
      omega
    exact o_lp_S1 hW C (f := 2) V (by decide) rfl hB1 hz1 hv (fun m M h' q1 q2 q3 => ⟨m, M, rfl, rfl, q1, Or.inr q2, q3⟩)
  refine iN C d28_33 rfl <| il C d28_34 rfl <| icmpgeF C d28_36 (by decide) <| aN C d28_39 rfl <| iN C d28_40 rfl <| Go.iinc C 3 d28_41 rfl rfl (Ls' := #[vi x1, vr a, vi 3, vi 3, vi 3, su, su, su]) rfl <| Go.baload C V 2 (by decide) rfl rfl d28_44 <| Go.istoreN C d28_45 (Ls' := #[vi x2, vr a, vi 3, vi 3, vi 3, su, su, su]) rfl <| Go.goto C d28_46 <| iN C d28_29 rfl <| Go.ifne C d28_30 (fun hz2 => ?_) (fun hz2 => ?_)
  · refine iN C d28_49 rfl <| Go.ifne C d28_50 (fun hc50 => ?_) (fun hc50 => absurd hc50 hz2)
    have hv : (o_be x0 [x1, x2]) = x2.toInt % 256 := by
      have z0 := o_ge0 h0
      have z1 := o_int0 hz0
      have z2 := o_int0 hz1
      obtain ⟨u0, v0⟩ := hB0; obtain ⟨u1, v1⟩ := hB1; obtain ⟨u2, v2⟩ := hB2
      show ((x0.toInt * 256 + x1.toInt % 256) * 256 + x2.toInt % 256) = x2.toInt % 256
      omega
    exact o_lp_S0 hW C (f := 3) V (by decide) hB2 hz2 hv (fun m M h' q1 q2 q3 => ⟨m, M, rfl, rfl, q1, Or.inr q2, q3⟩)
  refine iN C d28_33 rfl <| il C d28_34 rfl <| icmpgeT C d28_36 (by decide) <| iN C d28_49 rfl <| Go.ifne C d28_50 (fun hc50 => absurd hz2 hc50) (fun hc50 => ?_)
  obtain ⟨Sz, Oz, Vz⟩ := id hSZ
  have lz := Vz.lt
  refine Go.old C (fun X0 => ?_)
  replace Oz := Oz.k0 (Keep.ofExt X0)
  replace Vz := Vz.k0 (Keep.ofExt X0)
  refine Go.getS C Sz (host := "") (Or.inl (w_258 hW)) Via.refl d28_53 <| gF C Oz 0 rfl rfl (w_160 hW) d28_56 <| Go.areturn C d28_59 (nb rfl) (nb rfl) rfl rfl [] nx ?_
  have hmg : o_mg [] (o_be x0 [x1, x2]) := by
    have z0 := o_int0 hz0
    have z1 := o_int0 hz1
    have z2 := o_int0 hz2
    exact Or.inl ⟨rfl, show ((x0.toInt * 256 + x1.toInt % 256) * 256 + x2.toInt % 256) = 0 from by omega⟩
  exact ⟨_, [], rfl, rfl, hmg, Or.inl lz, Vz⟩
theorem rmM3 (hW : W0 Z a0) (h : Heap) (a : Addr) (x0 x1 x2 : Int32) (V : Av Z h a .byte [.int x0, .int x1, .int x2]) (h0 : x0 < 0) (hB0 : o_B x0) (hB1 : o_B x1) (hB2 : o_B x2) :
    Con l Z o_EL true y_22 c42 11 (some (.array .int)) ⟨0, 1, 2, 0⟩ [] #[.int x0, .ref a, .int 0, .int 3] h [] (fun v h' os' => ∃ m : Addr, ∃ M : List Int32, v = some (.ref m) ∧ os' = [] ∧ o_mg M (-(o_be x0 [x1, x2])) ∧ (m < Z.heap.size ∨ h.size ≤ m) ∧ Av Z h' m .int (List.map Value.int M)) := by
  refine Con.intro (Ls := #[vi x0, vr a, vi 0, vi 3, su, su, su, su, su, su, su]) (by decide +kernel) (o_ew hW) (fun _ => en (by simp [argsToLocals, Value.category])) ?_
  intro k C
  refine iN C d42_0 rfl <| iN C d42_1 rfl <| Go.iadd C d42_2 <| gq 3 rfl <| Go.istore C d42_3 (Ls' := #[vi x0, vr a, vi 0, vi 3, vi 3, su, su, su, su, su, su]) rfl <| Go.iinc C 1 d42_5 rfl rfl (Ls' := #[vi x0, vr a, vi 1, vi 3, vi 3, su, su, su, su, su, su]) rfl <| iN C d42_8 rfl <| ic C (-1) d42_9 (by decide) <| Go.icmpne C d42_10 (fun hm0 => ?_) (fun hm0 => ?_)
  · have hv : (o_be x0 [x1, x2]) = (((x0.toInt % 256 - 256) * 256 + x1.toInt % 256) * 256 + x2.toInt % 256) := by
      have z0 := o_lt0 h0
      obtain ⟨u0, v0⟩ := hB0; obtain ⟨u1, v1⟩ := hB1; obtain ⟨u2, v2⟩ := hB2
      show ((x0.toInt * 256 + x1.toInt % 256) * 256 + x2.toInt % 256) = (((x0.toInt % 256 - 256) * 256 + x1.toInt % 256) * 256 + x2.toInt % 256)
      omega
    exact o_lp_M2 hW C (f := 1) V (by decide) rfl rfl hv (fun m M h' q1 q2 q3 => ⟨m, M, rfl, rfl, q1, Or.inr q2, q3⟩)
  refine iN C d42_13 rfl <| il C d42_14 rfl <| icmpgeF C d42_16 (by decide) <| aN C d42_19 rfl <| iN C d42_20 rfl <| Go.iinc C 2 d42_21 rfl rfl (Ls' := #[vi x0, vr a, vi 2, vi 3, vi 3, su, su, su, su, su, su]) rfl <| Go.baload C V 1 (by decide) rfl rfl d42_24 <| Go.istoreN C d42_25 (Ls' := #[vi x1, vr a, vi 2, vi 3, vi 3, su, su, su, su, su, su]) rfl <| Go.goto C d42_26 <| iN C d42_8 rfl <| ic C (-1) d42_9 (by decide) <| Go.icmpne C d42_10 (fun hm1 => ?_) (fun hm1 => ?_)
  · have hv : (o_be x0 [x1, x2]) = ((x1.toInt % 256 - 256) * 256 + x2.toInt % 256) := by
      have z0 := o_lt0 h0
      have z1 := o_intm hm0
      obtain ⟨u0, v0⟩ := hB0; obtain ⟨u1, v1⟩ := hB1; obtain ⟨u2, v2⟩ := hB2
      show ((x0.toInt * 256 + x1.toInt % 256) * 256 + x2.toInt % 256) = ((x1.toInt % 256 - 256) * 256 + x2.toInt % 256)
      omega
    exact o_lp_M1 hW C (f := 2) V (by decide) rfl hv (fun m M h' q1 q2 q3 => ⟨m, M, rfl, rfl, q1, Or.inr q2, q3⟩)
  refine iN C d42_13 rfl <| il C d42_14 rfl <| icmpgeF C d42_16 (by decide) <| aN C d42_19 rfl <| iN C d42_20 rfl <| Go.iinc C 3 d42_21 rfl rfl (Ls' := #[vi x1, vr a, vi 3, vi 3, vi 3, su, su, su, su, su, su]) rfl <| Go.baload C V 2 (by decide) rfl rfl d42_24 <| Go.istoreN C d42_25 (Ls' := #[vi x2, vr a, vi 3, vi 3, vi 3, su, su, su, su, su, su]) rfl <| Go.goto C d42_26 <| iN C d42_8 rfl <| ic C (-1) d42_9 (by decide) <| Go.icmpne C d42_10 (fun hm2 => ?_) (fun hm2 => ?_)
  · have hv : (o_be x0 [x1, x2]) = (x2.toInt % 256 - 256) := by
      have z0 := o_lt0 h0
      have z1 := o_intm hm0
      have z2 := o_intm hm1
      obtain ⟨u0, v0⟩ := hB0; obtain ⟨u1, v1⟩ := hB1; obtain ⟨u2, v2⟩ := hB2
      show ((x0.toInt * 256 + x1.toInt % 256) * 256 + x2.toInt % 256) = (x2.toInt % 256 - 256)
      omega
    exact o_lp_M0 hW C (f := 3) V (by decide) hv (fun m M h' q1 q2 q3 => ⟨m, M, rfl, rfl, q1, Or.inr q2, q3⟩)
  refine iN C d42_13 rfl <| il C d42_14 rfl <| icmpgeT C d42_16 (by decide) ?_
  have hv : (o_be x0 [x1, x2]) = (x2.toInt % 256 - 256) := by
    have z0 := o_lt0 h0
    have z1 := o_intm hm0
    have z2 := o_intm hm1
    have z3 := o_intm hm2
    obtain ⟨u0, v0⟩ := hB0; obtain ⟨u1, v1⟩ := hB1; obtain ⟨u2, v2⟩ := hB2
    show ((x0.toInt * 256 + x1.toInt % 256) * 256 + x2.toInt % 256) = (x2.toInt % 256 - 256)
    omega
  exact o_lp_M0 hW C (f := 3) V (by decide) hv (fun m M h' q1 q2 q3 => ⟨m, M, rfl, rfl, q1, Or.inr q2, q3⟩)
theorem rmS4 (hW : W0 Z a0) (h : Heap) (a zz zm : Addr) (x0 x1 x2 x3 : Int32) (V : Av Z h a .byte [.int x0, .int x1, .int x2, .int x3]) (hSZ : o_SZ Z zz zm) (h0 : ¬ x0 < 0) (hB0 : o_B x0) (hB1 : o_B x1) (hB2 : o_B x2) (hB3 : o_B x3) :
    Con l Z o_EL true y_21 c28 8 (some (.array .int)) ⟨0, 1, 2, 0⟩ [] #[.int x0, .ref a, .int 0, .int 4] h [] (fun v h' os' => ∃ m : Addr, ∃ M : List Int32, v = some (.ref m) ∧ os' = [] ∧ o_mg M (o_be x0 [x1, x2, x3]) ∧ (m < Z.heap.size ∨ h.size ≤ m) ∧ Av Z h' m .int (List.map Value.int M)) := by
  refine Con.intro (Ls := #[vi x0, vr a, vi 0, vi 4, su, su, su, su]) (by decide +kernel) (o_ew hW) (fun _ => en (by simp [argsToLocals, Value.category])) ?_
  intro k C
  refine iN C d28_0 rfl <| ifneT C d28_1 (by decide) <| iN C d28_11 rfl <| iN C d28_12 rfl <| Go.iadd C d28_13 <| gq 4 rfl <| Go.istore C d28_14 (Ls' := #[vi x0, vr a, vi 0, vi 4, vi 4, su, su, su]) rfl <| iN C d28_16 rfl <| Go.bipush C (-128) d28_17 (by decide) <| Go.icmpge C d28_19 (fun hc19 => ?_) (fun hc19 => absurd hc19 (o_Bge hB0))
  refine Go.iinc C 1 d28_26 rfl rfl (Ls' := #[vi x0, vr a, vi 1, vi 4, vi 4, su, su, su]) rfl <| iN C d28_29 rfl <| Go.ifne C d28_30 (fun hz0 => ?_) (fun hz0 => ?_)
  · refine iN C d28_49 rfl <| Go.ifne C d28_50 (fun hc50 => ?_) (fun hc50 => absurd hc50 hz0)
    have hv : (o_be x0 [x1, x2, x3]) = (((x0.toInt % 256 * 256 + x1.toInt % 256) * 256 + x2.toInt % 256) * 256 + x3.toInt % 256) := by
      have z0 := o_ge0 h0
      obtain ⟨u0, v0⟩ := hB0; obtain ⟨u1, v1⟩ := hB1; obtain ⟨u2, v2⟩ := hB2; obtain ⟨u3, v3⟩ := hB3
      show (((x0.toInt * 256 + x1.toInt % 256) * 256 + x2.toInt % 256) * 256 + x3.toInt % 256) = (((x0.toInt % 256 * 256 + x1.toInt % 256) * 256 + x2.toInt % 256) * 256 + x3.toInt % 256)
      omega
    exact o_lp_S3 hW C (f := 1) V (by decide) rfl rfl rfl hB0 hz0 hv (fun m M h' q1 q2 q3 => ⟨m, M, rfl, rfl, q1, Or.inr q2, q3⟩)
  refine iN C d28_33 rfl <| il C d28_34 rfl <| icmpgeF C d28_36 (by decide) <| aN C d28_39 rfl <| iN C d28_40 rfl <| Go.iinc C 2 d28_41 rfl rfl (Ls' := #[vi x0, vr a, vi 2, vi 4, vi 4, su, su, su]) rfl <| Go.baload C V 1 (by decide) rfl rfl d28_44 <| Go.istoreN C d28_45 (Ls' := #[vi x1, vr a, vi 2, vi 4, vi 4, su, su, su]) rfl <| Go.goto C d28_46 <| iN C d28_29 rfl <| Go.ifne C d28_30 (fun hz1 => ?_) (fun hz1 => ?_)
  · refine iN C d28_49 rfl <| Go.ifne C d28_50 (fun hc50 => ?_) (fun hc50 => absurd hc50 hz1)
    have hv : (o_be x0 [x1, x2, x3]) = ((x1.toInt % 256 * 256 + x2.toInt % 256) * 256 + x3.toInt % 256) := by
      have z0 := o_ge0 h0
      have z1 := o_int0 hz0
      obtain ⟨u0, v0⟩ := hB0; obtain ⟨u1, v1⟩ := hB1; obtain ⟨u2, v2⟩ := hB2; obtain ⟨u3, v3⟩ := hB3
      show (((x0.toInt * 256 + x1.toInt % 256) * 256 + x2.toInt % 256) * 256 + x3.toInt % 256) = ((x1.toInt % 256 * 256 + x2.toInt % 256) * 256 + x3.toInt % 256)
      omega
    exact o_lp_S2 hW C (f := 2) V (by decide) rfl rfl hB1 hz1 hv (fun m M h' q1 q2 q3 => ⟨m, M, rfl, rfl, q1, Or.inr q2, q3⟩)
  refine iN C d28_33 rfl <| il C d28_34 rfl <| icmpgeF C d28_36 (by decide) <| aN C d28_39 rfl <| iN C d28_40 rfl <| Go.iinc C 3 d28_41 rfl rfl (Ls' := #[vi x1, vr a, vi 3, vi 4, vi 4, su, su, su]) rfl <| Go.baload C V 2 (by decide) rfl rfl d28_44 <| Go.istoreN C d28_45 (Ls' := #[vi x2, vr a, vi 3, vi 4, vi 4, su, su, su]) rfl <| Go.goto C d28_46 <| iN C d28_29 rfl <| Go.ifne C d28_30 (fun hz2 => ?_) (fun hz2 => ?_)
  · refine iN C d28_49 rfl <| Go.ifne C d28_50 (fun hc50 => ?_) (fun hc50 => absurd hc50 hz2)
    have hv : (o_be x0 [x1, x2, x3]) = (x2.toInt % 256 * 256 + x3.toInt % 256) := by
      have z0 := o_ge0 h0
      have z1 := o_int0 hz0
      have z2 := o_int0 hz1
      obtain ⟨u0, v0⟩ := hB0; obtain ⟨u1, v1⟩ := hB1; obtain ⟨u2, v2⟩ := hB2; obtain ⟨u3, v3⟩ := hB3
      show (((x0.toInt * 256 + x1.toInt % 256) * 256 + x2.toInt % 256) * 256 + x3.toInt % 256) = (x2.toInt % 256 * 256 + x3.toInt % 256)
      omega
    exact o_lp_S1 hW C (f := 3) V (by decide) rfl hB2 hz2 hv (fun m M h' q1 q2 q3 => ⟨m, M, rfl, rfl, q1, Or.inr q2, q3⟩)
  refine iN C d28_33 rfl <| il C d28_34 rfl <| icmpgeF C d28_36 (by decide) <| aN C d28_39 rfl <| iN C d28_40 rfl <| Go.iinc C 4 d28_41 rfl rfl (Ls' := #[vi x2, vr a, vi 4, vi 4, vi 4, su, su, su]) rfl <| Go.baload C V 3 (by decide) rfl rfl d28_44 <| Go.istoreN C d28_45 (Ls' := #[vi x3, vr a, vi 4, vi 4, vi 4, su, su, su]) rfl <| Go.goto C d28_46 <| iN C d28_29 rfl <| Go.ifne C d28_30 (fun hz3 => ?_) (fun hz3 => ?_)
  · refine iN C d28_49 rfl <| Go.ifne C d28_50 (fun hc50 => ?_) (fun hc50 => absurd hc50 hz3)
    have hv : (o_be x0 [x1, x2, x3]) = x3.toInt % 256 := by
      have z0 := o_ge0 h0
      have z1 := o_int0 hz0
      have z2 := o_int0 hz1
      have z3 := o_int0 hz2
      obtain ⟨u0, v0⟩ := hB0; obtain ⟨u1, v1⟩ := hB1; obtain ⟨u2, v2⟩ := hB2; obtain ⟨u3, v3⟩ := hB3
      show (((x0.toInt * 256 + x1.toInt % 256) * 256 + x2.toInt % 256) * 256 + x3.toInt % 256) = x3.toInt % 256
      omega
    exact o_lp_S0 hW C (f := 4) V (by decide) hB3 hz3 hv (fun m M h' q1 q2 q3 => ⟨m, M, rfl, rfl, q1, Or.inr q2, q3⟩)
  refine iN C d28_33 rfl <| il C d28_34 rfl <| icmpgeT C d28_36 (by decide) <| iN C d28_49 rfl <| Go.ifne C d28_50 (fun hc50 => absurd hz3 hc50) (fun hc50 => ?_)
  obtain ⟨Sz, Oz, Vz⟩ := id hSZ
  have lz := Vz.lt
  refine Go.old C (fun X0 => ?_)
  replace Oz := Oz.k0 (Keep.ofExt X0)
  replace Vz := Vz.k0 (Keep.ofExt X0)
  refine Go.getS C Sz (host := "") (Or.inl (w_258 hW)) Via.refl d28_53 <| gF C Oz 0 rfl rfl (w_160 hW) d28_56 <| Go.areturn C d28_59 (nb rfl) (nb rfl) rfl rfl [] nx ?_
  have hmg : o_mg [] (o_be x0 [x1, x2, x3]) := by
    have z0 := o_int0 hz0
    have z1 := o_int0 hz1
    have z2 := o_int0 hz2
    have z3 := o_int0 hz3
    exact Or.inl ⟨rfl, show (((x0.toInt * 256 + x1.toInt % 256) * 256 + x2.toInt % 256) * 256 + x3.toInt % 256) = 0 from by omega⟩
  exact ⟨_, [], rfl, rfl, hmg, Or.inl lz, Vz⟩
theorem rmM4 (hW : W0 Z a0) (h : Heap) (a : Addr) (x0 x1 x2 x3 : Int32) (V : Av Z h a .byte [.int x0, .int x1, .int x2, .int x3]) (h0 : x0 < 0) (hB0 : o_B x0) (hB1 : o_B x1) (hB2 : o_B x2) (hB3 : o_B x3) :
    Con l Z o_EL true y_22 c42 11 (some (.array .int)) ⟨0, 1, 2, 0⟩ [] #[.int x0, .ref a, .int 0, .int 4] h [] (fun v h' os' => ∃ m : Addr, ∃ M : List Int32, v = some (.ref m) ∧ os' = [] ∧ o_mg M (-(o_be x0 [x1, x2, x3])) ∧ (m < Z.heap.size ∨ h.size ≤ m) ∧ Av Z h' m .int (List.map Value.int M)) := by
  refine Con.intro (Ls := #[vi x0, vr a, vi 0, vi 4, su, su, su, su, su, su, su]) (by decide +kernel) (o_ew hW) (fun _ => en (by simp [argsToLocals, Value.category])) ?_
  intro k C
  refine iN C d42_0 rfl <| iN C d42_1 rfl <| Go.iadd C d42_2 <| gq 4 rfl <| Go.istore C d42_3 (Ls' := #[vi x0, vr a, vi 0, vi 4, vi 4, su, su, su, su, su, su]) rfl <| Go.iinc C 1 d42_5 rfl rfl (Ls' := #[vi x0, vr a, vi 1, vi 4, vi 4, su, su, su, su, su, su]) rfl <| iN C d42_8 rfl <| ic C (-1) d42_9 (by decide) <| Go.icmpne C d42_10 (fun hm0 => ?_) (fun hm0 => ?_)
  · have hv : (o_be x0 [x1, x2, x3]) = ((((x0.toInt % 256 - 256) * 256 + x1.toInt % 256) * 256 + x2.toInt % 256) * 256 + x3.toInt % 256) := by
      have z0 := o_lt0 h0
      obtain ⟨u0, v0⟩ := hB0; obtain ⟨u1, v1⟩ := hB1; obtain ⟨u2, v2⟩ := hB2; obtain ⟨u3, v3⟩ := hB3
      show (((x0.toInt * 256 + x1.toInt % 256) * 256 + x2.toInt % 256) * 256 + x3.toInt % 256) = ((((x0.toInt % 256 - 256) * 256 + x1.toInt % 256) * 256 + x2.toInt % 256) * 256 + x3.toInt % 256)
      omega
    exact o_lp_M3 hW C (f := 1) V (by decide) rfl rfl rfl hv (fun m M h' q1 q2 q3 => ⟨m, M, rfl, rfl, q1, Or.inr q2, q3⟩)
  refine iN C d42_13 rfl <| il C d42_14 rfl <| icmpgeF C d42_16 (by decide) <| aN C d42_19 rfl <| iN C d42_20 rfl <| Go.iinc C 2 d42_21 rfl rfl (Ls' := #[vi x0, vr a, vi 2, vi 4, vi 4, su, su, su, su, su, su]) rfl <| Go.baload C V 1 (by decide) rfl rfl d42_24 <| Go.istoreN C d42_25 (Ls' := #[vi x1, vr a, vi 2, vi 4, vi 4, su, su, su, su, su, su]) rfl <| Go.goto C d42_26 <| iN C d42_8 rfl <| ic C (-1) d42_9 (by decide) <| Go.icmpne C d42_10 (fun hm1 => ?_) (fun hm1 => ?_)
  · have hv : (o_be x0 [x1, x2, x3]) = (((x1.toInt % 256 - 256) * 256 + x2.toInt % 256) * 256 + x3.toInt % 256) := by
      have z0 := o_lt0 h0
      have z1 := o_intm hm0
      obtain ⟨u0, v0⟩ := hB0; obtain ⟨u1, v1⟩ := hB1; obtain ⟨u2, v2⟩ := hB2; obtain ⟨u3, v3⟩ := hB3
      show (((x0.toInt * 256 + x1.toInt % 256) * 256 + x2.toInt % 256) * 256 + x3.toInt % 256) = (((x1.toInt % 256 - 256) * 256 + x2.toInt % 256) * 256 + x3.toInt % 256)
      omega
    exact o_lp_M2 hW C (f := 2) V (by decide) rfl rfl hv (fun m M h' q1 q2 q3 => ⟨m, M, rfl, rfl, q1, Or.inr q2, q3⟩)
  refine iN C d42_13 rfl <| il C d42_14 rfl <| icmpgeF C d42_16 (by decide) <| aN C d42_19 rfl <| iN C d42_20 rfl <| Go.iinc C 3 d42_21 rfl rfl (Ls' := #[vi x1, vr a, vi 3, vi 4, vi 4, su, su, su, su, su, su]) rfl <| Go.baload C V 2 (by decide) rfl rfl d42_24 <| Go.istoreN C d42_25 (Ls' := #[vi x2, vr a, vi 3, vi 4, vi 4, su, su, su, su, su, su]) rfl <| Go.goto C d42_26 <| iN C d42_8 rfl <| ic C (-1) d42_9 (by decide) <| Go.icmpne C d42_10 (fun hm2 => ?_) (fun hm2 => ?_)
  · have hv : (o_be x0 [x1, x2, x3]) = ((x2.toInt % 256 - 256) * 256 + x3.toInt % 256) := by
      have z0 := o_lt0 h0
      have z1 := o_intm hm0
      have z2 := o_intm hm1
      obtain ⟨u0, v0⟩ := hB0; obtain ⟨u1, v1⟩ := hB1; obtain ⟨u2, v2⟩ := hB2; obtain ⟨u3, v3⟩ := hB3
      show (((x0.toInt * 256 + x1.toInt % 256) * 256 + x2.toInt % 256) * 256 + x3.toInt % 256) = ((x2.toInt % 256 - 256) * 256 + x3.toInt % 256)
      omega
    exact o_lp_M1 hW C (f := 3) V (by decide) rfl hv (fun m M h' q1 q2 q3 => ⟨m, M, rfl, rfl, q1, Or.inr q2, q3⟩)
  refine iN C d42_13 rfl <| il C d42_14 rfl <| icmpgeF C d42_16 (by decide) <| aN C d42_19 rfl <| iN C d42_20 rfl <| Go.iinc C 4 d42_21 rfl rfl (Ls' := #[vi x2, vr a, vi 4, vi 4, vi 4, su, su, su, su, su, su]) rfl <| Go.baload C V 3 (by decide) rfl rfl d42_24 <| Go.istoreN C d42_25 (Ls' := #[vi x3, vr a, vi 4, vi 4, vi 4, su, su, su, su, su, su]) rfl <| Go.goto C d42_26 <| iN C d42_8 rfl <| ic C (-1) d42_9 (by decide) <| Go.icmpne C d42_10 (fun hm3 => ?_) (fun hm3 => ?_)
  · have hv : (o_be x0 [x1, x2, x3]) = (x3.toInt % 256 - 256) := by
      have z0 := o_lt0 h0
      have z1 := o_intm hm0
      have z2 := o_intm hm1
      have z3 := o_intm hm2
      obtain ⟨u0, v0⟩ := hB0; obtain ⟨u1, v1⟩ := hB1; obtain ⟨u2, v2⟩ := hB2; obtain ⟨u3, v3⟩ := hB3
      show (((x0.toInt * 256 + x1.toInt % 256) * 256 + x2.toInt % 256) * 256 + x3.toInt % 256) = (x3.toInt % 256 - 256)
      omega
    exact o_lp_M0 hW C (f := 4) V (by decide) hv (fun m M h' q1 q2 q3 => ⟨m, M, rfl, rfl, q1, Or.inr q2, q3⟩)
  refine iN C d42_13 rfl <| il C d42_14 rfl <| icmpgeT C d42_16 (by decide) ?_
  have hv : (o_be x0 [x1, x2, x3]) = (x3.toInt % 256 - 256) := by
    have z0 := o_lt0 h0
    have z1 := o_intm hm0
    have z2 := o_intm hm1
    have z3 := o_intm hm2
    have z4 := o_intm hm3
    obtain ⟨u0, v0⟩ := hB0; obtain ⟨u1, v1⟩ := hB1; obtain ⟨u2, v2⟩ := hB2; obtain ⟨u3, v3⟩ := hB3
    show (((x0.toInt * 256 + x1.toInt % 256) * 256 + x2.toInt % 256) * 256 + x3.toInt % 256) = (x3.toInt % 256 - 256)
    omega
  exact o_lp_M0 hW C (f := 4) V (by decide) hv (fun m M h' q1 q2 q3 => ⟨m, M, rfl, rfl, q1, Or.inr q2, q3⟩)
theorem rmS5 (hW : W0 Z a0) (h : Heap) (a zz zm : Addr) (x0 x1 x2 x3 x4 : Int32) (V : Av Z h a .byte [.int x0, .int x1, .int x2, .int x3, .int x4]) (hSZ : o_SZ Z zz zm) (h0 : ¬ x0 < 0) (hB0 : o_B x0) (hB1 : o_B x1) (hB2 : o_B x2) (hB3 : o_B x3) (hB4 : o_B x4) :
    Con l Z o_EL true y_21 c28 8 (some (.array .int)) ⟨0, 1, 2, 0⟩ [] #[.int x0, .ref a, .int 0, .int 5] h [] (fun v h' os' => ∃ m : Addr, ∃ M : List Int32, v = some (.ref m) ∧ os' = [] ∧ o_mg M (o_be x0 [x1, x2, x3, x4]) ∧ (m < Z.heap.size ∨ h.size ≤ m) ∧ Av Z h' m .int (List.map Value.int M)) := by
  refine Con.intro (Ls := #[vi x0, vr a, vi 0, vi 5, su, su, su, su]) (by decide +kernel) (o_ew hW) (fun _ => en (by simp [argsToLocals, Value.category])) ?_
  intro k C
  refine iN C d28_0 rfl <| ifneT C d28_1 (by decide) <| iN C d28_11 rfl <| iN C d28_12 rfl <| Go.iadd C d28_13 <| gq 5 rfl <| Go.istore C d28_14 (Ls' := #[vi x0, vr a, vi 0, vi 5, vi 5, su, su, su]) rfl <| iN C d28_16 rfl <| Go.bipush C (-128) d28_17 (by decide) <| Go.icmpge C d28_19 (fun hc19 => ?_) (fun hc19 => absurd hc19 (o_Bge hB0))
  refine Go.iinc C 1 d28_26 rfl rfl (Ls' := #[vi x0, vr a, vi 1, vi 5, vi 5, su, su, su]) rfl <| iN C d28_29 rfl <| Go.ifne C d28_30 (fun hz0 => ?_) (fun hz0 => ?_)
  · refine iN C d28_49 rfl <| Go.ifne C d28_50 (fun hc50 => ?_) (fun hc50 => absurd hc50 hz0)
    have hv : (o_be x0 [x1, x2, x3, x4]) = ((((x0.toInt % 256 * 256 + x1.toInt % 256) * 256 + x2.toInt % 256) * 256 + x3.toInt % 256) * 256 + x4.toInt % 256) := by
      have z0 := o_ge0 h0
      obtain ⟨u0, v0⟩ := hB0; obtain ⟨u1, v1⟩ := hB1; obtain ⟨u2, v2⟩ := hB2; obtain ⟨u3, v3⟩ := hB3; obtain ⟨u4, v4⟩ := hB4
      show ((((x0.toInt * 256 + x1.toInt % 256) * 256 + x2.toInt % 256) * 256 + x3.toInt % 256) * 256 + x4.toInt % 256) = ((((x0.toInt % 256 * 256 + x1.toInt % 256) * 256 + x2.toInt % 256) * 256 + x3.toInt % 256) * 256 + x4.toInt % 256)
      omega
    exact o_lp_S4 hW C (f := 1) V (by decide) rfl rfl rfl rfl hB0 hz0 hv (fun m M h' q1 q2 q3 => ⟨m, M, rfl, rfl, q1, Or.inr q2, q3⟩)
  refine iN C d28_33 rfl <| il C d28_34 rfl <| icmpgeF C d28_36 (by decide) <| aN C d28_39 rfl <| iN C d28_40 rfl <| Go.iinc C 2 d28_41 rfl rfl (Ls' := #[vi x0, vr a, vi 2, vi 5, vi 5, su, su, su]) rfl <| Go.baload C V 1 (by decide) rfl rfl d28_44 <| Go.istoreN C d28_45 (Ls' := #[vi x1, vr a, vi 2, vi 5, vi 5, su, su, su]) rfl <| Go.goto C d28_46 <| iN C d28_29 rfl <| Go.ifne C d28_30 (fun hz1 => ?_) (fun hz1 => ?_)
  · refine iN C d28_49 rfl <| Go.ifne C d28_50 (fun hc50 => ?_) (fun hc50 => absurd hc50 hz1)
    have hv : (o_be x0 [x1, x2, x3, x4]) = (((x1.toInt % 256 * 256 + x2.toInt % 256) * 256 + x3.toInt % 256) * 256 + x4.toInt % 256) := by
      have z0 := o_ge0 h0
      have z1 := o_int0 hz0
      obtain ⟨u0, v0⟩ := hB0; obtain ⟨u1, v1⟩ := hB1; obtain ⟨u2, v2⟩ := hB2; obtain ⟨u3, v3⟩ := hB3; obtain ⟨u4, v4⟩ := hB4
      show ((((x0.toInt * 256 + x1.toInt % 256) * 256 + x2.toInt % 256) * 256 + x3.toInt % 256) * 256 + x4.toInt % 256) = (((x1.toInt % 256 * 256 + x2.toInt % 256) * 256 + x3.toInt % 256) * 256 + x4.toInt % 256)
      omega
    exact o_lp_S3 hW C (f := 2) V (by decide) rfl rfl rfl hB1 hz1 hv (fun m M h' q1 q2 q3 => ⟨m, M, rfl, rfl, q1, Or.inr q2, q3⟩)
  refine iN C d28_33 rfl <| il C d28_34 rfl <| icmpgeF C d28_36 (by decide) <| aN C d28_39 rfl <| iN C d28_40 rfl <| Go.iinc C 3 d28_41 rfl rfl (Ls' := #[vi x1, vr a, vi 3, vi 5, vi 5, su, su, su]) rfl <| Go.baload C V 2 (by decide) rfl rfl d28_44 <| Go.istoreN C d28_45 (Ls' := #[vi x2, vr a, vi 3, vi 5, vi 5, su, su, su]) rfl <| Go.goto C d28_46 <| iN C d28_29 rfl <| Go.ifne C d28_30 (fun hz2 => ?_) (fun hz2 => ?_)
  · refine iN C d28_49 rfl <| Go.ifne C d28_50 (fun hc50 => ?_) (fun hc50 => absurd hc50 hz2)
    have hv : (o_be x0 [x1, x2, x3, x4]) = ((x2.toInt % 256 * 256 + x3.toInt % 256) * 256 + x4.toInt % 256) := by
      have z0 := o_ge0 h0
      have z1 := o_int0 hz0
      have z2 := o_int0 hz1
      obtain ⟨u0, v0⟩ := hB0; obtain ⟨u1, v1⟩ := hB1; obtain ⟨u2, v2⟩ := hB2; obtain ⟨u3, v3⟩ := hB3; obtain ⟨u4, v4⟩ := hB4
      show ((((x0.toInt * 256 + x1.toInt % 256) * 256 + x2.toInt % 256) * 256 + x3.toInt % 256) * 256 + x4.toInt % 256) = ((x2.toInt % 256 * 256 + x3.toInt % 256) * 256 + x4.toInt % 256)
      omega
    exact o_lp_S2 hW C (f := 3) V (by decide) rfl rfl hB2 hz2 hv (fun m M h' q1 q2 q3 => ⟨m, M, rfl, rfl, q1, Or.inr q2, q3⟩)
  refine iN C d28_33 rfl <| il C d28_34 rfl <| icmpgeF C d28_36 (by decide) <| aN C d28_39 rfl <| iN C d28_40 rfl <| Go.iinc C 4 d28_41 rfl rfl (Ls' := #[vi x2, vr a, vi 4, vi 5, vi 5, su, su, su]) rfl <| Go.baload C V 3 (by decide) rfl rfl d28_44 <| Go.istoreN C d28_45 (Ls' := #[vi x3, vr a, vi 4, vi 5, vi 5, su, su, su]) rfl <| Go.goto C d28_46 <| iN C d28_29 rfl <| Go.ifne C d28_30 (fun hz3 => ?_) (fun hz3 => ?_)
  · refine iN C d28_49 rfl <| Go.ifne C d28_50 (fun hc50 => ?_) (fun hc50 => absurd hc50 hz3)
    have hv : (o_be x0 [x1, x2, x3, x4]) = (x3.toInt % 256 * 256 + x4.toInt % 256) := by
      have z0 := o_ge0 h0
      have z1 := o_int0 hz0
      have z2 := o_int0 hz1
      have z3 := o_int0 hz2
      obtain ⟨u0, v0⟩ := hB0; obtain ⟨u1, v1⟩ := hB1; obtain ⟨u2, v2⟩ := hB2; obtain ⟨u3, v3⟩ := hB3; obtain ⟨u4, v4⟩ := hB4
      show ((((x0.toInt * 256 + x1.toInt % 256) * 256 + x2.toInt % 256) * 256 + x3.toInt % 256) * 256 + x4.toInt % 256) = (x3.toInt % 256 * 256 + x4.toInt % 256)
      omega
    exact o_lp_S1 hW C (f := 4) V (by decide) rfl hB3 hz3 hv (fun m M h' q1 q2 q3 => ⟨m, M, rfl, rfl, q1, Or.inr q2, q3⟩)
  refine iN C d28_33 rfl <| il C d28_34 rfl <| icmpgeF C d28_36 (by decide) <| aN C d28_39 rfl <| iN C d28_40 rfl <| Go.iinc C 5 d28_41 rfl rfl (Ls' := #[vi x3, vr a, vi 5, vi 5, vi 5, su, su, su]) rfl <| Go.baload C V 4 (by decide) rfl rfl d28_44 <| Go.istoreN C d28_45 (Ls' := #[vi x4, vr a, vi 5, vi 5, vi 5, su, su, su]) rfl <| Go.goto C d28_46 <| iN C d28_29 rfl <| Go.ifne C d28_30 (fun hz4 => ?_) (fun hz4 => ?_)
  · refine iN C d28_49 rfl <| Go.ifne C d28_50 (fun hc50 => ?_) (fun hc50 => absurd hc50 hz4)
    have hv : (o_be x0 [x1, x2, x3, x4]) = x4.toInt % 256 := by
      have z0 := o_ge0 h0
      have z1 := o_int0 hz0
      have z2 := o_int0 hz1
      have z3 := o_int0 hz2
      have z4 := o_int0 hz3
      obtain ⟨u0, v0⟩ := hB0; obtain ⟨u1, v1⟩ := hB1; obtain ⟨u2, v2⟩ := hB2; obtain ⟨u3, v3⟩ := hB3; obtain ⟨u4, v4⟩ := hB4
      show ((((x0.toInt * 256 + x1.toInt % 256) * 256 + x2.toInt % 256) * 256 + x3.toInt % 256) * 256 + x4.toInt % 256) = x4.toInt % 256
      omega
    exact o_lp_S0 hW C (f := 5) V (by decide) hB4 hz4 hv (fun m M h' q1 q2 q3 => ⟨m, M, rfl, rfl, q1, Or.inr q2, q3⟩)
  refine iN C d28_33 rfl <| il C d28_34 rfl <| icmpgeT C d28_36 (by decide) <| iN C d28_49 rfl <| Go.ifne C d28_50 (fun hc50 => absurd hz4 hc50) (fun hc50 => ?_)
  obtain ⟨Sz, Oz, Vz⟩ := id hSZ
  have lz := Vz.lt
  refine Go.old C (fun X0 => ?_)
  replace Oz := Oz.k0 (Keep.ofExt X0)
  replace Vz := Vz.k0 (Keep.ofExt X0)
  refine Go.getS C Sz (host := "") (Or.inl (w_258 hW)) Via.refl d28_53 <| gF C Oz 0 rfl rfl (w_160 hW) d28_56 <| Go.areturn C d28_59 (nb rfl) (nb rfl) rfl rfl [] nx ?_
  have hmg : o_mg [] (o_be x0 [x1, x2, x3, x4]) := by
    have z0 := o_int0 hz0
    have z1 := o_int0 hz1
    have z2 := o_int0 hz2
    have z3 := o_int0 hz3
    have z4 := o_int0 hz4
    exact Or.inl ⟨rfl, show ((((x0.toInt * 256 + x1.toInt % 256) * 256 + x2.toInt % 256) * 256 + x3.toInt % 256) * 256 + x4.toInt % 256) = 0 from by omega⟩
  exact ⟨_, [], rfl, rfl, hmg, Or.inl lz, Vz⟩
theorem rmM5 (hW : W0 Z a0) (h : Heap) (a : Addr) (x0 x1 x2 x3 x4 : Int32) (V : Av Z h a .byte [.int x0, .int x1, .int x2, .int x3, .int x4]) (h0 : x0 < 0) (hB0 : o_B x0) (hB1 : o_B x1) (hB2 : o_B x2) (hB3 : o_B x3) (hB4 : o_B x4) :
    Con l Z o_EL true y_22 c42 11 (some (.array .int)) ⟨0, 1, 2, 0⟩ [] #[.int x0, .ref a, .int 0, .int 5] h [] (fun v h' os' => ∃ m : Addr, ∃ M : List Int32, v = some (.ref m) ∧ os' = [] ∧ o_mg M (-(o_be x0 [x1, x2, x3, x4])) ∧ (m < Z.heap.size ∨ h.size ≤ m) ∧ Av Z h' m .int (List.map Value.int M)) := by
  refine Con.intro (Ls := #[vi x0, vr a, vi 0, vi 5, su, su, su, su, su, su, su]) (by decide +kernel) (o_ew hW) (fun _ => en (by simp [argsToLocals, Value.category])) ?_
  intro k C
  refine iN C d42_0 rfl <| iN C d42_1 rfl <| Go.iadd C d42_2 <| gq 5 rfl <| Go.istore C d42_3 (Ls' := #[vi x0, vr a, vi 0, vi 5, vi 5, su, su, su, su, su, su]) rfl <| Go.iinc C 1 d42_5 rfl rfl (Ls' := #[vi x0, vr a, vi 1, vi 5, vi 5, su, su, su, su, su, su]) rfl <| iN C d42_8 rfl <| ic C (-1) d42_9 (by decide) <| Go.icmpne C d42_10 (fun hm0 => ?_) (fun hm0 => ?_)
  · have hv : (o_be x0 [x1, x2, x3, x4]) = (((((x0.toInt % 256 - 256) * 256 + x1.toInt % 256) * 256 + x2.toInt % 256) * 256 + x3.toInt % 256) * 256 + x4.toInt % 256) := by
      have z0 := o_lt0 h0
      obtain ⟨u0, v0⟩ := hB0; obtain ⟨u1, v1⟩ := hB1; obtain ⟨u2, v2⟩ := hB2; obtain ⟨u3, v3⟩ := hB3; obtain ⟨u4, v4⟩ := hB4
      show ((((x0.toInt * 256 + x1.toInt % 256) * 256 + x2.toInt % 256) * 256 + x3.toInt % 256) * 256 + x4.toInt % 256) = (((((x0.toInt % 256 - 256) * 256 + x1.toInt % 256) * 256 + x2.toInt % 256) * 256 + x3.toInt % 256) * 256 + x4.toInt % 256)
      omega
    exact o_lp_M4 hW C (f := 1) V (by decide) rfl rfl rfl rfl hB0 hm0 hv (fun m M h' q1 q2 q3 => ⟨m, M, rfl, rfl, q1, Or.inr q2, q3⟩)
  refine iN C d42_13 rfl <| il C d42_14 rfl <| icmpgeF C d42_16 (by decide) <| aN C d42_19 rfl <| iN C d42_20 rfl <| Go.iinc C 2 d42_21 rfl rfl (Ls' := #[vi x0, vr a, vi 2, vi 5, vi 5, su, su, su, su, su, su]) rfl <| Go.baload C V 1 (by decide) rfl rfl d42_24 <| Go.istoreN C d42_25 (Ls' := #[vi x1, vr a, vi 2, vi 5, vi 5, su, su, su, su, su, su]) rfl <| Go.goto C d42_26 <| iN C d42_8 rfl <| ic C (-1) d42_9 (by decide) <| Go.icmpne C d42_10 (fun hm1 => ?_) (fun hm1 => ?_)
  · have hv : (o_be x0 [x1, x2, x3, x4]) = ((((x1.toInt % 256 - 256) * 256 + x2.toInt % 256) * 256 + x3.toInt % 256) * 256 + x4.toInt % 256) := by
      have z0 := o_lt0 h0
      have z1 := o_intm hm0
      obtain ⟨u0, v0⟩ := hB0; obtain ⟨u1, v1⟩ := hB1; obtain ⟨u2, v2⟩ := hB2; obtain ⟨u3, v3⟩ := hB3; obtain ⟨u4, v4⟩ := hB4
      show ((((x0.toInt * 256 + x1.toInt % 256) * 256 + x2.toInt % 256) * 256 + x3.toInt % 256) * 256 + x4.toInt % 256) = ((((x1.toInt % 256 - 256) * 256 + x2.toInt % 256) * 256 + x3.toInt % 256) * 256 + x4.toInt % 256)
      omega
    exact o_lp_M3 hW C (f := 2) V (by decide) rfl rfl rfl hv (fun m M h' q1 q2 q3 => ⟨m, M, rfl, rfl, q1, Or.inr q2, q3⟩)
  refine iN C d42_13 rfl <| il C d42_14 rfl <| icmpgeF C d42_16 (by decide) <| aN C d42_19 rfl <| iN C d42_20 rfl <| Go.iinc C 3 d42_21 rfl rfl (Ls' := #[vi x1, vr a, vi 3, vi 5, vi 5, su, su, su, su, su, su]) rfl <| Go.baload C V 2 (by decide) rfl rfl d42_24 <| Go.istoreN C d42_25 (Ls' := #[vi x2, vr a, vi 3, vi 5, vi 5, su, su, su, su, su, su]) rfl <| Go.goto C d42_26 <| iN C d42_8 rfl <| ic C (-1) d42_9 (by decide) <| Go.icmpne C d42_10 (fun hm2 => ?_) (fun hm2 => ?_)
  · have hv : (o_be x0 [x1, x2, x3, x4]) = (((x2.toInt % 256 - 256) * 256 + x3.toInt % 256) * 256 + x4.toInt % 256) := by
      have z0 := o_lt0 h0
      have z1 := o_intm hm0
      have z2 := o_intm hm1
      obtain ⟨u0, v0⟩ := hB0; obtain ⟨u1, v1⟩ := hB1; obtain ⟨u2, v2⟩ := hB2; obtain ⟨u3, v3⟩ := hB3; obtain ⟨u4, v4⟩ := hB4
      show ((((x0.toInt * 256 + x1.toInt % 256) * 256 + x2.toInt % 256) * 256 + x3.toInt % 256) * 256 + x4.toInt % 256) = (((x2.toInt % 256 - 256) * 256 + x3.toInt % 256) * 256 + x4.toInt % 256)
      omega
    exact o_lp_M2 hW C (f := 3) V (by decide) rfl rfl hv (fun m M h' q1 q2 q3 => ⟨m, M, rfl, rfl, q1, Or.inr q2, q3⟩)
  refine iN C d42_13 rfl <| il C d42_14 rfl <| icmpgeF C d42_16 (by decide) <| aN C d42_19 rfl <| iN C d42_20 rfl <| Go.iinc C 4 d42_21 rfl rfl (Ls' := #[vi x2, vr a, vi 4, vi 5, vi 5, su, su, su, su, su, su]) rfl <| Go.baload C V 3 (by decide) rfl rfl d42_24 <| Go.istoreN C d42_25 (Ls' := #[vi x3, vr a, vi 4, vi 5, vi 5, su, su, su, su, su, su]) rfl <| Go.goto C d42_26 <| iN C d42_8 rfl <| ic C (-1) d42_9 (by decide) <| Go.icmpne C d42_10 (fun hm3 => ?_) (fun hm3 => ?_)
  · have hv : (o_be x0 [x1, x2, x3, x4]) = ((x3.toInt % 256 - 256) * 256 + x4.toInt % 256) := by
      have z0 := o_lt0 h0
      have z1 := o_intm hm0
      have z2 := o_intm hm1
      have z3 := o_intm hm2
      obtain ⟨u0, v0⟩ := hB0; obtain ⟨u1, v1⟩ := hB1; obtain ⟨u2, v2⟩ := hB2; obtain ⟨u3, v3⟩ := hB3; obtain ⟨u4, v4⟩ := hB4
      show ((((x0.toInt * 256 + x1.toInt % 256) * 256 + x2.toInt % 256) * 256 + x3.toInt % 256) * 256 + x4.toInt % 256) = ((x3.toInt % 256 - 256) * 256 + x4.toInt % 256)
      omega
    exact o_lp_M1 hW C (f := 4) V (by decide) rfl hv (fun m M h' q1 q2 q3 => ⟨m, M, rfl, rfl, q1, Or.inr q2, q3⟩)
  refine iN C d42_13 rfl <| il C d42_14 rfl <| icmpgeF C d42_16 (by decide) <| aN C d42_19 rfl <| iN C d42_20 rfl <| Go.iinc C 5 d42_21 rfl rfl (Ls' := #[vi x3, vr a, vi 5, vi 5, vi 5, su, su, su, su, su, su]) rfl <| Go.baload C V 4 (by decide) rfl rfl d42_24 <| Go.istoreN C d42_25 (Ls' := #[vi x4, vr a, vi 5, vi 5, vi 5, su, su, su, su, su, su]) rfl <| Go.goto C d42_26 <| iN C d42_8 rfl <| ic C (-1) d42_9 (by decide) <| Go.icmpne C d42_10 (fun hm4 => ?_) (fun hm4 => ?_)
  · have hv : (o_be x0 [x1, x2, x3, x4]) = (x4.toInt % 256 - 256) := by
      have z0 := o_lt0 h0
      have z1 := o_intm hm0
      have z2 := o_intm hm1
      have z3 := o_intm hm2
      have z4 := o_intm hm3
      obtain ⟨u0, v0⟩ := hB0; obtain ⟨u1, v1⟩ := hB1; obtain ⟨u2, v2⟩ := hB2; obtain ⟨u3, v3⟩ := hB3; obtain ⟨u4, v4⟩ := hB4
      show ((((x0.toInt * 256 + x1.toInt % 256) * 256 + x2.toInt % 256) * 256 + x3.toInt % 256) * 256 + x4.toInt % 256) = (x4.toInt % 256 - 256)
      omega
    exact o_lp_M0 hW C (f := 5) V (by decide) hv (fun m M h' q1 q2 q3 => ⟨m, M, rfl, rfl, q1, Or.inr q2, q3⟩)
  refine iN C d42_13 rfl <| il C d42_14 rfl <| icmpgeT C d42_16 (by decide) ?_
  have hv : (o_be x0 [x1, x2, x3, x4]) = (x4.toInt % 256 - 256) := by
    have z0 := o_lt0 h0
    have z1 := o_intm hm0
    have z2 := o_intm hm1
    have z3 := o_intm hm2
    have z4 := o_intm hm3
    have z5 := o_intm hm4
    obtain ⟨u0, v0⟩ := hB0; obtain ⟨u1, v1⟩ := hB1; obtain ⟨u2, v2⟩ := hB2; obtain ⟨u3, v3⟩ := hB3; obtain ⟨u4, v4⟩ := hB4
    show ((((x0.toInt * 256 + x1.toInt % 256) * 256 + x2.toInt % 256) * 256 + x3.toInt % 256) * 256 + x4.toInt % 256) = (x4.toInt % 256 - 256)
    omega
  exact o_lp_M0 hW C (f := 5) V (by decide) hv (fun m M h' q1 q2 q3 => ⟨m, M, rfl, rfl, q1, Or.inr q2, q3⟩)
theorem rmS6 (hW : W0 Z a0) (h : Heap) (a zz zm : Addr) (x0 x1 x2 x3 x4 x5 : Int32) (V : Av Z h a .byte [.int x0, .int x1, .int x2, .int x3, .int x4, .int x5]) (hSZ : o_SZ Z zz zm) (h0 : ¬ x0 < 0) (hB0 : o_B x0) (hB1 : o_B x1) (hB2 : o_B x2) (hB3 : o_B x3) (hB4 : o_B x4) (hB5 : o_B x5) :
    Con l Z o_EL true y_21 c28 8 (some (.array .int)) ⟨0, 1, 2, 0⟩ [] #[.int x0, .ref a, .int 0, .int 6] h [] (fun v h' os' => ∃ m : Addr, ∃ M : List Int32, v = some (.ref m) ∧ os' = [] ∧ o_mg M (o_be x0 [x1, x2, x3, x4, x5]) ∧ (m < Z.heap.size ∨ h.size ≤ m) ∧ Av Z h' m .int (List.map Value.int M)) := by
  refine Con.intro (Ls := #[vi x0, vr a, vi 0, vi 6, su, su, su, su]) (by decide +kernel) (o_ew hW) (fun _ => en (by simp [argsToLocals, Value.category])) ?_
  intro k C
  refine iN C d28_0 rfl <| ifneT C d28_1 (by decide) <| iN C d28_11 rfl <| iN C d28_12 rfl <| Go.iadd C d28_13 <| gq 6 rfl <| Go.istore C d28_14 (Ls' := #[vi x0, vr a, vi 0, vi 6, vi 6, su, su, su]) rfl <| iN C d28_16 rfl <| Go.bipush C (-128) d28_17 (by decide) <| Go.icmpge C d28_19 (fun hc19 => ?_) (fun hc19 => absurd hc19 (o_Bge hB0))
  refine Go.iinc C 1 d28_26 rfl rfl (Ls' := #[vi x0, vr a, vi 1, vi 6, vi 6, su, su, su]) rfl <| iN C d28_29 rfl <| Go.ifne C d28_30 (fun hz0 => ?_) (fun hz0 => ?_)
  · refine iN C d28_49 rfl <| Go.ifne C d28_50 (fun hc50 => ?_) (fun hc50 => absurd hc50 hz0)
    have hv : (o_be x0 [x1, x2, x3, x4, x5]) = (((((x0.toInt % 256 * 256 + x1.toInt % 256) * 256 + x2.toInt % 256) * 256 + x3.toInt % 256) * 256 + x4.toInt % 256) * 256 + x5.toInt % 256) := by
      have z0 := o_ge0 h0
      obtain ⟨u0, v0⟩ := hB0; obtain ⟨u1, v1⟩ := hB1; obtain ⟨u2, v2⟩ := hB2; obtain ⟨u3, v3⟩ := hB3; obtain ⟨u4, v4⟩ := hB4; obtain ⟨u5, v5⟩ := hB5
      show (((((x0.toInt * 256 + x1.toInt % 256) * 256 + x2.toInt % 256) * 256 + x3.toInt % 256) * 256 + x4.toInt % 256) * 256 + x5.toInt % 256) = (((((x0.toInt % 256 * 256 + x1.toInt % 256) * 256 + x2.toInt % 256) * 256 + x3.toInt % 256) * 256 + x4.toInt % 256) * 256 + x5.toInt % 256)
      omega
    exact o_lp_S5 hW C (f := 1) V (by decide) rfl rfl rfl rfl rfl hB0 hz0 hv (fun m M h' q1 q2 q3 => ⟨m, M, rfl, rfl, q1, Or.inr q2, q3⟩)
  refine iN C d28_33 rfl <| il C d28_34 rfl <| icmpgeF C d28_36 (by decide) <| aN C d28_39 rfl <| iN C d28_40 rfl <| Go.iinc C 2 d28_41 rfl rfl (Ls' := #[vi x0, vr a, vi 2, vi 6, vi 6, su, su, su]) rfl <| Go.baload C V 1 (by decide) rfl rfl d28_44 <| Go.istoreN C d28_45 (Ls' := #[vi x1, vr a, vi 2, vi 6, vi 6, su, su, su]) rfl <| Go.goto C d28_46 <| iN C d28_29 rfl <| Go.ifne C d28_30 (fun hz1 => ?_) (fun hz1 => ?_)
  · refine iN C d28_49 rfl <| Go.ifne C d28_50 (fun hc50 => ?_) (fun hc50 => absurd hc50 hz1)
    have hv : (o_be x0 [x1, x2, x3, x4, x5]) = ((((x1.toInt % 256 * 256 + x2.toInt % 256) * 256 + x3.toInt % 256) * 256 + x4.toInt % 256) * 256 + x5.toInt % 256) := by
      have z0 := o_ge0 h0
      have z1 := o_int0 hz0
      obtain ⟨u0, v0⟩ := hB0; obtain ⟨u1, v1⟩ := hB1; obtain ⟨u2, v2⟩ := hB2; obtain ⟨u3, v3⟩ := hB3; obtain ⟨u4, v4⟩ := hB4; obtain ⟨u5, v5⟩ := hB5
      show (((((x0.toInt * 256 + x1.toInt % 256) * 256 + x2.toInt % 256) * 256 + x3.toInt % 256) * 256 + x4.toInt % 256) * 256 + x5.toInt % 256) = ((((x1.toInt % 256 * 256 + x2.toInt % 256) * 256 + x3.toInt % 256) * 256 + x4.toInt % 256) * 256 + x5.toInt % 256)
      omega
    exact o_lp_S4 hW C (f := 2) V (by decide) rfl rfl rfl rfl hB1 hz1 hv (fun m M h' q1 q2 q3 => ⟨m, M, rfl, rfl, q1, Or.inr q2, q3⟩)
  refine iN C d28_33 rfl <| il C d28_34 rfl <| icmpgeF C d28_36 (by decide) <| aN C d28_39 rfl <| iN C d28_40 rfl <| Go.iinc C 3 d28_41 rfl rfl (Ls' := #[vi x1, vr a, vi 3, vi 6, vi 6, su, su, su]) rfl <| Go.baload C V 2 (by decide) rfl rfl d28_44 <| Go.istoreN C d28_45 (Ls' := #[vi x2, vr a, vi 3, vi 6, vi 6, su, su, su]) rfl <| Go.goto C d28_46 <| iN C d28_29 rfl <| Go.ifne C d28_30 (fun hz2 => ?_) (fun hz2 => ?_)
  · refine iN C d28_49 rfl <| Go.ifne C d28_50 (fun hc50 => ?_) (fun hc50 => absurd hc50 hz2)
    have hv : (o_be x0 [x1, x2, x3, x4, x5]) = (((x2.toInt % 256 * 256 + x3.toInt % 256) * 256 + x4.toInt % 256) * 256 + x5.toInt % 256) := by
      have z0 := o_ge0 h0
      have z1 := o_int0 hz0
      have z2 := o_int0 hz1
      obtain ⟨u0, v0⟩ := hB0; obtain ⟨u1, v1⟩ := hB1; obtain ⟨u2, v2⟩ := hB2; obtain ⟨u3, v3⟩ := hB3; obtain ⟨u4, v4⟩ := hB4; obtain ⟨u5, v5⟩ := hB5
      show (((((x0.toInt * 256 + x1.toInt % 256) * 256 + x2.toInt % 256) * 256 + x3.toInt % 256) * 256 + x4.toInt % 256) * 256 + x5.toInt % 256) = (((x2.toInt % 256 * 256 + x3.toInt % 256) * 256 + x4.toInt % 256) * 256 + x5.toInt % 256)
      omega
    exact o_lp_S3 hW C (f := 3) V (by decide) rfl rfl rfl hB2 hz2 hv (fun m M h' q1 q2 q3 => ⟨m, M, rfl, rfl, q1, Or.inr q2, q3⟩)
  refine iN C d28_33 rfl <| il C d28_34 rfl <| icmpgeF C d28_36 (by decide) <| aN C d28_39 rfl <| iN C d28_40 rfl <| Go.iinc C 4 d28_41 rfl rfl (Ls' := #[vi x2, vr a, vi 4, vi 6, vi 6, su, su, su]) rfl <| Go.baload C V 3 (by decide) rfl rfl d28_44 <| Go.istoreN C d28_45 (Ls' := #[vi x3, vr a, vi 4, vi 6, vi 6, su, su, su]) rfl <| Go.goto C d28_46 <| iN C d28_29 rfl <| Go.ifne C d28_30 (fun hz3 => ?_) (fun hz3 => ?_)
  · refine iN C d28_49 rfl <| Go.ifne C d28_50 (fun hc50 => ?_) (fun hc50 => absurd hc50 hz3)
    have hv : (o_be x0 [x1, x2, x3, x4, x5]) = ((x3.toInt % 256 * 256 + x4.toInt % 256) * 256 + x5.toInt % 256) := by
      have z0 := o_ge0 h0
      have z1 := o_int0 hz0
      have z2 := o_int0 hz1
      have z3 := o_int0 hz2
      obtain ⟨u0, v0⟩ := hB0; obtain ⟨u1, v1⟩ := hB1; obtain ⟨u2, v2⟩ := hB2; obtain ⟨u3, v3⟩ := hB3; obtain ⟨u4, v4⟩ := hB4; obtain ⟨u5, v5⟩ := hB5
      show (((((x0.toInt * 256 + x1.toInt % 256) * 256 + x2.toInt % 256) * 256 + x3.toInt % 256) * 256 + x4.toInt % 256) * 256 + x5.toInt % 256) = ((x3.toInt % 256 * 256 + x4.toInt % 256) * 256 + x5.toInt % 256)
      omega
    exact o_lp_S2 hW C (f := 4) V (by decide) rfl rfl hB3 hz3 hv (fun m M h' q1 q2 q3 => ⟨m, M, rfl, rfl, q1, Or.inr q2, q3⟩)
  refine iN C d28_33 rfl <| il C d28_34 rfl <| icmpgeF C d28_36 (by decide) <| aN C d28_39 rfl <| iN C d28_40 rfl <| Go.iinc C 5 d28_41 rfl rfl (Ls' := #[vi x3, vr a, vi 5, vi 6, vi 6, su, su, su]) rfl <| Go.baload C V 4 (by decide) rfl rfl d28_44 <| Go.istoreN C d28_45 (Ls' := #[vi x4, vr a, vi 5, vi 6, vi 6, su, su, su]) rfl <| Go.goto C d28_46 <| iN C d28_29 rfl <| Go.ifne C d28_30 (fun hz4 => ?_) (fun hz4 => ?_)
  · refine iN C d28_49 rfl <| Go.ifne C d28_50 (fun hc50 => ?_) (fun hc50 => absurd hc50 hz4)
    have hv : (o_be x0 [x1, x2, x3, x4, x5]) = (x4.toInt % 256 * 256 + x5.toInt % 256) := by
      have z0 := o_ge0 h0
      have z1 := o_int0 hz0
      have z2 := o_int0 hz1
      have z3 := o_int0 hz2
      have z4 := o_int0 hz3
      obtain ⟨u0, v0⟩ := hB0; obtain ⟨u1, v1⟩ := hB1; obtain ⟨u2, v2⟩ := hB2; obtain ⟨u3, v3⟩ := hB3; obtain ⟨u4, v4⟩ := hB4; obtain ⟨u5, v5⟩ := hB5
      show (((((x0.toInt * 256 + x1.toInt % 256) * 256 + x2.toInt % 256) * 256 + x3.toInt % 256) * 256 + x4.toInt % 256) * 256 + x5.toInt % 256) = (x4.toInt % 256 * 256 + x5.toInt % 256)
      omega
    exact o_lp_S1 hW C (f := 5) V (by decide) rfl hB4 hz4 hv (fun m M h' q1 q2 q3 => ⟨m, M, rfl, rfl, q1, Or.inr q2, q3⟩)
  refine iN C d28_33 rfl <| il C d28_34 rfl <| icmpgeF C d28_36 (by decide) <| aN C d28_39 rfl <| iN C d28_40 rfl <| Go.iinc C 6 d28_41 rfl rfl (Ls' := #[vi x4, vr a, vi 6, vi 6, vi 6, su, su, su]) rfl <| Go.baload C V 5 (by decide) rfl rfl d28_44 <| Go.istoreN C d28_45 (Ls' := #[vi x5, vr a, vi 6, vi 6, vi 6, su, su, su]) rfl <| Go.goto C d28_46 <| iN C d28_29 rfl <| Go.ifne C d28_30 (fun hz5 => ?_) (fun hz5 => ?_)
  · refine iN C d28_49 rfl <| Go.ifne C d28_50 (fun hc50 => ?_) (fun hc50 => absurd hc50 hz5)
    have hv : (o_be x0 [x1, x2, x3, x4, x5]) = x5.toInt % 256 := by
      have z0 := o_ge0 h0
      have z1 := o_int0 hz0
      have z2 := o_int0 hz1
      have z3 := o_int0 hz2
      have z4 := o_int0 hz3
      have z5 := o_int0 hz4
      obtain ⟨u0, v0⟩ := hB0; obtain ⟨u1, v1⟩ := hB1; obtain ⟨u2, v2⟩ := hB2; obtain ⟨u3, v3⟩ := hB3; obtain ⟨u4, v4⟩ := hB4; obtain ⟨u5, v5⟩ := hB5
      show (((((x0.toInt * 256 + x1.toInt % 256) * 256 + x2.toInt % 256) * 256 + x3.toInt % 256) * 256 + x4.toInt % 256) * 256 + x5.toInt % 256) = x5.toInt % 256
      omega
    exact o_lp_S0 hW C (f := 6) V (by decide) hB5 hz5 hv (fun m M h' q1 q2 q3 => ⟨m, M, rfl, rfl, q1, Or.inr q2, q3⟩)
  refine iN C d28_33 rfl <| il C d28_34 rfl <| icmpgeT C d28_36 (by decide) <| iN C d28_49 rfl <| Go.ifne C d28_50 (fun hc50 => absurd hz5 hc50) (fun hc50 => ?_)
  obtain ⟨Sz, Oz, Vz⟩ := id hSZ
  have lz := Vz.lt
  refine Go.old C (fun X0 => ?_)
  replace Oz := Oz.k0 (Keep.ofExt X0)
  replace Vz := Vz.k0 (Keep.ofExt X0)
  refine Go.getS C Sz (host := "") (Or.inl (w_258 hW)) Via.refl d28_53 <| gF C Oz 0 rfl rfl (w_160 hW) d28_56 <| Go.areturn C d28_59 (nb rfl) (nb rfl) rfl rfl [] nx ?_
  have hmg : o_mg [] (o_be x0 [x1, x2, x3, x4, x5]) := by
    have z0 := o_int0 hz0
    have z1 := o_int0 hz1
    have z2 := o_int0 hz2
    have z3 := o_int0 hz3
    have z4 := o_int0 hz4
    have z5 := o_int0 hz5
    exact Or.inl ⟨rfl, show (((((x0.toInt * 256 + x1.toInt % 256) * 256 + x2.toInt % 256) * 256 + x3.toInt % 256) * 256 + x4.toInt % 256) * 256 + x5.toInt % 256) = 0 from by omega⟩
  exact ⟨_, [], rfl, rfl, hmg, Or.inl lz, Vz⟩
theorem rmM6 (hW : W0 Z a0) (h : Heap) (a : Addr) (x0 x1 x2 x3 x4 x5 : Int32) (V : Av Z h a .byte [.int x0, .int x1, .int x2, .int x3, .int x4, .int x5]) (h0 : x0 < 0) (hB0 : o_B x0) (hB1 : o_B x1) (hB2 : o_B x2) (hB3 : o_B x3) (hB4 : o_B x4) (hB5 : o_B x5) :
    Con l Z o_EL true y_22 c42 11 (some (.array .int)) ⟨0, 1, 2, 0⟩ [] #[.int x0, .ref a, .int 0, .int 6] h [] (fun v h' os' => ∃ m : Addr, ∃ M : List Int32, v = some (.ref m) ∧ os' = [] ∧ o_mg M (-(o_be x0 [x1, x2, x3, x4, x5])) ∧ (m < Z.heap.size ∨ h.size ≤ m) ∧ Av Z h' m .int (List.map Value.int M)) := by
  refine Con.intro (Ls := #[vi x0, vr a, vi 0, vi 6, su, su, su, su, su, su, su]) (by decide +kernel) (o_ew hW) (fun _ => en (by simp [argsToLocals, Value.category])) ?_
  intro k C
  refine iN C d42_0 rfl <| iN C d42_1 rfl <| Go.iadd C d42_2 <| gq 6 rfl <| Go.istore C d42_3 (Ls' := #[vi x0, vr a, vi 0, vi 6, vi 6, su, su, su, su, su, su]) rfl <| Go.iinc C 1 d42_5 rfl rfl (Ls' := #[vi x0, vr a, vi 1, vi 6, vi 6, su, su, su, su, su, su]) rfl <| iN C d42_8 rfl <| ic C (-1) d42_9 (by decide) <| Go.icmpne C d42_10 (fun hm0 => ?_) (fun hm0 => ?_)
  · have hv : (o_be x0 [x1, x2, x3, x4, x5]) = ((((((x0.toInt % 256 - 256) * 256 + x1.toInt % 256) * 256 + x2.toInt % 256) * 256 + x3.toInt % 256) * 256 + x4.toInt % 256) * 256 + x5.toInt % 256) := by
      have z0 := o_lt0 h0
      obtain ⟨u0, v0⟩ := hB0; obtain ⟨u1, v1⟩ := hB1; obtain ⟨u2, v2⟩ := hB2; obtain ⟨u3, v3⟩ := hB3; obtain ⟨u4, v4⟩ := hB4; obtain ⟨u5, v5⟩ := hB5
      show (((((x0.toInt * 256 + x1.toInt % 256) * 256 + x2.toInt % 256) * 256 + x3.toInt % 256) * 256 + x4.toInt % 256) * 256 + x5.toInt % 256) = ((((((x0.toInt % 256 - 256) * 256 + x1.toInt % 256) * 256 + x2.toInt % 256) * 256 + x3.toInt % 256) * 256 + x4.toInt % 256) * 256 + x5.toInt % 256)
      omega
    exact o_lp_M5 hW C (f := 1) V (by decide) rfl rfl rfl rfl rfl hB0 hm0 (o_lt0 h0) hv (fun m M h' q1 q2 q3 => ⟨m, M, rfl, rfl, q1, Or.inr q2, q3⟩)
  refine iN C d42_13 rfl <| il C d42_14 rfl <| icmpgeF C d42_16 (by decide) <| aN C d42_19 rfl <| iN C d42_20 rfl <| Go.iinc C 2 d42_21 rfl rfl (Ls' := #[vi x0, vr a, vi 2, vi 6, vi 6, su, su, su, su, su, su]) rfl <| Go.baload C V 1 (by decide) rfl rfl d42_24 <| Go.istoreN C d42_25 (Ls' := #[vi x1, vr a, vi 2, vi 6, vi 6, su, su, su, su, su, su]) rfl <| Go.goto C d42_26 <| iN C d42_8 rfl <| ic C (-1) d42_9 (by decide) <| Go.icmpne C d42_10 (fun hm1 => ?_) (fun hm1 => ?_)
  · have hv : (o_be x0 [x1, x2, x3, x4, x5]) = (((((x1.toInt % 256 - 256) * 256 + x2.toInt % 256) * 256 + x3.toInt % 256) * 256 + x4.toInt % 256) * 256 + x5.toInt % 256) := by
      have z0 := o_lt0 h0
      have z1 := o_intm hm0
      obtain ⟨u0, v0⟩ := hB0; obtain ⟨u1, v1⟩ := hB1; obtain ⟨u2, v2⟩ := hB2; obtain ⟨u3, v3⟩ := hB3; obtain ⟨u4, v4⟩ := hB4; obtain ⟨u5, v5⟩ := hB5
      show (((((x0.toInt * 256 + x1.toInt % 256) * 256 + x2.toInt % 256) * 256 + x3.toInt % 256) * 256 + x4.toInt % 256) * 256 + x5.toInt % 256) = (((((x1.toInt % 256 - 256) * 256 + x2.toInt % 256) * 256 + x3.toInt % 256) * 256 + x4.toInt % 256) * 256 + x5.toInt % 256)
      omega
    exact o_lp_M4 hW C (f := 2) V (by decide) rfl rfl rfl rfl hB1 hm1 hv (fun m M h' q1 q2 q3 => ⟨m, M, rfl, rfl, q1, Or.inr q2, q3⟩)
  refine iN C d42_13 rfl <| il C d42_14 rfl <| icmpgeF C d42_16 (by decide) <| aN C d42_19 rfl <| iN C d42_20 rfl <| Go.iinc C 3 d42_21 rfl rfl (Ls' := #[vi x1, vr a, vi 3, vi 6, vi 6, su, su, su, su, su, su]) rfl <| Go.baload C V 2 (by decide) rfl rfl d42_24 <| Go.istoreN C d42_25 (Ls' := #[vi x2, vr a, vi 3, vi 6, vi 6, su, su, su, su, su, su]) rfl <| Go.goto C d42_26 <| iN C d42_8 rfl <| ic C (-1) d42_9 (by decide) <| Go.icmpne C d42_10 (fun hm2 => ?_) (fun hm2 => ?_)
  · have hv : (o_be x0 [x1, x2, x3, x4, x5]) = ((((x2.toInt % 256 - 256) * 256 + x3.toInt % 256) * 256 + x4.toInt % 256) * 256 + x5.toInt % 256) := by
      have z0 := o_lt0 h0
      have z1 := o_intm hm0
      have z2 := o_intm hm1
      obtain ⟨u0, v0⟩ := hB0; obtain ⟨u1, v1⟩ := hB1; obtain ⟨u2, v2⟩ := hB2; obtain ⟨u3, v3⟩ := hB3; obtain ⟨u4, v4⟩ := hB4; obtain ⟨u5, v5⟩ := hB5
      show (((((x0.toInt * 256 + x1.toInt % 256) * 256 + x2.toInt % 256) * 256 + x3.toInt % 256) * 256 + x4.toInt % 256) * 256 + x5.toInt % 256) = ((((x2.toInt % 256 - 256) * 256 + x3.toInt % 256) * 256 + x4.toInt % 256) * 256 + x5.toInt % 256)
      omega
    exact o_lp_M3 hW C (f := 3) V (by decide) rfl rfl rfl hv (fun m M h' q1 q2 q3 => ⟨m, M, rfl, rfl, q1, Or.inr q2, q3⟩)
  refine iN C d42_13 rfl <| il C d42_14 rfl <| icmpgeF C d42_16 (by decide) <| aN C d42_19 rfl <| iN C d42_20 rfl <| Go.iinc C 4 d42_21 rfl rfl (Ls' := #[vi x2, vr a, vi 4, vi 6, vi 6, su, su, su, su, su, su]) rfl <| Go.baload C V 3 (by decide) rfl rfl d42_24 <| Go.istoreN C d42_25 (Ls' := #[vi x3, vr a, vi 4, vi 6, vi 6, su, su, su, su, su, su]) rfl <| Go.goto C d42_26 <| iN C d42_8 rfl <| ic C (-1) d42_9 (by decide) <| Go.icmpne C d42_10 (fun hm3 => ?_) (fun hm3 => ?_)
  · have hv : (o_be x0 [x1, x2, x3, x4, x5]) = (((x3.toInt % 256 - 256) * 256 + x4.toInt % 256) * 256 + x5.toInt % 256) := by
      have z0 := o_lt0 h0
      have z1 := o_intm hm0
      have z2 := o_intm hm1
      have z3 := o_intm hm2
      obtain ⟨u0, v0⟩ := hB0; obtain ⟨u1, v1⟩ := hB1; obtain ⟨u2, v2⟩ := hB2; obtain ⟨u3, v3⟩ := hB3; obtain ⟨u4, v4⟩ := hB4; obtain ⟨u5, v5⟩ := hB5
      show (((((x0.toInt * 256 + x1.toInt % 256) * 256 + x2.toInt % 256) * 256 + x3.toInt % 256) * 256 + x4.toInt % 256) * 256 + x5.toInt % 256) = (((x3.toInt % 256 - 256) * 256 + x4.toInt % 256) * 256 + x5.toInt % 256)
      omega
    exact o_lp_M2 hW C (f := 4) V (by decide) rfl rfl hv (fun m M h' q1 q2 q3 => ⟨m, M, rfl, rfl, q1, Or.inr q2, q3⟩)
  refine iN C d42_13 rfl <| il C d42_14 rfl <| icmpgeF C d42_16 (by decide) <| aN C d42_19 rfl <| iN C d42_20 rfl <| Go.iinc C 5 d42_21 rfl rfl (Ls' := #[vi x3, vr a, vi 5, vi 6, vi 6, su, su, su, su, su, su]) rfl <| Go.baload C V 4 (by decide) rfl rfl d42_24 <| Go.istoreN C d42_25 (Ls' := #[vi x4, vr a, vi 5, vi 6, vi 6, su, su, su, su, su, su]) rfl <| Go.goto C d42_26 <| iN C d42_8 rfl <| ic C (-1) d42_9 (by decide) <| Go.icmpne C d42_10 (fun hm4 => ?_) (fun hm4 => ?_)
  · have hv : (o_be x0 [x1, x2, x3, x4, x5]) = ((x4.toInt % 256 - 256) * 256 + x5.toInt % 256) := by
      have z0 := o_lt0 h0
      have z1 := o_intm hm0
      have z2 := o_intm hm1
      have z3 := o_intm hm2
      have z4 := o_intm hm3
      obtain ⟨u0, v0⟩ := hB0; obtain ⟨u1, v1⟩ := hB1; obtain ⟨u2, v2⟩ := hB2; obtain ⟨u3, v3⟩ := hB3; obtain ⟨u4, v4⟩ := hB4; obtain ⟨u5, v5⟩ := hB5
      show (((((x0.toInt * 256 + x1.toInt % 256) * 256 + x2.toInt % 256) * 256 + x3.toInt % 256) * 256 + x4.toInt % 256) * 256 + x5.toInt % 256) = ((x4.toInt % 256 - 256) * 256 + x5.toInt % 256)
      omega
    exact o_lp_M1 hW C (f := 5) V (by decide) rfl hv (fun m M h' q1 q2 q3 => ⟨m, M, rfl, rfl, q1, Or.inr q2, q3⟩)
  refine iN C d42_13 rfl <| il C d42_14 rfl <| icmpgeF C d42_16 (by decide) <| aN C d42_19 rfl <| iN C d42_20 rfl <| Go.iinc C 6 d42_21 rfl rfl (Ls' := #[vi x4, vr a, vi 6, vi 6, vi 6, su, su, su, su, su, su]) rfl <| Go.baload C V 5 (by decide) rfl rfl d42_24 <| Go.istoreN C d42_25 (Ls' := #[vi x5, vr a, vi 6, vi 6, vi 6, su, su, su, su, su, su]) rfl <| Go.goto C d42_26 <| iN C d42_8 rfl <| ic C (-1) d42_9 (by decide) <| Go.icmpne C d42_10 (fun hm5 => ?_) (fun hm5 => ?_)
  · have hv : (o_be x0 [x1, x2, x3, x4, x5]) = (x5.toInt % 256 - 256) := by
      have z0 := o_lt0 h0
      have z1 := o_intm hm0
      have z2 := o_intm hm1
      have z3 := o_intm hm2
      have z4 := o_intm hm3
      have z5 := o_intm hm4
      obtain ⟨u0, v0⟩ := hB0; obtain ⟨u1, v1⟩ := hB1; obtain ⟨u2, v2⟩ := hB2; obtain ⟨u3, v3⟩ := hB3; obtain ⟨u4, v4⟩ := hB4; obtain ⟨u5, v5⟩ := hB5
      show (((((x0.toInt * 256 + x1.toInt % 256) * 256 + x2.toInt % 256) * 256 + x3.toInt % 256) * 256 + x4.toInt % 256) * 256 + x5.toInt % 256) = (x5.toInt % 256 - 256)
      omega
    exact o_lp_M0 hW C (f := 6) V (by decide) hv (fun m M h' q1 q2 q3 => ⟨m, M, rfl, rfl, q1, Or.inr q2, q3⟩)
  refine iN C d42_13 rfl <| il C d42_14 rfl <| icmpgeT C d42_16 (by decide) ?_
  have hv : (o_be x0 [x1, x2, x3, x4, x5]) = (x5.toInt % 256 - 256) := by
    have z0 := o_lt0 h0
    have z1 := o_intm hm0
    have z2 := o_intm hm1
    have z3 := o_intm hm2
    have z4 := o_intm hm3
    have z5 := o_intm hm4
    have z6 := o_intm hm5
    obtain ⟨u0, v0⟩ := hB0; obtain ⟨u1, v1⟩ := hB1; obtain ⟨u2, v2⟩ := hB2; obtain ⟨u3, v3⟩ := hB3; obtain ⟨u4, v4⟩ := hB4; obtain ⟨u5, v5⟩ := hB5
    show (((((x0.toInt * 256 + x1.toInt % 256) * 256 + x2.toInt % 256) * 256 + x3.toInt % 256) * 256 + x4.toInt % 256) * 256 + x5.toInt % 256) = (x5.toInt % 256 - 256)
    omega
  exact o_lp_M0 hW C (f := 6) V (by decide) hv (fun m M h' q1 q2 q3 => ⟨m, M, rfl, rfl, q1, Or.inr q2, q3⟩)
theorem rm25 (hW : W0 Z a0) (h : Heap) (x : Addr) :
    Con l Z o_EL true y_23 c25 1 none ⟨1, 0, 0, 12⟩ [] #[.ref x] h [] (fun v h' os' => v = none ∧ os' = [] ∧ h = h') := by
  refine Con.intro (Ls := #[vr x]) (by decide +kernel) (o_ew hW) (fun _ => en (by simp [argsToLocals, Value.category])) ?_
  intro k C
  refine aN C d25_0 rfl <| Go.initO C (w_148 hW) (w_24 hW) (w_25 hW) d25_1 rfl (by decide) (nb rfl) <| Go.retV C d25_4 (nb rfl) (nb rfl) [] nx ?_
  exact ⟨rfl, rfl, rfl⟩
theorem rm27 (hW : W0 Z a0) (h : Heap) (n : Int32) (hn1 : ¬ ((n ||| 0) ||| n) < 0) (hn2 : ¬ (n - 0) < n) :
    Con l Z o_EL true y_24 c27 4 (some .int) ⟨0, 0, 0, 0⟩ [] #[.int 0, .int n, .int n, .null] h [] (fun v h' os' => v = some (.int 0) ∧ os' = [] ∧ h = h') := by
  refine Con.intro (Ls := #[vi 0, vi n, vi n, .val .null]) (by decide +kernel) (o_ew hW) (fun _ => en (by simp [argsToLocals, Value.category])) ?_
  intro k C
  refine iN C d27_0 rfl <| iN C d27_1 rfl <| Go.ior C d27_2 <| iN C d27_3 rfl <| Go.ior C d27_4 <| Go.iflt C d27_5 (fun hc5 => absurd hc5 hn1) (fun hc5 => ?_)
  refine iN C d27_8 rfl <| iN C d27_9 rfl <| iN C d27_10 rfl <| Go.isub C d27_11 <| Go.icmple C d27_12 (fun hc12 => ?_) (fun hc12 => absurd hc12 hn2)
  refine iN C d27_23 rfl <| Go.ireturn C d27_24 (nb rfl) (nb rfl) (by simp) rfl [] nx ?_
  exact ⟨rfl, rfl, rfl⟩
theorem rm26 (hW : W0 Z a0) (h : Heap) (n : Int32) (hn1 : ¬ ((n ||| 0) ||| n) < 0) (hn2 : ¬ (n - 0) < n) :
    Con l Z o_EL true y_25 c26 3 (some .int) ⟨1, 0, 0, 15⟩ [] #[.int 0, .int n, .int n] h [] (fun v h' os' => v = some (.int 0) ∧ os' = [] ∧ h = h') := by
  refine Con.intro (Ls := #[vi 0, vi n, vi n]) (by decide +kernel) (o_ew hW) (fun _ => en (by simp [argsToLocals, Value.category])) ?_
  intro k C
  refine iN C d26_0 rfl <| iN C d26_1 rfl <| iN C d26_2 rfl <| Go.aconstNull C d26_3 <| Go.callS C (z := y_24) (argsL := [.int 0, .int n, .int n, .null]) (rm27 hW h n hn1 hn2) (w_152 hW) (w_153 hW) (w_154 hW) (w_155 hW) d26_4 pd_14 rfl (by decide) rfl (st := []) rfl (by decide) (nb rfl) (by decide) (by decide) nx (fun _ _ _ q4 _ _ => ?_)
  obtain ⟨rfl, rfl, rfl⟩ := q4
  show Go k _ _ _ _ _ _ [.int 0]
  refine Go.ireturn C d26_7 (nb rfl) (nb rfl) (by simp) rfl [] nx ?_
  exact ⟨rfl, rfl, rfl⟩
theorem o_lp_I {k : KT} {l : Launch} {Z : State} {a0 : Array Value} (hW : W0 Z a0) {h0 : Heap} {o a m : Addr} {M : List Int32} {h : Heap} {f0 len x0 : Int32} {kk : Int} {QQ : QT}
    (C : Ctx k l y_26 c24 5 none ⟨2, 1, 2, 45⟩ Z a0 o_EL true [o] h0 QQ) (O : Obj Z h o "java/math/BigInteger" f_3 [.null, .int 0, .int 0, .int 0]) (V : Av Z h m .int (List.map Value.int M)) (nmo : m ≠ o) (hmg : o_mg M kk) (hQ : ∀ (s : Int32) (h' : Heap), o_bi s M kk → Obj Z h' o "java/math/BigInteger" f_3 [.ref m, .int s, .int 0, .int 0] → Av Z h' m .int (List.map Value.int M) → QQ none h' []) :
    Go k h [o] 1 2 91 #[vr o, vr a, vi f0, vi len, vi x0] [.ref m, .ref o] := by
  rcases hmg with ⟨rfl, hk⟩ | ⟨m0, rfl, hm0, hk⟩ | ⟨p0, m0, rfl, hp1, hp2, hk⟩
  · have V : Av Z h m .int [] := V
    refine Go.putF C O (mi 0 rfl) 0 rfl (w_160 hW) Via.refl (Or.inr ⟨w_161 hW, rfl, rfl⟩) (w_133 hW) (fl_3 hW) nd_3 (ty := (.array .int)) (by decide +kernel) (v' := (.ref m)) rfl rfl (vs' := [.ref m, .int 0, .int 0, .int 0]) rfl d24_91 (fun h1 K2 O => ?_)
    replace V := V.keep K2 (ninS nmo nin0)
    refine aN C d24_94 rfl <| aN C d24_95 rfl <| gF C O 0 rfl rfl (w_160 hW) d24_96 <| Go.arraylength C V (0 : Int32) rfl d24_99 <| ifneF C d24_100 (by decide) <| ic C 0 d24_103 rfl <| Go.goto C d24_104 <| Go.putF C O (mi 0 rfl) 1 rfl (w_162 hW) Via.refl (Or.inr ⟨w_163 hW, rfl, rfl⟩) (w_133 hW) (fl_3 hW) nd_3 (ty := .int) (by decide +kernel) (v' := (.int 0)) rfl rfl (vs' := [.ref m, .int 0, .int 0, .int 0]) rfl d24_108 (fun h3 K4 O => ?_)
    replace V := V.keep K4 (ninS nmo nin0)
    refine aN C d24_111 rfl <| gF C O 0 rfl rfl (w_160 hW) d24_112 <| Go.arraylength C V (0 : Int32) rfl d24_115 <| Go.ldcI C (w_164 hW) d24_116 <| icmpltT C d24_118 (by decide) <| Go.retV C d24_125 (nb rfl) (nb rfl) [] nx ?_
    exact hQ (0 : Int32) _ (Or.inl ⟨rfl, rfl, hk⟩) O V
  · have V : Av Z h m .int [.int m0] := V
    refine Go.putF C O (mi 0 rfl) 0 rfl (w_160 hW) Via.refl (Or.inr ⟨w_161 hW, rfl, rfl⟩) (w_133 hW) (fl_3 hW) nd_3 (ty := (.array .int)) (by decide +kernel) (v' := (.ref m)) rfl rfl (vs' := [.ref m, .int 0, .int 0, .int 0]) rfl d24_91 (fun h5 K6 O => ?_)
    replace V := V.keep K6 (ninS nmo nin0)
    refine aN C d24_94 rfl <| aN C d24_95 rfl <| gF C O 0 rfl rfl (w_160 hW) d24_96 <| Go.arraylength C V (1 : Int32) rfl d24_99 <| ifneT C d24_100 (by decide) <| ic C 1 d24_107 rfl <| Go.putF C O (mi 0 rfl) 1 rfl (w_162 hW) Via.refl (Or.inr ⟨w_163 hW, rfl, rfl⟩) (w_133 hW) (fl_3 hW) nd_3 (ty := .int) (by decide +kernel) (v' := (.int 1)) rfl rfl (vs' := [.ref m, .int 1, .int 0, .int 0]) rfl d24_108 (fun h7 K8 O => ?_)
    replace V := V.keep K8 (ninS nmo nin0)
    refine aN C d24_111 rfl <| gF C O 0 rfl rfl (w_160 hW) d24_112 <| Go.arraylength C V (1 : Int32) rfl d24_115 <| Go.ldcI C (w_164 hW) d24_116 <| icmpltT C d24_118 (by decide) <| Go.retV C d24_125 (nb rfl) (nb rfl) [] nx ?_
    exact hQ (1 : Int32) _ (Or.inr (Or.inl ⟨m0, rfl, rfl, hm0, hk⟩)) O V
  have V : Av Z h m .int [.int p0, .int m0] := V
  refine Go.putF C O (mi 0 rfl) 0 rfl (w_160 hW) Via.refl (Or.inr ⟨w_161 hW, rfl, rfl⟩) (w_133 hW) (fl_3 hW) nd_3 (ty := (.array .int)) (by decide +kernel) (v' := (.ref m)) rfl rfl (vs' := [.ref m, .int 0, .int 0, .int 0]) rfl d24_91 (fun h9 K10 O => ?_)
  replace V := V.keep K10 (ninS nmo nin0)
  refine aN C d24_94 rfl <| aN C d24_95 rfl <| gF C O 0 rfl rfl (w_160 hW) d24_96 <| Go.arraylength C V (2 : Int32) rfl d24_99 <| ifneT C d24_100 (by decide) <| ic C 1 d24_107 rfl <| Go.putF C O (mi 0 rfl) 1 rfl (w_162 hW) Via.refl (Or.inr ⟨w_163 hW, rfl, rfl⟩) (w_133 hW) (fl_3 hW) nd_3 (ty := .int) (by decide +kernel) (v' := (.int 1)) rfl rfl (vs' := [.ref m, .int 1, .int 0, .int 0]) rfl d24_108 (fun h11 K12 O => ?_)
  replace V := V.keep K12 (ninS nmo nin0)
  refine aN C d24_111 rfl <| gF C O 0 rfl rfl (w_160 hW) d24_112 <| Go.arraylength C V (2 : Int32) rfl d24_115 <| Go.ldcI C (w_164 hW) d24_116 <| icmpltT C d24_118 (by decide) <| Go.retV C d24_125 (nb rfl) (nb rfl) [] nx ?_
  exact hQ (1 : Int32) _ (Or.inr (Or.inr (Or.inl ⟨p0, m0, rfl, rfl, hp1, hp2, hk⟩))) O V
theorem o_lp_K {k : KT} {l : Launch} {Z : State} {a0 : Array Value} (hW : W0 Z a0) {h0 : Heap} {o a m : Addr} {M : List Int32} {h : Heap} {f0 len x0 : Int32} {kk : Int} {QQ : QT}
    (C : Ctx k l y_26 c24 5 none ⟨2, 1, 2, 45⟩ Z a0 o_EL true [o] h0 QQ) (O : Obj Z h o "java/math/BigInteger" f_3 [.null, .int 0, .int 0, .int 0]) (V : Av Z h m .int (List.map Value.int M)) (nmo : m ≠ o) (hmg : o_mg M (-kk)) (hneg : kk < 0) (hQ : ∀ (s : Int32) (h' : Heap), o_bi s M kk → Obj Z h' o "java/math/BigInteger" f_3 [.ref m, .int s, .int 0, .int 0] → Av Z h' m .int (List.map Value.int M) → QQ none h' []) :
    Go k h [o] 1 2 71 #[vr o, vr a, vi f0, vi len, vi x0] [.ref m, .ref o] := by
  rcases hmg with ⟨rfl, hk⟩ | ⟨m0, rfl, hm0, hk⟩ | ⟨p0, m0, rfl, hp1, hp2, hk⟩
  · omega
  · have V : Av Z h m .int [.int m0] := V
    refine Go.putF C O (mi 0 rfl) 0 rfl (w_160 hW) Via.refl (Or.inr ⟨w_161 hW, rfl, rfl⟩) (w_133 hW) (fl_3 hW) nd_3 (ty := (.array .int)) (by decide +kernel) (v' := (.ref m)) rfl rfl (vs' := [.ref m, .int 0, .int 0, .int 0]) rfl d24_71 (fun h1 K2 O => ?_)
    replace V := V.keep K2 (ninS nmo nin0)
    refine aN C d24_74 rfl <| ic C (-1) d24_75 (by decide) <| Go.putF C O (mi 0 rfl) 1 rfl (w_162 hW) Via.refl (Or.inr ⟨w_163 hW, rfl, rfl⟩) (w_133 hW) (fl_3 hW) nd_3 (ty := .int) (by decide +kernel) (v' := (.int (-1))) rfl rfl (vs' := [.ref m, .int (-1), .int 0, .int 0]) rfl d24_76 (fun h3 K4 O => ?_)
    replace V := V.keep K4 (ninS nmo nin0)
    refine Go.goto C d24_79 <| aN C d24_111 rfl <| gF C O 0 rfl rfl (w_160 hW) d24_112 <| Go.arraylength C V (1 : Int32) rfl d24_115 <| Go.ldcI C (w_164 hW) d24_116 <| icmpltT C d24_118 (by decide) <| Go.retV C d24_125 (nb rfl) (nb rfl) [] nx ?_
    exact hQ (-1 : Int32) _ (Or.inr (Or.inr (Or.inr (Or.inl ⟨m0, rfl, rfl, hm0, by omega⟩)))) O V
  have V : Av Z h m .int [.int p0, .int m0] := V
  refine Go.putF C O (mi 0 rfl) 0 rfl (w_160 hW) Via.refl (Or.inr ⟨w_161 hW, rfl, rfl⟩) (w_133 hW) (fl_3 hW) nd_3 (ty := (.array .int)) (by decide +kernel) (v' := (.ref m)) rfl rfl (vs' := [.ref m, .int 0, .int 0, .int 0]) rfl d24_71 (fun h5 K6 O => ?_)
  replace V := V.keep K6 (ninS nmo nin0)
  refine aN C d24_74 rfl <| ic C (-1) d24_75 (by decide) <| Go.putF C O (mi 0 rfl) 1 rfl (w_162 hW) Via.refl (Or.inr ⟨w_163 hW, rfl, rfl⟩) (w_133 hW) (fl_3 hW) nd_3 (ty := .int) (by decide +kernel) (v' := (.int (-1))) rfl rfl (vs' := [.ref m, .int (-1), .int 0, .int 0]) rfl d24_76 (fun h7 K8 O => ?_)
  replace V := V.keep K8 (ninS nmo nin0)
  refine Go.goto C d24_79 <| aN C d24_111 rfl <| gF C O 0 rfl rfl (w_160 hW) d24_112 <| Go.arraylength C V (2 : Int32) rfl d24_115 <| Go.ldcI C (w_164 hW) d24_116 <| icmpltT C d24_118 (by decide) <| Go.retV C d24_125 (nb rfl) (nb rfl) [] nx ?_
  exact hQ (-1 : Int32) _ (Or.inr (Or.inr (Or.inr (Or.inr ⟨p0, m0, rfl, rfl, hp1, hp2, by omega⟩)))) O V
theorem rmI1 (hW : W0 Z a0) (h : Heap) (o a zz zm : Addr) (x0 : Int32) (O : Obj Z h o "java/math/BigInteger" f_3 [.null, .int 0, .int 0, .int 0]) (V : Av Z h a .byte [.int x0]) (hSZ : o_SZ Z zz zm) (hB0 : o_B x0) (hao : a ≠ o) :
    Con l Z o_EL true y_26 c24 5 none ⟨2, 1, 2, 45⟩ [] #[.ref o, .ref a, .int 0, .int 1] h [o] (fun v h' os' => ∃ m : Addr, ∃ s : Int32, ∃ M : List Int32, v = none ∧ os' = [] ∧ o_bi s M (o_be x0 []) ∧ (m < Z.heap.size ∨ h.size ≤ m) ∧ Obj Z h' o "java/math/BigInteger" f_3 [.ref m, .int s, .int 0, .int 0] ∧ Av Z h' m .int (List.map Value.int M)) := by
  refine Con.intro (Ls := #[vr o, vr a, vi 0, vi 1, su]) (by decide +kernel) (o_ew hW) (fun _ => en (by simp [argsToLocals, Value.category])) ?_
  intro k C
  have lo := O.lt
  refine Go.ownd C (fun OW => ?_)
  have zo := OW o (mi 0 rfl)
  refine aN C d24_0 rfl <| Go.callI C (z := y_23) (a := o) (argsL := []) (rm25 hW h o) rfl (w_142 hW) (w_143 hW) (w_146 hW) (w_147 hW) d24_1 pd_15 rfl (by decide) rfl (st := []) rfl (by decide) (nb rfl) (by decide) (by decide) nx (fun _ _ _ q4 _ _ => ?_)
  obtain ⟨rfl, rfl, rfl⟩ := q4
  show Go k _ _ _ _ _ _ []
  refine aN C d24_4 rfl <| Go.arraylength C V (1 : Int32) rfl d24_5 <| ifneT C d24_6 (by decide) <| iN C d24_19 rfl <| iN C d24_20 rfl <| aN C d24_21 rfl <| Go.arraylength C V (1 : Int32) rfl d24_22 <| Go.callS C (z := y_25) (argsL := [.int 0, .int 1, .int 1]) (rm26 hW h ((1 : Int32)) (by decide) (by decide)) (w_149 hW) (w_150 hW) (w_61 hW) (w_151 hW) d24_23 pd_16 rfl (by decide) rfl (st := []) rfl (by decide) (nb rfl) (by decide) (by decide) nx (fun _ _ _ q10 _ _ => ?_)
  obtain ⟨rfl, rfl, rfl⟩ := q10
  show Go k _ _ _ _ _ _ [.int 0]
  refine Go.pop C d24_26 rfl <| iN C d24_27 rfl <| ifneT C d24_28 (by decide) <| aN C d24_52 rfl <| iN C d24_53 rfl <| Go.baload C V 0 (by decide) rfl rfl d24_54 <| Go.istore C d24_55 (Ls' := #[vr o, vr a, vi 0, vi 1, vi x0]) rfl <| il C d24_57 rfl <| Go.ifge C d24_59 (fun hsg => ?_) (fun hsg => ?_)
  · refine aN C d24_82 rfl <| il C d24_83 rfl <| aN C d24_85 rfl <| iN C d24_86 rfl <| iN C d24_87 rfl <| Go.callS C (z := y_21) (argsL := [.int x0, .ref a, .int 0, .int 1]) (rmS1 hW h a zz zm x0 V hSZ hsg hB0) (w_156 hW) (w_157 hW) (w_134 hW) (w_158 hW) d24_88 pd_17 rfl (by decide) rfl (st := [.ref o]) rfl (by decide) (nb rfl) (by decide) (by decide) nx (fun _ _ _ q16 K17 _ => ?_)
    obtain ⟨m19, M20, rfl, rfl, p21, p22, F23⟩ := q16
    replace O := O.k0 K17
    replace V := V.k0 K17
    show Go k _ _ _ _ _ _ [.ref m19, .ref o]
    exact o_lp_I hW C O F23 (o_mne p22 zo lo) p21 (fun s h' q1 q2 q3 => ⟨m19, s, M20, rfl, rfl, q1, p22, q2, q3⟩)
  refine aN C d24_62 rfl <| il C d24_63 rfl <| aN C d24_65 rfl <| iN C d24_66 rfl <| iN C d24_67 rfl <| Go.callS C (z := y_22) (argsL := [.int x0, .ref a, .int 0, .int 1]) (rmM1 hW h a x0 V hsg hB0) (w_242 hW) (w_243 hW) (w_134 hW) (w_244 hW) d24_68 pd_17 rfl (by decide) rfl (st := [.ref o]) rfl (by decide) (nb rfl) (by decide) (by decide) nx (fun _ _ _ q27 K28 _ => ?_)
  obtain ⟨m30, M31, rfl, rfl, p32, p33, F34⟩ := q27
  replace O := O.k0 K28
  show Go k _ _ _ _ _ _ [.ref m30, .ref o]
  have hq : (o_be x0 []) < 0 := by
    have z0 := o_lt0 hsg
    show x0.toInt < 0
    omega
  exact o_lp_K hW C O F34 (o_mne p33 zo lo) p32 hq (fun s h' q1 q2 q3 => ⟨m30, s, M31, rfl, rfl, q1, p33, q2, q3⟩)
theorem rmJ1 (hW : W0 Z a0) (h : Heap) (o a zz zm : Addr) (x0 : Int32) (O : Obj Z h o "java/math/BigInteger" f_3 [.null, .int 0, .int 0, .int 0]) (V : Av Z h a .byte [.int x0]) (hSZ : o_SZ Z zz zm) (hB0 : o_B x0) (hao : a ≠ o) :
    Con l Z o_EL true y_27 c23 2 none ⟨3, 1, 2, 65⟩ [] #[.ref o, .ref a] h [o] (fun v h' os' => ∃ m : Addr, ∃ s : Int32, ∃ M : List Int32, v = none ∧ os' = [] ∧ o_bi s M (o_be x0 []) ∧ (m < Z.heap.size ∨ h.size ≤ m) ∧ Obj Z h' o "java/math/BigInteger" f_3 [.ref m, .int s, .int 0, .int 0] ∧ Av Z h' m .int (List.map Value.int M)) := by
  refine Con.intro (Ls := #[vr o, vr a]) (by decide +kernel) (o_ew hW) (fun _ => en (by simp [argsToLocals, Value.category])) ?_
  intro k C
  refine aN C d23_0 rfl <| aN C d23_1 rfl <| ic C 0 d23_2 rfl <| aN C d23_3 rfl <| Go.arraylength C V (1 : Int32) rfl d23_4 <| Go.callI C (z := y_26) (a := o) (argsL := [.ref a, .int 0, .int 1]) (rmI1 hW h o a zz zm x0 O V hSZ hB0 hao) rfl (w_138 hW) (w_139 hW) (w_134 hW) (w_141 hW) d23_5 pd_18 rfl (by decide) rfl (st := []) rfl (by decide) (nb rfl) (by decide) (by decide) (fm ⟨(mi 0 rfl), nx⟩) (fun _ _ _ q4 _ _ => ?_)
  obtain ⟨m7, s8, M9, rfl, rfl, p10, p11, F12, F13⟩ := q4
  show Go k _ _ _ _ _ _ []
  refine Go.retV C d23_8 (nb rfl) (nb rfl) [] nx ?_
  exact ⟨_, _, _, rfl, rfl, p10, p11, F12, F13⟩
theorem rmI2 (hW : W0 Z a0) (h : Heap) (o a zz zm : Addr) (x0 x1 : Int32) (O : Obj Z h o "java/math/BigInteger" f_3 [.null, .int 0, .int 0, .int 0]) (V : Av Z h a .byte [.int x0, .int x1]) (hSZ : o_SZ Z zz zm) (hB0 : o_B x0) (hB1 : o_B x1) (hao : a ≠ o) :
    Con l Z o_EL true y_26 c24 5 none ⟨2, 1, 2, 45⟩ [] #[.ref o, .ref a, .int 0, .int 2] h [o] (fun v h' os' => ∃ m : Addr, ∃ s : Int32, ∃ M : List Int32, v = none ∧ os' = [] ∧ o_bi s M (o_be x0 [x1]) ∧ (m < Z.heap.size ∨ h.size ≤ m) ∧ Obj Z h' o "java/math/BigInteger" f_3 [.ref m, .int s, .int 0, .int 0] ∧ Av Z h' m .int (List.map Value.int M)) := by
  refine Con.intro (Ls := #[vr o, vr a, vi 0, vi 2, su]) (by decide +kernel) (o_ew hW) (fun _ => en (by simp [argsToLocals, Value.category])) ?_
  intro k C
  have lo := O.lt
  refine Go.ownd C (fun OW => ?_)
  have zo := OW o (mi 0 rfl)
  refine aN C d24_0 rfl <| Go.callI C (z := y_23) (a := o) (argsL := []) (rm25 hW h o) rfl (w_142 hW) (w_143 hW) (w_146 hW) (w_147 hW) d24_1 pd_15 rfl (by decide) rfl (st := []) rfl (by decide) (nb rfl) (by decide) (by decide) nx (fun _ _ _ q4 _ _ => ?_)
  obtain ⟨rfl, rfl, rfl⟩ := q4
  show Go k _ _ _ _ _ _ []
  refine aN C d24_4 rfl <| Go.arraylength C V (2 : Int32) rfl d24_5 <| ifneT C d24_6 (by decide) <| iN C d24_19 rfl <| iN C d24_20 rfl <| aN C d24_21 rfl <| Go.arraylength C V (2 : Int32) rfl d24_22 <| Go.callS C (z := y_25) (argsL := [.int 0, .int 2, .int 2]) (rm26 hW h ((2 : Int32)) (by decide) (by decide)) (w_149 hW) (w_150 hW) (w_61 hW) (w_151 hW) d24_23 pd_16 rfl (by decide) rfl (st := []) rfl (by decide) (nb rfl) (by decide) (by decide) nx (fun _ _ _ q10 _ _ => ?_)
  obtain ⟨rfl, rfl, rfl⟩ := q10
  show Go k _ _ _ _ _ _ [.int 0]
  refine Go.pop C d24_26 rfl <| iN C d24_27 rfl <| ifneT C d24_28 (by decide) <| aN C d24_52 rfl <| iN C d24_53 rfl <| Go.baload C V 0 (by decide) rfl rfl d24_54 <| Go.istore C d24_55 (Ls' := #[vr o, vr a, vi 0, vi 2, vi x0]) rfl <| il C d24_57 rfl <| Go.ifge C d24_59 (fun hsg => ?_) (fun hsg => ?_)
  · refine aN C d24_82 rfl <| il C d24_83 rfl <| aN C d24_85 rfl <| iN C d24_86 rfl <| iN C d24_87 rfl <| Go.callS C (z := y_21) (argsL := [.int x0, .ref a, .int 0, .int 2]) (rmS2 hW h a zz zm x0 x1 V hSZ hsg hB0 hB1) (w_156 hW) (w_157 hW) (w_134 hW) (w_158 hW) d24_88 pd_17 rfl (by decide) rfl (st := [.ref o]) rfl (by decide) (nb rfl) (by decide) (by decide) nx (fun _ _ _ q16 K17 _ => ?_)
    obtain ⟨m19, M20, rfl, rfl, p21, p22, F23⟩ := q16
    replace O := O.k0 K17
    replace V := V.k0 K17
    show Go k _ _ _ _ _ _ [.ref m19, .ref o]
    exact o_lp_I hW C O F23 (o_mne p22 zo lo) p21 (fun s h' q1 q2 q3 => ⟨m19, s, M20, rfl, rfl, q1, p22, q2, q3⟩)
  refine aN C d24_62 rfl <| il C d24_63 rfl <| aN C d24_65 rfl <| iN C d24_66 rfl <| iN C d24_67 rfl <| Go.callS C (z := y_22) (argsL := [.int x0, .ref a, .int 0, .int 2]) (rmM2 hW h a x0 x1 V hsg hB0 hB1) (w_242 hW) (w_243 hW) (w_134 hW) (w_244 hW) d24_68 pd_17 rfl (by decide) rfl (st := [.ref o]) rfl (by decide) (nb rfl) (by decide) (by decide) nx (fun _ _ _ q27 K28 _ => ?_)
  obtain ⟨m30, M31, rfl, rfl, p32, p33, F34⟩ := q27
  replace O := O.k0 K28
  show Go k _ _ _ _ _ _ [.ref m30, .ref o]
  have hq : (o_be x0 [x1]) < 0 := by
    have z0 := o_lt0 hsg
    show (x0.toInt * 256 + x1.toInt % 256) < 0
    omega
  exact o_lp_K hW C O F34 (o_mne p33 zo lo) p32 hq (fun s h' q1 q2 q3 => ⟨m30, s, M31, rfl, rfl, q1, p33, q2, q3⟩)
theorem rmJ2 (hW : W0 Z a0) (h : Heap) (o a zz zm : Addr) (x0 x1 : Int32) (O : Obj Z h o "java/math/BigInteger" f_3 [.null, .int 0, .int 0, .int 0]) (V : Av Z h a .byte [.int x0, .int x1]) (hSZ : o_SZ Z zz zm) (hB0 : o_B x0) (hB1 : o_B x1) (hao : a ≠ o) :
    Con l Z o_EL true y_27 c23 2 none ⟨3, 1, 2, 65⟩ [] #[.ref o, .ref a] h [o] (fun v h' os' => ∃ m : Addr, ∃ s : Int32, ∃ M : List Int32, v = none ∧ os' = [] ∧ o_bi s M (o_be x0 [x1]) ∧ (m < Z.heap.size ∨ h.size ≤ m) ∧ Obj Z h' o "java/math/BigInteger" f_3 [.ref m, .int s, .int 0, .int 0] ∧ Av Z h' m .int (List.map Value.int M)) := by
  refine Con.intro (Ls := #[vr o, vr a]) (by decide +kernel) (o_ew hW) (fun _ => en (by simp [argsToLocals, Value.category])) ?_
  intro k C
  refine aN C d23_0 rfl <| aN C d23_1 rfl <| ic C 0 d23_2 rfl <| aN C d23_3 rfl <| Go.arraylength C V (2 : Int32) rfl d23_4 <| Go.callI C (z := y_26) (a := o) (argsL := [.ref a, .int 0, .int 2]) (rmI2 hW h o a zz zm x0 x1 O V hSZ hB0 hB1 hao) rfl (w_138 hW) (w_139 hW) (w_134 hW) (w_141 hW) d23_5 pd_18 rfl (by decide) rfl (st := []) rfl (by decide) (nb rfl) (by decide) (by decide) (fm ⟨(mi 0 rfl), nx⟩) (fun _ _ _ q4 _ _ => ?_)
  obtain ⟨m7, s8, M9, rfl, rfl, p10, p11, F12, F13⟩ := q4
  show Go k _ _ _ _ _ _ []
  refine Go.retV C d23_8 (nb rfl) (nb rfl) [] nx ?_
  exact ⟨_, _, _, rfl, rfl, p10, p11, F12, F13⟩
theorem rmI3 (hW : W0 Z a0) (h : Heap) (o a zz zm : Addr) (x0 x1 x2 : Int32) (O : Obj Z h o "java/math/BigInteger" f_3 [.null, .int 0, .int 0, .int 0]) (V : Av Z h a .byte [.int x0, .int x1, .int x2]) (hSZ : o_SZ Z zz zm) (hB0 : o_B x0) (hB1 : o_B x1) (hB2 : o_B x2) (hao : a ≠ o) :
    Con l Z o_EL true y_26 c24 5 none ⟨2, 1, 2, 45⟩ [] #[.ref o, .ref a, .int 0, .int 3] h [o] (fun v h' os' => ∃ m : Addr, ∃ s : Int32, ∃ M : List Int32, v = none ∧ os' = [] ∧ o_bi s M (o_be x0 [x1, x2]) ∧ (m < Z.heap.size ∨ h.size ≤ m) ∧ Obj Z h' o "java/math/BigInteger" f_3 [.ref m, .int s, .int 0, .int 0] ∧ Av Z h' m .int (List.map Value.int M)) := by
  refine Con.intro (Ls := #[vr o, vr a, vi 0, vi 3, su]) (by decide +kernel) (o_ew hW) (fun _ => en (by simp [argsToLocals, Value.category])) ?_
  intro k C
  have lo := O.lt
  refine Go.ownd C (fun OW => ?_)
  have zo := OW o (mi 0 rfl)
  refine aN C d24_0 rfl <| Go.callI C (z := y_23) (a := o) (argsL := []) (rm25 hW h o) rfl (w_142 hW) (w_143 hW) (w_146 hW) (w_147 hW) d24_1 pd_15 rfl (by decide) rfl (st := []) rfl (by decide) (nb rfl) (by decide) (by decide) nx (fun _ _ _ q4 _ _ => ?_)
  obtain ⟨rfl, rfl, rfl⟩ := q4
  show Go k _ _ _ _ _ _ []
  refine aN C d24_4 rfl <| Go.arraylength C V (3 : Int32) rfl d24_5 <| ifneT C d24_6 (by decide) <| iN C d24_19 rfl <| iN C d24_20 rfl <| aN C d24_21 rfl <| Go.arraylength C V (3 : Int32) rfl d24_22 <| Go.callS C (z := y_25) (argsL := [.int 0, .int 3, .int 3]) (rm26 hW h ((3 : Int32)) (by decide) (by decide)) (w_149 hW) (w_150 hW) (w_61 hW) (w_151 hW) d24_23 pd_16 rfl (by decide) rfl (st := []) rfl (by decide) (nb rfl) (by decide) (by decide) nx (fun _ _ _ q10 _ _ => ?_)
  obtain ⟨rfl, rfl, rfl⟩ := q10
  show Go k _ _ _ _ _ _ [.int 0]
  refine Go.pop C d24_26 rfl <| iN C d24_27 rfl <| ifneT C d24_28 (by decide) <| aN C d24_52 rfl <| iN C d24_53 rfl <| Go.baload C V 0 (by decide) rfl rfl d24_54 <| Go.istore C d24_55 (Ls' := #[vr o, vr a, vi 0, vi 3, vi x0]) rfl <| il C d24_57 rfl <| Go.ifge C d24_59 (fun hsg => ?_) (fun hsg => ?_)
  · refine aN C d24_82 rfl <| il C d24_83 rfl <| aN C d24_85 rfl <| iN C d24_86 rfl <| iN C d24_87 rfl <| Go.callS C (z := y_21) (argsL := [.int x0, .ref a, .int 0, .int 3]) (rmS3 hW h a zz zm x0 x1 x2 V hSZ hsg hB0 hB1 hB2) (w_156 hW) (w_157 hW) (w_134 hW) (w_158 hW) d24_88 pd_17 rfl (by decide) rfl (st := [.ref o]) rfl (by decide) (nb rfl) (by decide) (by decide) nx (fun _ _ _ q16 K17 _ => ?_)
    obtain ⟨m19, M20, rfl, rfl, p21, p22, F23⟩ := q16
    replace O := O.k0 K17
    replace V := V.k0 K17
    show Go k _ _ _ _ _ _ [.ref m19, .ref o]
    exact o_lp_I hW C O F23 (o_mne p22 zo lo) p21 (fun s h' q1 q2 q3 => ⟨m19, s, M20, rfl, rfl, q1, p22, q2, q3⟩)
  refine aN C d24_62 rfl <| il C d24_63 rfl <| aN C d24_65 rfl <| iN C d24_66 rfl <| iN C d24_67 rfl <| Go.callS C (z := y_22) (argsL := [.int x0, .ref a, .int 0, .int 3]) (rmM3 hW h a x0 x1 x2 V hsg hB0 hB1 hB2) (w_242 hW) (w_243 hW) (w_134 hW) (w_244 hW) d24_68 pd_17 rfl (by decide) rfl (st := [.ref o]) rfl (by decide) (nb rfl) (by decide) (by decide) nx (fun _ _ _ q27 K28 _ => ?_)
  obtain ⟨m30, M31, rfl, rfl, p32, p33, F34⟩ := q27
  replace O := O.k0 K28
  show Go k _ _ _ _ _ _ [.ref m30, .ref o]
  have hq : (o_be x0 [x1, x2]) < 0 := by
    have z0 := o_lt0 hsg
    show ((x0.toInt * 256 + x1.toInt % 256) * 256 + x2.toInt % 256) < 0
    omega
  exact o_lp_K hW C O F34 (o_mne p33 zo lo) p32 hq (fun s h' q1 q2 q3 => ⟨m30, s, M31, rfl, rfl, q1, p33, q2, q3⟩)
theorem rmJ3 (hW : W0 Z a0) (h : Heap) (o a zz zm : Addr) (x0 x1 x2 : Int32) (O : Obj Z h o "java/math/BigInteger" f_3 [.null, .int 0, .int 0, .int 0]) (V : Av Z h a .byte [.int x0, .int x1, .int x2]) (hSZ : o_SZ Z zz zm) (hB0 : o_B x0) (hB1 : o_B x1) (hB2 : o_B x2) (hao : a ≠ o) :
    Con l Z o_EL true y_27 c23 2 none ⟨3, 1, 2, 65⟩ [] #[.ref o, .ref a] h [o] (fun v h' os' => ∃ m : Addr, ∃ s : Int32, ∃ M : List Int32, v = none ∧ os' = [] ∧ o_bi s M (o_be x0 [x1, x2]) ∧ (m < Z.heap.size ∨ h.size ≤ m) ∧ Obj Z h' o "java/math/BigInteger" f_3 [.ref m, .int s, .int 0, .int 0] ∧ Av Z h' m .int (List.map Value.int M)) := by
  refine Con.intro (Ls := #[vr o, vr a]) (by decide +kernel) (o_ew hW) (fun _ => en (by simp [argsToLocals, Value.category])) ?_
  intro k C
  refine aN C d23_0 rfl <| aN C d23_1 rfl <| ic C 0 d23_2 rfl <| aN C d23_3 rfl <| Go.arraylength C V (3 : Int32) rfl d23_4 <| Go.callI C (z := y_26) (a := o) (argsL := [.ref a, .int 0, .int 3]) (rmI3 hW h o a zz zm x0 x1 x2 O V hSZ hB0 hB1 hB2 hao) rfl (w_138 hW) (w_139 hW) (w_134 hW) (w_141 hW) d23_5 pd_18 rfl (by decide) rfl (st := []) rfl (by decide) (nb rfl) (by decide) (by decide) (fm ⟨(mi 0 rfl), nx⟩) (fun _ _ _ q4 _ _ => ?_)
  obtain ⟨m7, s8, M9, rfl, rfl, p10, p11, F12, F13⟩ := q4
  show Go k _ _ _ _ _ _ []
  refine Go.retV C d23_8 (nb rfl) (nb rfl) [] nx ?_
  exact ⟨_, _, _, rfl, rfl, p10, p11, F12, F13⟩
theorem rmI4 (hW : W0 Z a0) (h : Heap) (o a zz zm : Addr) (x0 x1 x2 x3 : Int32) (O : Obj Z h o "java/math/BigInteger" f_3 [.null, .int 0, .int 0, .int 0]) (V : Av Z h a .byte [.int x0, .int x1, .int x2, .int x3]) (hSZ : o_SZ Z zz zm) (hB0 : o_B x0) (hB1 : o_B x1) (hB2 : o_B x2) (hB3 : o_B x3) (hao : a ≠ o) :
    Con l Z o_EL true y_26 c24 5 none ⟨2, 1, 2, 45⟩ [] #[.ref o, .ref a, .int 0, .int 4] h [o] (fun v h' os' => ∃ m : Addr, ∃ s : Int32, ∃ M : List Int32, v = none ∧ os' = [] ∧ o_bi s M (o_be x0 [x1, x2, x3]) ∧ (m < Z.heap.size ∨ h.size ≤ m) ∧ Obj Z h' o "java/math/BigInteger" f_3 [.ref m, .int s, .int 0, .int 0] ∧ Av Z h' m .int (List.map Value.int M)) := by
  refine Con.intro (Ls := #[vr o, vr a, vi 0, vi 4, su]) (by decide +kernel) (o_ew hW) (fun _ => en (by simp [argsToLocals, Value.category])) ?_
  intro k C
  have lo := O.lt
  refine Go.ownd C (fun OW => ?_)
  have zo := OW o (mi 0 rfl)
  refine aN C d24_0 rfl <| Go.callI C (z := y_23) (a := o) (argsL := []) (rm25 hW h o) rfl (w_142 hW) (w_143 hW) (w_146 hW) (w_147 hW) d24_1 pd_15 rfl (by decide) rfl (st := []) rfl (by decide) (nb rfl) (by decide) (by decide) nx (fun _ _ _ q4 _ _ => ?_)
  obtain ⟨rfl, rfl, rfl⟩ := q4
  show Go k _ _ _ _ _ _ []
  refine aN C d24_4 rfl <| Go.arraylength C V (4 : Int32) rfl d24_5 <| ifneT C d24_6 (by decide) <| iN C d24_19 rfl <| iN C d24_20 rfl <| aN C d24_21 rfl <| Go.arraylength C V (4 : Int32) rfl d24_22 <| Go.callS C (z := y_25) (argsL := [.int 0, .int 4, .int 4]) (rm26 hW h ((4 : Int32)) (by decide) (by decide)) (w_149 hW) (w_150 hW) (w_61 hW) (w_151 hW) d24_23 pd_16 rfl (by decide) rfl (st := []) rfl (by decide) (nb rfl) (by decide) (by decide) nx (fun _ _ _ q10 _ _ => ?_)
  obtain ⟨rfl, rfl, rfl⟩ := q10
  show Go k _ _ _ _ _ _ [.int 0]
  refine Go.pop C d24_26 rfl <| iN C d24_27 rfl <| ifneT C d24_28 (by decide) <| aN C d24_52 rfl <| iN C d24_53 rfl <| Go.baload C V 0 (by decide) rfl rfl d24_54 <| Go.istore C d24_55 (Ls' := #[vr o, vr a, vi 0, vi 4, vi x0]) rfl <| il C d24_57 rfl <| Go.ifge C d24_59 (fun hsg => ?_) (fun hsg => ?_)
  · refine aN C d24_82 rfl <| il C d24_83 rfl <| aN C d24_85 rfl <| iN C d24_86 rfl <| iN C d24_87 rfl <| Go.callS C (z := y_21) (argsL := [.int x0, .ref a, .int 0, .int 4]) (rmS4 hW h a zz zm x0 x1 x2 x3 V hSZ hsg hB0 hB1 hB2 hB3) (w_156 hW) (w_157 hW) (w_134 hW) (w_158 hW) d24_88 pd_17 rfl (by decide) rfl (st := [.ref o]) rfl (by decide) (nb rfl) (by decide) (by decide) nx (fun _ _ _ q16 K17 _ => ?_)
    obtain ⟨m19, M20, rfl, rfl, p21, p22, F23⟩ := q16
    replace O := O.k0 K17
    replace V := V.k0 K17
    show Go k _ _ _ _ _ _ [.ref m19, .ref o]
    exact o_lp_I hW C O F23 (o_mne p22 zo lo) p21 (fun s h' q1 q2 q3 => ⟨m19, s, M20, rfl, rfl, q1, p22, q2, q3⟩)
  refine aN C d24_62 rfl <| il C d24_63 rfl <| aN C d24_65 rfl <| iN C d24_66 rfl <| iN C d24_67 rfl <| Go.callS C (z := y_22) (argsL := [.int x0, .ref a, .int 0, .int 4]) (rmM4 hW h a x0 x1 x2 x3 V hsg hB0 hB1 hB2 hB3) (w_242 hW) (w_243 hW) (w_134 hW) (w_244 hW) d24_68 pd_17 rfl (by decide) rfl (st := [.ref o]) rfl (by decide) (nb rfl) (by decide) (by decide) nx (fun _ _ _ q27 K28 _ => ?_)
  obtain ⟨m30, M31, rfl, rfl, p32, p33, F34⟩ := q27
  replace O := O.k0 K28
  show Go k _ _ _ _ _ _ [.ref m30, .ref o]
  have hq : (o_be x0 [x1, x2, x3]) < 0 := by
    have z0 := o_lt0 hsg
    show (((x0.toInt * 256 + x1.toInt % 256) * 256 + x2.toInt % 256) * 256 + x3.toInt % 256) < 0
    omega
  exact o_lp_K hW C O F34 (o_mne p33 zo lo) p32 hq (fun s h' q1 q2 q3 => ⟨m30, s, M31, rfl, rfl, q1, p33, q2, q3⟩)
theorem rmJ4 (hW : W0 Z a0) (h : Heap) (o a zz zm : Addr) (x0 x1 x2 x3 : Int32) (O : Obj Z h o "java/math/BigInteger" f_3 [.null, .int 0, .int 0, .int 0]) (V : Av Z h a .byte [.int x0, .int x1, .int x2, .int x3]) (hSZ : o_SZ Z zz zm) (hB0 : o_B x0) (hB1 : o_B x1) (hB2 : o_B x2) (hB3 : o_B x3) (hao : a ≠ o) :
    Con l Z o_EL true y_27 c23 2 none ⟨3, 1, 2, 65⟩ [] #[.ref o, .ref a] h [o] (fun v h' os' => ∃ m : Addr, ∃ s : Int32, ∃ M : List Int32, v = none ∧ os' = [] ∧ o_bi s M (o_be x0 [x1, x2, x3]) ∧ (m < Z.heap.size ∨ h.size ≤ m) ∧ Obj Z h' o "java/math/BigInteger" f_3 [.ref m, .int s, .int 0, .int 0] ∧ Av Z h' m .int (List.map Value.int M)) := by
  refine Con.intro (Ls := #[vr o, vr a]) (by decide +kernel) (o_ew hW) (fun _ => en (by simp [argsToLocals, Value.category])) ?_
  intro k C
  refine aN C d23_0 rfl <| aN C d23_1 rfl <| ic C 0 d23_2 rfl <| aN C d23_3 rfl <| Go.arraylength C V (4 : Int32) rfl d23_4 <| Go.callI C (z := y_26) (a := o) (argsL := [.ref a, .int 0, .int 4]) (rmI4 hW h o a zz zm x0 x1 x2 x3 O V hSZ hB0 hB1 hB2 hB3 hao) rfl (w_138 hW) (w_139 hW) (w_134 hW) (w_141 hW) d23_5 pd_18 rfl (by decide) rfl (st := []) rfl (by decide) (nb rfl) (by decide) (by decide) (fm ⟨(mi 0 rfl), nx⟩) (fun _ _ _ q4 _ _ => ?_)
  obtain ⟨m7, s8, M9, rfl, rfl, p10, p11, F12, F13⟩ := q4
  show Go k _ _ _ _ _ _ []
  refine Go.retV C d23_8 (nb rfl) (nb rfl) [] nx ?_
  exact ⟨_, _, _, rfl, rfl, p10, p11, F12, F13⟩
theorem rmI5 (hW : W0 Z a0) (h : Heap) (o a zz zm : Addr) (x0 x1 x2 x3 x4 : Int32) (O : Obj Z h o "java/math/BigInteger" f_3 [.null, .int 0, .int 0, .int 0]) (V : Av Z h a .byte [.int x0, .int x1, .int x2, .int x3, .int x4]) (hSZ : o_SZ Z zz zm) (hB0 : o_B x0) (hB1 : o_B x1) (hB2 : o_B x2) (hB3 : o_B x3) (hB4 : o_B x4) (hao : a ≠ o) :
    Con l Z o_EL true y_26 c24 5 none ⟨2, 1, 2, 45⟩ [] #[.ref o, .ref a, .int 0, .int 5] h [o] (fun v h' os' => ∃ m : Addr, ∃ s : Int32, ∃ M : List Int32, v = none ∧ os' = [] ∧ o_bi s M (o_be x0 [x1, x2, x3, x4]) ∧ (m < Z.heap.size ∨ h.size ≤ m) ∧ Obj Z h' o "java/math/BigInteger" f_3 [.ref m, .int s, .int 0, .int 0] ∧ Av Z h' m .int (List.map Value.int M)) := by
  refine Con.intro (Ls := #[vr o, vr a, vi 0, vi 5, su]) (by decide +kernel) (o_ew hW) (fun _ => en (by simp [argsToLocals, Value.category])) ?_
  intro k C
  have lo := O.lt
  refine Go.ownd C (fun OW => ?_)
  have zo := OW o (mi 0 rfl)
  refine aN C d24_0 rfl <| Go.callI C (z := y_23) (a := o) (argsL := []) (rm25 hW h o) rfl (w_142 hW) (w_143 hW) (w_146 hW) (w_147 hW) d24_1 pd_15 rfl (by decide) rfl (st := []) rfl (by decide) (nb rfl) (by decide) (by decide) nx (fun _ _ _ q4 _ _ => ?_)
  obtain ⟨rfl, rfl, rfl⟩ := q4
  show Go k _ _ _ _ _ _ []
  refine aN C d24_4 rfl <| Go.arraylength C V (5 : Int32) rfl d24_5 <| ifneT C d24_6 (by decide) <| iN C d24_19 rfl <| iN C d24_20 rfl <| aN C d24_21 rfl <| Go.arraylength C V (5 : Int32) rfl d24_22 <| Go.callS C (z := y_25) (argsL := [.int 0, .int 5, .int 5]) (rm26 hW h ((5 : Int32)) (by decide) (by decide)) (w_149 hW) (w_150 hW) (w_61 hW) (w_151 hW) d24_23 pd_16 rfl (by decide) rfl (st := []) rfl (by decide) (nb rfl) (by decide) (by decide) nx (fun _ _ _ q10 _ _ => ?_)
  obtain ⟨rfl, rfl, rfl⟩ := q10
  show Go k _ _ _ _ _ _ [.int 0]
  refine Go.pop C d24_26 rfl <| iN C d24_27 rfl <| ifneT C d24_28 (by decide) <| aN C d24_52 rfl <| iN C d24_53 rfl <| Go.baload C V 0 (by decide) rfl rfl d24_54 <| Go.istore C d24_55 (Ls' := #[vr o, vr a, vi 0, vi 5, vi x0]) rfl <| il C d24_57 rfl <| Go.ifge C d24_59 (fun hsg => ?_) (fun hsg => ?_)
  · refine aN C d24_82 rfl <| il C d24_83 rfl <| aN C d24_85 rfl <| iN C d24_86 rfl <| iN C d24_87 rfl <| Go.callS C (z := y_21) (argsL := [.int x0, .ref a, .int 0, .int 5]) (rmS5 hW h a zz zm x0 x1 x2 x3 x4 V hSZ hsg hB0 hB1 hB2 hB3 hB4) (w_156 hW) (w_157 hW) (w_134 hW) (w_158 hW) d24_88 pd_17 rfl (by decide) rfl (st := [.ref o]) rfl (by decide) (nb rfl) (by decide) (by decide) nx (fun _ _ _ q16 K17 _ => ?_)
    obtain ⟨m19, M20, rfl, rfl, p21, p22, F23⟩ := q16
    replace O := O.k0 K17
    replace V := V.k0 K17
    show Go k _ _ _ _ _ _ [.ref m19, .ref o]
    exact o_lp_I hW C O F23 (o_mne p22 zo lo) p21 (fun s h' q1 q2 q3 => ⟨m19, s, M20, rfl, rfl, q1, p22, q2, q3⟩)
  refine aN C d24_62 rfl <| il C d24_63 rfl <| aN C d24_65 rfl <| iN C d24_66 rfl <| iN C d24_67 rfl <| Go.callS C (z := y_22) (argsL := [.int x0, .ref a, .int 0, .int 5]) (rmM5 hW h a x0 x1 x2 x3 x4 V hsg hB0 hB1 hB2 hB3 hB4) (w_242 hW) (w_243 hW) (w_134 hW) (w_244 hW) d24_68 pd_17 rfl (by decide) rfl (st := [.ref o]) rfl (by decide) (nb rfl) (by decide) (by decide) nx (fun _ _ _ q27 K28 _ => ?_)
  obtain ⟨m30, M31, rfl, rfl, p32, p33, F34⟩ := q27
  replace O := O.k0 K28
  show Go k _ _ _ _ _ _ [.ref m30, .ref o]
  have hq : (o_be x0 [x1, x2, x3, x4]) < 0 := by
    have z0 := o_lt0 hsg
    show ((((x0.toInt * 256 + x1.toInt % 256) * 256 + x2.toInt % 256) * 256 + x3.toInt % 256) * 256 + x4.toInt % 256) < 0
    omega
  exact o_lp_K hW C O F34 (o_mne p33 zo lo) p32 hq (fun s h' q1 q2 q3 => ⟨m30, s, M31, rfl, rfl, q1, p33, q2, q3⟩)
theorem rmJ5 (hW : W0 Z a0) (h : Heap) (o a zz zm : Addr) (x0 x1 x2 x3 x4 : Int32) (O : Obj Z h o "java/math/BigInteger" f_3 [.null, .int 0, .int 0, .int 0]) (V : Av Z h a .byte [.int x0, .int x1, .int x2, .int x3, .int x4]) (hSZ : o_SZ Z zz zm) (hB0 : o_B x0) (hB1 : o_B x1) (hB2 : o_B x2) (hB3 : o_B x3) (hB4 : o_B x4) (hao : a ≠ o) :
    Con l Z o_EL true y_27 c23 2 none ⟨3, 1, 2, 65⟩ [] #[.ref o, .ref a] h [o] (fun v h' os' => ∃ m : Addr, ∃ s : Int32, ∃ M : List Int32, v = none ∧ os' = [] ∧ o_bi s M (o_be x0 [x1, x2, x3, x4]) ∧ (m < Z.heap.size ∨ h.size ≤ m) ∧ Obj Z h' o "java/math/BigInteger" f_3 [.ref m, .int s, .int 0, .int 0] ∧ Av Z h' m .int (List.map Value.int M)) := by
  refine Con.intro (Ls := #[vr o, vr a]) (by decide +kernel) (o_ew hW) (fun _ => en (by simp [argsToLocals, Value.category])) ?_
  intro k C
  refine aN C d23_0 rfl <| aN C d23_1 rfl <| ic C 0 d23_2 rfl <| aN C d23_3 rfl <| Go.arraylength C V (5 : Int32) rfl d23_4 <| Go.callI C (z := y_26) (a := o) (argsL := [.ref a, .int 0, .int 5]) (rmI5 hW h o a zz zm x0 x1 x2 x3 x4 O V hSZ hB0 hB1 hB2 hB3 hB4 hao) rfl (w_138 hW) (w_139 hW) (w_134 hW) (w_141 hW) d23_5 pd_18 rfl (by decide) rfl (st := []) rfl (by decide) (nb rfl) (by decide) (by decide) (fm ⟨(mi 0 rfl), nx⟩) (fun _ _ _ q4 _ _ => ?_)
  obtain ⟨m7, s8, M9, rfl, rfl, p10, p11, F12, F13⟩ := q4
  show Go k _ _ _ _ _ _ []
  refine Go.retV C d23_8 (nb rfl) (nb rfl) [] nx ?_
  exact ⟨_, _, _, rfl, rfl, p10, p11, F12, F13⟩
theorem rmI6 (hW : W0 Z a0) (h : Heap) (o a zz zm : Addr) (x0 x1 x2 x3 x4 x5 : Int32) (O : Obj Z h o "java/math/BigInteger" f_3 [.null, .int 0, .int 0, .int 0]) (V : Av Z h a .byte [.int x0, .int x1, .int x2, .int x3, .int x4, .int x5]) (hSZ : o_SZ Z zz zm) (hB0 : o_B x0) (hB1 : o_B x1) (hB2 : o_B x2) (hB3 : o_B x3) (hB4 : o_B x4) (hB5 : o_B x5) (hao : a ≠ o) :
    Con l Z o_EL true y_26 c24 5 none ⟨2, 1, 2, 45⟩ [] #[.ref o, .ref a, .int 0, .int 6] h [o] (fun v h' os' => ∃ m : Addr, ∃ s : Int32, ∃ M : List Int32, v = none ∧ os' = [] ∧ o_bi s M (o_be x0 [x1, x2, x3, x4, x5]) ∧ (m < Z.heap.size ∨ h.size ≤ m) ∧ Obj Z h' o "java/math/BigInteger" f_3 [.ref m, .int s, .int 0, .int 0] ∧ Av Z h' m .int (List.map Value.int M)) := by
  refine Con.intro (Ls := #[vr o, vr a, vi 0, vi 6, su]) (by decide +kernel) (o_ew hW) (fun _ => en (by simp [argsToLocals, Value.category])) ?_
  intro k C
  have lo := O.lt
  refine Go.ownd C (fun OW => ?_)
  have zo := OW o (mi 0 rfl)
  refine aN C d24_0 rfl <| Go.callI C (z := y_23) (a := o) (argsL := []) (rm25 hW h o) rfl (w_142 hW) (w_143 hW) (w_146 hW) (w_147 hW) d24_1 pd_15 rfl (by decide) rfl (st := []) rfl (by decide) (nb rfl) (by decide) (by decide) nx (fun _ _ _ q4 _ _ => ?_)
  obtain ⟨rfl, rfl, rfl⟩ := q4
  show Go k _ _ _ _ _ _ []
  refine aN C d24_4 rfl <| Go.arraylength C V (6 : Int32) rfl d24_5 <| ifneT C d24_6 (by decide) <| iN C d24_19 rfl <| iN C d24_20 rfl <| aN C d24_21 rfl <| Go.arraylength C V (6 : Int32) rfl d24_22 <| Go.callS C (z := y_25) (argsL := [.int 0, .int 6, .int 6]) (rm26 hW h ((6 : Int32)) (by decide) (by decide)) (w_149 hW) (w_150 hW) (w_61 hW) (w_151 hW) d24_23 pd_16 rfl (by decide) rfl (st := []) rfl (by decide) (nb rfl) (by decide) (by decide) nx (fun _ _ _ q10 _ _ => ?_)
  obtain ⟨rfl, rfl, rfl⟩ := q10
  show Go k _ _ _ _ _ _ [.int 0]
  refine Go.pop C d24_26 rfl <| iN C d24_27 rfl <| ifneT C d24_28 (by decide) <| aN C d24_52 rfl <| iN C d24_53 rfl <| Go.baload C V 0 (by decide) rfl rfl d24_54 <| Go.istore C d24_55 (Ls' := #[vr o, vr a, vi 0, vi 6, vi x0]) rfl <| il C d24_57 rfl <| Go.ifge C d24_59 (fun hsg => ?_) (fun hsg => ?_)
  · refine aN C d24_82 rfl <| il C d24_83 rfl <| aN C d24_85 rfl <| iN C d24_86 rfl <| iN C d24_87 rfl <| Go.callS C (z := y_21) (argsL := [.int x0, .ref a, .int 0, .int 6]) (rmS6 hW h a zz zm x0 x1 x2 x3 x4 x5 V hSZ hsg hB0 hB1 hB2 hB3 hB4 hB5) (w_156 hW) (w_157 hW) (w_134 hW) (w_158 hW) d24_88 pd_17 rfl (by decide) rfl (st := [.ref o]) rfl (by decide) (nb rfl) (by decide) (by decide) nx (fun _ _ _ q16 K17 _ => ?_)
    obtain ⟨m19, M20, rfl, rfl, p21, p22, F23⟩ := q16
    replace O := O.k0 K17
    replace V := V.k0 K17
    show Go k _ _ _ _ _ _ [.ref m19, .ref o]
    exact o_lp_I hW C O F23 (o_mne p22 zo lo) p21 (fun s h' q1 q2 q3 => ⟨m19, s, M20, rfl, rfl, q1, p22, q2, q3⟩)
  refine aN C d24_62 rfl <| il C d24_63 rfl <| aN C d24_65 rfl <| iN C d24_66 rfl <| iN C d24_67 rfl <| Go.callS C (z := y_22) (argsL := [.int x0, .ref a, .int 0, .int 6]) (rmM6 hW h a x0 x1 x2 x3 x4 x5 V hsg hB0 hB1 hB2 hB3 hB4 hB5) (w_242 hW) (w_243 hW) (w_134 hW) (w_244 hW) d24_68 pd_17 rfl (by decide) rfl (st := [.ref o]) rfl (by decide) (nb rfl) (by decide) (by decide) nx (fun _ _ _ q27 K28 _ => ?_)
  obtain ⟨m30, M31, rfl, rfl, p32, p33, F34⟩ := q27
  replace O := O.k0 K28
  show Go k _ _ _ _ _ _ [.ref m30, .ref o]
  have hq : (o_be x0 [x1, x2, x3, x4, x5]) < 0 := by
    have z0 := o_lt0 hsg
    show (((((x0.toInt * 256 + x1.toInt % 256) * 256 + x2.toInt % 256) * 256 + x3.toInt % 256) * 256 + x4.toInt % 256) * 256 + x5.toInt % 256) < 0
    omega
  exact o_lp_K hW C O F34 (o_mne p33 zo lo) p32 hq (fun s h' q1 q2 q3 => ⟨m30, s, M31, rfl, rfl, q1, p33, q2, q3⟩)
theorem rmJ6 (hW : W0 Z a0) (h : Heap) (o a zz zm : Addr) (x0 x1 x2 x3 x4 x5 : Int32) (O : Obj Z h o "java/math/BigInteger" f_3 [.null, .int 0, .int 0, .int 0]) (V : Av Z h a .byte [.int x0, .int x1, .int x2, .int x3, .int x4, .int x5]) (hSZ : o_SZ Z zz zm) (hB0 : o_B x0) (hB1 : o_B x1) (hB2 : o_B x2) (hB3 : o_B x3) (hB4 : o_B x4) (hB5 : o_B x5) (hao : a ≠ o) :
    Con l Z o_EL true y_27 c23 2 none ⟨3, 1, 2, 65⟩ [] #[.ref o, .ref a] h [o] (fun v h' os' => ∃ m : Addr, ∃ s : Int32, ∃ M : List Int32, v = none ∧ os' = [] ∧ o_bi s M (o_be x0 [x1, x2, x3, x4, x5]) ∧ (m < Z.heap.size ∨ h.size ≤ m) ∧ Obj Z h' o "java/math/BigInteger" f_3 [.ref m, .int s, .int 0, .int 0] ∧ Av Z h' m .int (List.map Value.int M)) := by
  refine Con.intro (Ls := #[vr o, vr a]) (by decide +kernel) (o_ew hW) (fun _ => en (by simp [argsToLocals, Value.category])) ?_
  intro k C
  refine aN C d23_0 rfl <| aN C d23_1 rfl <| ic C 0 d23_2 rfl <| aN C d23_3 rfl <| Go.arraylength C V (6 : Int32) rfl d23_4 <| Go.callI C (z := y_26) (a := o) (argsL := [.ref a, .int 0, .int 6]) (rmI6 hW h o a zz zm x0 x1 x2 x3 x4 x5 O V hSZ hB0 hB1 hB2 hB3 hB4 hB5 hao) rfl (w_138 hW) (w_139 hW) (w_134 hW) (w_141 hW) d23_5 pd_18 rfl (by decide) rfl (st := []) rfl (by decide) (nb rfl) (by decide) (by decide) (fm ⟨(mi 0 rfl), nx⟩) (fun _ _ _ q4 _ _ => ?_)
  obtain ⟨m7, s8, M9, rfl, rfl, p10, p11, F12, F13⟩ := q4
  show Go k _ _ _ _ _ _ []
  refine Go.retV C d23_8 (nb rfl) (nb rfl) [] nx ?_
  exact ⟨_, _, _, rfl, rfl, p10, p11, F12, F13⟩
theorem rm37 (hW : W0 Z a0) (h : Heap) (x : Int32) :
    Con l Z o_EL true y_28 c37 2 (some .int) ⟨0, 0, 0, 0⟩ [] #[.int x] h [] (fun v h' os' => ∃ r : Int32, v = some (.int r) ∧ os' = [] ∧ h = h' ∧ o_nz x r) := by
  refine Con.intro (Ls := #[vi x, su]) (by decide +kernel) (o_ew hW) (fun _ => en (by simp [argsToLocals, Value.category])) ?_
  intro k C
  refine iN C d37_0 rfl <| Go.ifgt C d37_1 (fun hg => ?_) (fun hg => ?_)
  · obtain ⟨n0, en0⟩ : ∃ z : Int32, 31 = z := ⟨_, rfl⟩
    have P0 := o_N0 hg
    rw [en0] at P0
    refine Go.bipush C 31 d37_15 rfl <| gq n0 en0 <| Go.istoreN C d37_17 (Ls' := #[vi x, vi n0]) rfl <| iN C d37_18 rfl <| Go.ldcWI C (w_220 hW) d37_19 ?_
    suffices J22 : ∀ i1 n1 : Int32, o_N x i1 n1 65536 15 31 → Go k h [] 0 0 33 #[vi i1, vi n1] [] by
      refine Go.icmplt C d37_22 (fun q => ?_) (fun q => ?_)
      · exact J22 _ _ (o_Nt (65536 : Int32) (by decide) P0 q (by decide) (by decide))
      refine Go.iinc C (n0 + (-16 : Int32)) d37_25 rfl (congrArg (_ + ·) (by decide)) (Ls' := #[vi x, vi (n0 + (-16 : Int32))]) rfl <| iN C d37_28 rfl <| Go.bipush C 16 d37_29 rfl <| Go.iushr C d37_31 <| Go.istoreN C d37_32 (Ls' := #[vi ((x.toUInt32 >>> ((16 : Int32) &&& 31).toUInt32).toInt32), vi (n0 + (-16 : Int32))]) rfl ?_
      exact J22 _ _ (o_NA P0 q)
    intro i1 n1 P1
    refine iN C d37_33 rfl <| Go.sipush C 256 d37_34 rfl ?_
    suffices J37 : ∀ i2 n2 : Int32, o_N x i2 n2 256 7 23 → Go k h [] 0 0 48 #[vi i2, vi n2] [] by
      refine Go.icmplt C d37_37 (fun q => ?_) (fun q => ?_)
      · exact J37 _ _ (o_Nt (256 : Int32) (by decide) P1 q (by decide) (by decide))
      refine Go.iinc C (n1 + (-8 : Int32)) d37_40 rfl (congrArg (_ + ·) (by decide)) (Ls' := #[vi i1, vi (n1 + (-8 : Int32))]) rfl <| iN C d37_43 rfl <| Go.bipush C 8 d37_44 rfl <| Go.iushr C d37_46 <| Go.istoreN C d37_47 (Ls' := #[vi ((i1.toUInt32 >>> ((8 : Int32) &&& 31).toUInt32).toInt32), vi (n1 + (-8 : Int32))]) rfl ?_
      exact J37 _ _ (o_NB P1 q)
    intro i2 n2 P2
    refine iN C d37_48 rfl <| Go.bipush C 16 d37_49 rfl ?_
    suffices J51 : ∀ i3 n3 : Int32, o_N x i3 n3 16 3 19 → Go k h [] 0 0 61 #[vi i3, vi n3] [] by
      refine Go.icmplt C d37_51 (fun q => ?_) (fun q => ?_)
      · exact J51 _ _ (o_Nt (16 : Int32) (by decide) P2 q (by decide) (by decide))
      refine Go.iinc C (n2 + (-4 : Int32)) d37_54 rfl (congrArg (_ + ·) (by decide)) (Ls' := #[vi i2, vi (n2 + (-4 : Int32))]) rfl <| iN C d37_57 rfl <| ic C 4 d37_58 rfl <| Go.iushr C d37_59 <| Go.istoreN C d37_60 (Ls' := #[vi ((i2.toUInt32 >>> ((4 : Int32) &&& 31).toUInt32).toInt32), vi (n2 + (-4 : Int32))]) rfl ?_
      exact J51 _ _ (o_NC P2 q)
    intro i3 n3 P3
    refine iN C d37_61 rfl <| ic C 4 d37_62 rfl ?_
    suffices J63 : ∀ i4 n4 : Int32, o_N x i4 n4 4 1 17 → Go k h [] 0 0 73 #[vi i4, vi n4] [] by
      refine Go.icmplt C d37_63 (fun q => ?_) (fun q => ?_)
      · exact J63 _ _ (o_Nt (4 : Int32) (by decide) P3 q (by decide) (by decide))
      refine Go.iinc C (n3 + (-2 : Int32)) d37_66 rfl (congrArg (_ + ·) (by decide)) (Ls' := #[vi i3, vi (n3 + (-2 : Int32))]) rfl <| iN C d37_69 rfl <| ic C 2 d37_70 rfl <| Go.iushr C d37_71 <| Go.istoreN C d37_72 (Ls' := #[vi ((i3.toUInt32 >>> ((2 : Int32) &&& 31).toUInt32).toInt32), vi (n3 + (-2 : Int32))]) rfl ?_
      exact J63 _ _ (o_ND P3 q)
    intro i4 n4 P4
    refine iN C d37_73 rfl <| iN C d37_74 rfl <| ic C 1 d37_75 rfl <| Go.iushr C d37_76 <| Go.isub C d37_77 <| Go.ireturn C d37_78 (nb rfl) (nb rfl) (by simp) rfl [] nx ?_
    exact ⟨_, rfl, rfl, rfl, o_NE P4⟩
  refine iN C d37_4 rfl <| Go.ifne C d37_5 (fun h0 => ?_) (fun h0 => ?_)
  · refine ic C 0 d37_13 rfl <| Go.ireturn C d37_14 (nb rfl) (nb rfl) (by simp) rfl [] nx ?_
    exact ⟨_, rfl, rfl, rfl, o_nzneg hg h0⟩
  refine Go.bipush C 32 d37_8 rfl <| Go.goto C d37_10 <| Go.ireturn C d37_14 (nb rfl) (nb rfl) (by simp) rfl [] nx ?_
  exact ⟨_, rfl, rfl, rfl, o_nz32 x⟩
theorem rm36 (hW : W0 Z a0) (h : Heap) (x : Int32) :
    Con l Z o_EL true y_29 c36 1 (some .int) ⟨1, 0, 0, 20⟩ [] #[.int x] h [] (fun v h' os' => ∃ r : Int32, v = some (.int r) ∧ os' = [] ∧ h = h' ∧ o_bl x r) := by
  refine Con.intro (Ls := #[vi x]) (by decide +kernel) (o_ew hW) (fun _ => en (by simp [argsToLocals, Value.category])) ?_
  intro k C
  refine Go.bipush C 32 d36_0 rfl <| iN C d36_2 rfl <| Go.callS C (z := y_28) (argsL := [.int x]) (rm37 hW h x) (w_216 hW) (w_217 hW) (w_218 hW) (w_219 hW) d36_3 pd_19 rfl (by decide) rfl (st := [.int 32]) rfl (by decide) (nb rfl) (by decide) (by decide) nx (fun _ _ _ q4 _ _ => ?_)
  obtain ⟨r7, rfl, rfl, rfl, p8⟩ := q4
  show Go k _ _ _ _ _ _ [.int r7, .int 32]
  refine Go.isub C d36_6 <| Go.ireturn C d36_7 (nb rfl) (nb rfl) (by simp) rfl [] nx ?_
  exact ⟨_, rfl, rfl, rfl, o_bl_of p8⟩
theorem rm43 (hW : W0 Z a0) (h : Heap) (x : Int32) :
    Con l Z o_EL true y_30 c43 1 (some .int) ⟨0, 0, 0, 0⟩ [] #[.int x] h [] (fun v h' os' => ∃ r : Int32, v = some (.int r) ∧ os' = [] ∧ h = h') := by
  refine Con.intro (Ls := #[vi x]) (by decide +kernel) (o_ew hW) (fun _ => en (by simp [argsToLocals, Value.category])) ?_
  intro k C
  refine iN C d43_0 rfl <| iN C d43_1 rfl <| ic C 1 d43_2 rfl <| Go.iushr C d43_3 <| Go.ldcWI C (w_248 hW) d43_4 <| Go.iand C d43_7 <| Go.isub C d43_8 <| Go.istoreN C d43_9 (Ls' := #[vi (x - (((x.toUInt32 >>> ((1 : Int32) &&& 31).toUInt32).toInt32) &&& 1431655765))]) rfl <| iN C d43_10 rfl <| Go.ldcWI C (w_249 hW) d43_11 <| Go.iand C d43_14 <| iN C d43_15 rfl <| ic C 2 d43_16 rfl <| Go.iushr C d43_17 <| Go.ldcWI C (w_249 hW) d43_18 <| Go.iand C d43_21 <| Go.iadd C d43_22 <| Go.istoreN C d43_23 (Ls' := #[vi (((x - (((x.toUInt32 >>> ((1 : Int32) &&& 31).toUInt32).toInt32) &&& 1431655765)) &&& 858993459) + ((((x - (((x.toUInt32 >>> ((1 : Int32) &&& 31).toUInt32).toInt32) &&& 1431655765)).toUInt32 >>> ((2 : Int32) &&& 31).toUInt32).toInt32) &&& 858993459))]) rfl <| iN C d43_24 rfl <| iN C d43_25 rfl <| ic C 4 d43_26 rfl <| Go.iushr C d43_27 <| Go.iadd C d43_28 <| Go.ldcWI C (w_250 hW) d43_29 ?_
  refine Go.iand C d43_32 <| Go.istoreN C d43_33 (Ls' := #[vi (((((x - (((x.toUInt32 >>> ((1 : Int32) &&& 31).toUInt32).toInt32) &&& 1431655765)) &&& 858993459) + ((((x - (((x.toUInt32 >>> ((1 : Int32) &&& 31).toUInt32).toInt32) &&& 1431655765)).toUInt32 >>> ((2 : Int32) &&& 31).toUInt32).toInt32) &&& 858993459)) + (((((x - (((x.toUInt32 >>> ((1 : Int32) &&& 31).toUInt32).toInt32) &&& 1431655765)) &&& 858993459) + ((((x - (((x.toUInt32 >>> ((1 : Int32) &&& 31).toUInt32).toInt32) &&& 1431655765)).toUInt32 >>> ((2 : Int32) &&& 31).toUInt32).toInt32) &&& 858993459)).toUInt32 >>> ((4 : Int32) &&& 31).toUInt32).toInt32)) &&& 252645135)]) rfl <| iN C d43_34 rfl <| iN C d43_35 rfl <| Go.bipush C 8 d43_36 rfl <| Go.iushr C d43_38 <| Go.iadd C d43_39 <| Go.istoreN C d43_40 (Ls' := #[vi ((((((x - (((x.toUInt32 >>> ((1 : Int32) &&& 31).toUInt32).toInt32) &&& 1431655765)) &&& 858993459) + ((((x - (((x.toUInt32 >>> ((1 : Int32) &&& 31).toUInt32).toInt32) &&& 1431655765)).toUInt32 >>> ((2 : Int32) &&& 31).toUInt32).toInt32) &&& 858993459)) + (((((x - (((x.toUInt32 >>> ((1 : Int32) &&& 31).toUInt32).toInt32) &&& 1431655765)) &&& 858993459) + ((((x - (((x.toUInt32 >>> ((1 : Int32) &&& 31).toUInt32).toInt32) &&& 1431655765)).toUInt32 >>> ((2 : Int32) &&& 31).toUInt32).toInt32) &&& 858993459)).toUInt32 >>> ((4 : Int32) &&& 31).toUInt32).toInt32)) &&& 252645135) + (((((((x - (((x.toUInt32 >>> ((1 : Int32) &&& 31).toUInt32).toInt32) &&& 1431655765)) &&& 858993459) + ((((x - (((x.toUInt32 >>> ((1 : Int32) &&& 31).toUInt32).toInt32) &&& 1431655765)).toUInt32 >>> ((2 : Int32) &&& 31).toUInt32).toInt32) &&& 858993459)) + (((((x - (((x.toUInt32 >>> ((1 : Int32) &&& 31).toUInt32).toInt32) &&& 1431655765)) &&& 858993459) + ((((x - (((x.toUInt32 >>> ((1 : Int32) &&& 31).toUInt32).toInt32) &&& 1431655765)).toUInt32 >>> ((2 : Int32) &&& 31).toUInt32).toInt32) &&& 858993459)).toUInt32 >>> ((4 : Int32) &&& 31).toUInt32).toInt32)) &&& 252645135).toUInt32 >>> ((8 : Int32) &&& 31).toUInt32).toInt32))]) rfl ?_
  refine iN C d43_41 rfl <| iN C d43_42 rfl <| Go.bipush C 16 d43_43 rfl <| Go.iushr C d43_45 <| Go.iadd C d43_46 <| Go.istoreN C d43_47 (Ls' := #[vi (((((((x - (((x.toUInt32 >>> ((1 : Int32) &&& 31).toUInt32).toInt32) &&& 1431655765)) &&& 858993459) + ((((x - (((x.toUInt32 >>> ((1 : Int32) &&& 31).toUInt32).toInt32) &&& 1431655765)).toUInt32 >>> ((2 : Int32) &&& 31).toUInt32).toInt32) &&& 858993459)) + (((((x - (((x.toUInt32 >>> ((1 : Int32) &&& 31).toUInt32).toInt32) &&& 1431655765)) &&& 858993459) + ((((x - (((x.toUInt32 >>> ((1 : Int32) &&& 31).toUInt32).toInt32) &&& 1431655765)).toUInt32 >>> ((2 : Int32) &&& 31).toUInt32).toInt32) &&& 858993459)).toUInt32 >>> ((4 : Int32) &&& 31).toUInt32).toInt32)) &&& 252645135) + (((((((x - (((x.toUInt32 >>> ((1 : Int32) &&& 31).toUInt32).toInt32) &&& 1431655765)) &&& 858993459) + ((((x - (((x.toUInt32 >>> ((1 : Int32) &&& 31).toUInt32).toInt32) &&& 1431655765)).toUInt32 >>> ((2 : Int32) &&& 31).toUInt32).toInt32) &&& 858993459)) + (((((x - (((x.toUInt32 >>> ((1 : Int32) &&& 31).toUInt32).toInt32) &&& 1431655765)) &&& 858993459) + ((((x - (((x.toUInt32 >>> ((1 : Int32) &&& 31).toUInt32).toInt32) &&& 1431655765)).toUInt32 >>> ((2 : Int32) &&& 31).toUInt32).toInt32) &&& 858993459)).toUInt32 >>> ((4 : Int32) &&& 31).toUInt32).toInt32)) &&& 252645135).toUInt32 >>> ((8 : Int32) &&& 31).toUInt32).toInt32)) + ((((((((x - (((x.toUInt32 >>> ((1 : Int32) &&& 31).toUInt32).toInt32) &&& 1431655765)) &&& 858993459) + ((((x - (((x.toUInt32 >>> ((1 : Int32) &&& 31).toUInt32).toInt32) &&& 1431655765)).toUInt32 >>> ((2 : Int32) &&& 31).toUInt32).toInt32) &&& 858993459)) + (((((x - (((x.toUInt32 >>> ((1 : Int32) &&& 31).toUInt32).toInt32) &&& 1431655765)) &&& 858993459) + ((((x - (((x.toUInt32 >>> ((1 : Int32) &&& 31).toUInt32).toInt32) &&& 1431655765)).toUInt32 >>> ((2 : Int32) &&& 31).toUInt32).toInt32) &&& 858993459)).toUInt32 >>> ((4 : Int32) &&& 31).toUInt32).toInt32)) &&& 252645135) + (((((((x - (((x.toUInt32 >>> ((1 : Int32) &&& 31).toUInt32).toInt32) &&& 1431655765)) &&& 858993459) + ((((x - (((x.toUInt32 >>> ((1 : Int32) &&& 31).toUInt32).toInt32) &&& 1431655765)).toUInt32 >>> ((2 : Int32) &&& 31).toUInt32).toInt32) &&& 858993459)) + (((((x - (((x.toUInt32 >>> ((1 : Int32) &&& 31).toUInt32).toInt32) &&& 1431655765)) &&& 858993459) + ((((x - (((x.toUInt32 >>> ((1 : Int32) &&& 31).toUInt32).toInt32) &&& 1431655765)).toUInt32 >>> ((2 : Int32) &&& 31).toUInt32).toInt32) &&& 858993459)).toUInt32 >>> ((4 : Int32) &&& 31).toUInt32).toInt32)) &&& 252645135).toUInt32 >>> ((8 : Int32) &&& 31).toUInt32).toInt32)).toUInt32 >>> ((16 : Int32) &&& 31).toUInt32).toInt32))]) rfl ?_
  refine iN C d43_48 rfl <| Go.bipush C 63 d43_49 rfl <| Go.iand C d43_51 <| Go.ireturn C d43_52 (nb rfl) (nb rfl) (by simp) rfl [] nx ?_
  exact ⟨_, rfl, rfl, rfl⟩
theorem rm35 (hW : W0 Z a0) (h : Heap) (o m : Addr) (s : Int32) (M : List Int32) (kk : Int) (O : Obj Z h o "java/math/BigInteger" f_3 [.ref m, .int s, .int 0, .int 0]) (V : Av Z h m .int (List.map Value.int M)) (hbi : o_bi s M kk) (hmo : m ≠ o) :
    Con l Z o_EL true y_31 c35 7 (some .int) ⟨2, 0, 0, 40⟩ [] #[.ref o] h [o] (fun v h' os' => ∃ r : Int32, ∃ b : Int32, v = some (.int r) ∧ os' = [] ∧ ¬ (48 : Int32) < r ∧ Obj Z h' o "java/math/BigInteger" f_3 [.ref m, .int s, .int b, .int 0]) := by
  refine Con.intro (Ls := #[vr o, su, su, su, su, su, su]) (by decide +kernel) (o_ew hW) (fun _ => en (by simp [argsToLocals, Value.category])) ?_
  intro k C
  rcases hbi with ⟨rfl, rfl, hk⟩ | ⟨m0, rfl, rfl, hm0, hk⟩ | ⟨p0, m0, rfl, rfl, hp1, hp2, hk⟩ | ⟨m0, rfl, rfl, hm0, hk⟩ | ⟨p0, m0, rfl, rfl, hp1, hp2, hk⟩
  · have V : Av Z h m .int [] := V
    refine aN C d35_0 rfl <| gF C O 2 rfl rfl (w_211 hW) d35_1 <| ic C 1 d35_4 rfl <| Go.isub C d35_5 <| gq (-1) rfl <| Go.istoreN C d35_6 (Ls' := #[vr o, vi (-1), su, su, su, su, su]) rfl <| iN C d35_7 rfl <| ic C (-1) d35_8 (by decide) <| icmpneF C d35_9 (by decide) <| aN C d35_12 rfl <| gF C O 0 rfl rfl (w_160 hW) d35_13 <| Go.astoreN C d35_16 rfl (Ls' := #[vr o, vi (-1), vr m, su, su, su, su]) rfl <| aN C d35_17 rfl <| Go.arraylength C V (0 : Int32) rfl d35_18 <| Go.istoreN C d35_19 (Ls' := #[vr o, vi (-1), vr m, vi 0, su, su, su]) rfl <| iN C d35_20 rfl <| ifneF C d35_21 (by decide) <| ic C 0 d35_24 rfl <| Go.istoreN C d35_25 (Ls' := #[vr o, vi 0, vr m, vi 0, su, su, su]) rfl <| Go.goto C d35_26 <| aN C d35_131 rfl <| iN C d35_132 rfl <| ic C 1 d35_133 rfl <| Go.iadd C d35_134 <| gq 1 rfl <| Go.putF C O (mi 0 rfl) 2 rfl (w_211 hW) Via.refl (Or.inl (w_212 hW)) (w_133 hW) (fl_3 hW) nd_3 (ty := .int) (by decide +kernel) (v' := (.int 1)) rfl rfl (vs' := [.ref m, .int 0, .int 1, .int 0]) rfl d35_135 (fun h1 K2 O => ?_)
    replace V := V.keep K2 (ninS hmo nin0)
    refine iN C d35_138 rfl <| Go.ireturn C d35_139 (nb rfl) (nb rfl) (by simp) rfl [] nx ?_
    exact ⟨_, _, rfl, rfl, by decide, O⟩
  · have V : Av Z h m .int [.int m0] := V
    refine aN C d35_0 rfl <| gF C O 2 rfl rfl (w_211 hW) d35_1 <| ic C 1 d35_4 rfl <| Go.isub C d35_5 <| gq (-1) rfl <| Go.istoreN C d35_6 (Ls' := #[vr o, vi (-1), su, su, su, su, su]) rfl <| iN C d35_7 rfl <| ic C (-1) d35_8 (by decide) <| icmpneF C d35_9 (by decide) <| aN C d35_12 rfl <| gF C O 0 rfl rfl (w_160 hW) d35_13 <| Go.astoreN C d35_16 rfl (Ls' := #[vr o, vi (-1), vr m, su, su, su, su]) rfl <| aN C d35_17 rfl <| Go.arraylength C V (1 : Int32) rfl d35_18 <| Go.istoreN C d35_19 (Ls' := #[vr o, vi (-1), vr m, vi 1, su, su, su]) rfl <| iN C d35_20 rfl <| ifneT C d35_21 (by decide) <| iN C d35_29 rfl <| ic C 1 d35_30 rfl <| Go.isub C d35_31 <| gq 0 rfl <| ic C 5 d35_32 rfl <| Go.ishl C d35_33 <| gq 0 rfl <| aN C d35_34 rfl <| gF C O 0 rfl rfl (w_160 hW) d35_35 <| ic C 0 d35_38 rfl <| Go.iaload C V 0 (by decide) rfl rfl d35_39 <| Go.callS C (z := y_29) (argsL := [.int m0]) (rm36 hW h m0) (w_213 hW) (w_214 hW) (w_134 hW) (w_215 hW) d35_40 pd_19 rfl (by decide) rfl (st := [.int 0]) rfl (by decide) (nb rfl) (by decide) (by decide) nx (fun _ _ _ q6 _ _ => ?_)
    obtain ⟨r9, rfl, rfl, rfl, p10⟩ := q6
    show Go k _ _ _ _ _ _ [.int r9, .int 0]
    refine Go.iadd C d35_43 <| Go.istore C d35_44 (Ls' := #[vr o, vi (-1), vr m, vi 1, vi ((0 : Int32) + r9), su, su]) rfl <| aN C d35_46 rfl <| gF C O 1 rfl rfl (w_162 hW) d35_47 <| ifgeT C d35_50 (by decide) <| il C d35_128 rfl <| Go.istoreN C d35_130 (Ls' := #[vr o, vi ((0 : Int32) + r9), vr m, vi 1, vi ((0 : Int32) + r9), su, su]) rfl <| aN C d35_131 rfl <| iN C d35_132 rfl <| ic C 1 d35_133 rfl <| Go.iadd C d35_134 <| Go.putF C O (mi 0 rfl) 2 rfl (w_211 hW) Via.refl (Or.inl (w_212 hW)) (w_133 hW) (fl_3 hW) nd_3 (ty := .int) (by decide +kernel) (v' := (.int (((0 : Int32) + r9) + 1))) rfl rfl (vs' := [.ref m, .int 1, (.int (((0 : Int32) + r9) + 1)), .int 0]) rfl d35_135 (fun h11 K12 O => ?_)
    replace V := V.keep K12 (ninS hmo nin0)
    refine iN C d35_138 rfl <| Go.ireturn C d35_139 (nb rfl) (nb rfl) (by simp) rfl [] nx ?_
    exact ⟨_, _, rfl, rfl, (o_bl1 p10).1, O⟩
  · have V : Av Z h m .int [.int p0, .int m0] := V
    refine aN C d35_0 rfl <| gF C O 2 rfl rfl (w_211 hW) d35_1 <| ic C 1 d35_4 rfl <| Go.isub C d35_5 <| gq (-1) rfl <| Go.istoreN C d35_6 (Ls' := #[vr o, vi (-1), su, su, su, su, su]) rfl <| iN C d35_7 rfl <| ic C (-1) d35_8 (by decide) <| icmpneF C d35_9 (by decide) <| aN C d35_12 rfl <| gF C O 0 rfl rfl (w_160 hW) d35_13 <| Go.astoreN C d35_16 rfl (Ls' := #[vr o, vi (-1), vr m, su, su, su, su]) rfl <| aN C d35_17 rfl <| Go.arraylength C V (2 : Int32) rfl d35_18 <| Go.istoreN C d35_19 (Ls' := #[vr o, vi (-1), vr m, vi 2, su, su, su]) rfl <| iN C d35_20 rfl <| ifneT C d35_21 (by decide) <| iN C d35_29 rfl <| ic C 1 d35_30 rfl <| Go.isub C d35_31 <| gq 1 rfl <| ic C 5 d35_32 rfl <| Go.ishl C d35_33 <| gq 32 rfl <| aN C d35_34 rfl <| gF C O 0 rfl rfl (w_160 hW) d35_35 <| ic C 0 d35_38 rfl <| Go.iaload C V 0 (by decide) rfl rfl d35_39 <| Go.callS C (z := y_29) (argsL := [.int p0]) (rm36 hW h p0) (w_213 hW) (w_214 hW) (w_134 hW) (w_215 hW) d35_40 pd_19 rfl (by decide) rfl (st := [.int 32]) rfl (by decide) (nb rfl) (by decide) (by decide) nx (fun _ _ _ q16 _ _ => ?_)
    obtain ⟨r19, rfl, rfl, rfl, p20⟩ := q16
    show Go k _ _ _ _ _ _ [.int r19, .int 32]
    refine Go.iadd C d35_43 <| Go.istore C d35_44 (Ls' := #[vr o, vi (-1), vr m, vi 2, vi ((32 : Int32) + r19), su, su]) rfl <| aN C d35_46 rfl <| gF C O 1 rfl rfl (w_162 hW) d35_47 <| ifgeT C d35_50 (by decide) <| il C d35_128 rfl <| Go.istoreN C d35_130 (Ls' := #[vr o, vi ((32 : Int32) + r19), vr m, vi 2, vi ((32 : Int32) + r19), su, su]) rfl <| aN C d35_131 rfl <| iN C d35_132 rfl <| ic C 1 d35_133 rfl <| Go.iadd C d35_134 <| Go.putF C O (mi 0 rfl) 2 rfl (w_211 hW) Via.refl (Or.inl (w_212 hW)) (w_133 hW) (fl_3 hW) nd_3 (ty := .int) (by decide +kernel) (v' := (.int (((32 : Int32) + r19) + 1))) rfl rfl (vs' := [.ref m, .int 1, (.int (((32 : Int32) + r19) + 1)), .int 0]) rfl d35_135 (fun h21 K22 O => ?_)
    replace V := V.keep K22 (ninS hmo nin0)
    refine iN C d35_138 rfl <| Go.ireturn C d35_139 (nb rfl) (nb rfl) (by simp) rfl [] nx ?_
    exact ⟨_, _, rfl, rfl, (o_bl2 p20 hp2).1, O⟩
  · have V : Av Z h m .int [.int m0] := V
    refine aN C d35_0 rfl <| gF C O 2 rfl rfl (w_211 hW) d35_1 <| ic C 1 d35_4 rfl <| Go.isub C d35_5 <| gq (-1) rfl <| Go.istoreN C d35_6 (Ls' := #[vr o, vi (-1), su, su, su, su, su]) rfl <| iN C d35_7 rfl <| ic C (-1) d35_8 (by decide) <| icmpneF C d35_9 (by decide) <| aN C d35_12 rfl <| gF C O 0 rfl rfl (w_160 hW) d35_13 <| Go.astoreN C d35_16 rfl (Ls' := #[vr o, vi (-1), vr m, su, su, su, su]) rfl <| aN C d35_17 rfl <| Go.arraylength C V (1 : Int32) rfl d35_18 <| Go.istoreN C d35_19 (Ls' := #[vr o, vi (-1), vr m, vi 1, su, su, su]) rfl <| iN C d35_20 rfl <| ifneT C d35_21 (by decide) <| iN C d35_29 rfl <| ic C 1 d35_30 rfl <| Go.isub C d35_31 <| gq 0 rfl <| ic C 5 d35_32 rfl <| Go.ishl C d35_33 <| gq 0 rfl <| aN C d35_34 rfl <| gF C O 0 rfl rfl (w_160 hW) d35_35 <| ic C 0 d35_38 rfl <| Go.iaload C V 0 (by decide) rfl rfl d35_39 <| Go.callS C (z := y_29) (argsL := [.int m0]) (rm36 hW h m0) (w_213 hW) (w_214 hW) (w_134 hW) (w_215 hW) d35_40 pd_19 rfl (by decide) rfl (st := [.int 0]) rfl (by decide) (nb rfl) (by decide) (by decide) nx (fun _ _ _ q26 _ _ => ?_)
    obtain ⟨r29, rfl, rfl, rfl, p30⟩ := q26
    show Go k _ _ _ _ _ _ [.int r29, .int 0]
    refine Go.iadd C d35_43 <| Go.istore C d35_44 (Ls' := #[vr o, vi (-1), vr m, vi 1, vi ((0 : Int32) + r29), su, su]) rfl <| aN C d35_46 rfl <| gF C O 1 rfl rfl (w_162 hW) d35_47 <| ifgeF C d35_50 (by decide) <| aN C d35_53 rfl <| gF C O 0 rfl rfl (w_160 hW) d35_54 <| ic C 0 d35_57 rfl <| Go.iaload C V 0 (by decide) rfl rfl d35_58 <| Go.callS C (z := y_30) (argsL := [.int m0]) (rm43 hW h m0) (w_245 hW) (w_246 hW) (w_218 hW) (w_247 hW) d35_59 pd_19 rfl (by decide) rfl (st := []) rfl (by decide) (nb rfl) (by decide) (by decide) nx (fun _ _ _ q34 _ _ => ?_)
    obtain ⟨r37, rfl, rfl, rfl⟩ := q34
    show Go k _ _ _ _ _ _ [.int r37]
    refine ic C 1 d35_62 rfl ?_
    suffices J63 : ∀ (pz : Int32), pz = 0 ∨ pz = 1 → Go k h [o] 0 0 71 #[vr o, vi (-1), vr m, vi 1, vi ((0 : Int32) + r29), su, su] [.int pz] by
      refine Go.icmpne C d35_63 (fun hc63 => ?_) (fun hc63 => ?_)
      · refine ic C 0 d35_70 rfl ?_
        exact Go.more (nb rfl) (nb rfl) (Go.less (os' := [o]) (fun x hx => hx) (J63 (0 : Int32) (by decide)))
      refine ic C 1 d35_66 rfl <| Go.goto C d35_67 ?_
      exact Go.more (nb rfl) (nb rfl) (Go.less (os' := [o]) (fun x hx => hx) (J63 (1 : Int32) (by decide)))
    intro pz hpz
    refine Go.istore C d35_71 (Ls' := #[vr o, vi (-1), vr m, vi 1, vi ((0 : Int32) + r29), vi pz, su]) rfl <| ic C 1 d35_73 rfl <| Go.istore C d35_74 (Ls' := #[vr o, vi (-1), vr m, vi 1, vi ((0 : Int32) + r29), vi pz, vi 1]) rfl <| il C d35_76 rfl <| iN C d35_78 rfl <| icmpgeT C d35_79 (by decide) <| il C d35_110 rfl <| Go.ifeq C d35_112 (fun hc112 => ?_) (fun hc112 => ?_)
    · refine il C d35_122 rfl <| Go.istoreN C d35_124 (Ls' := #[vr o, vi ((0 : Int32) + r29), vr m, vi 1, vi ((0 : Int32) + r29), vi pz, vi 1]) rfl <| Go.goto C d35_125 <| aN C d35_131 rfl <| iN C d35_132 rfl <| ic C 1 d35_133 rfl <| Go.iadd C d35_134 <| Go.putF C O (mi 0 rfl) 2 rfl (w_211 hW) Via.refl (Or.inl (w_212 hW)) (w_133 hW) (fl_3 hW) nd_3 (ty := .int) (by decide +kernel) (v' := (.int (((0 : Int32) + r29) + 1))) rfl rfl (vs' := [.ref m, .int (-1), (.int (((0 : Int32) + r29) + 1)), .int 0]) rfl d35_135 (fun h39 K40 O => ?_)
      replace V := V.keep K40 (ninS hmo nin0)
      refine iN C d35_138 rfl <| Go.ireturn C d35_139 (nb rfl) (nb rfl) (by simp) rfl [] nx ?_
      exact ⟨_, _, rfl, rfl, (o_bl1 p30).1, O⟩
    refine il C d35_115 rfl <| ic C 1 d35_117 rfl <| Go.isub C d35_118 <| Go.goto C d35_119 <| Go.istoreN C d35_124 (Ls' := #[vr o, vi (((0 : Int32) + r29) - 1), vr m, vi 1, vi ((0 : Int32) + r29), vi pz, vi 1]) rfl <| Go.goto C d35_125 <| aN C d35_131 rfl <| iN C d35_132 rfl <| ic C 1 d35_133 rfl <| Go.iadd C d35_134 <| Go.putF C O (mi 0 rfl) 2 rfl (w_211 hW) Via.refl (Or.inl (w_212 hW)) (w_133 hW) (fl_3 hW) nd_3 (ty := .int) (by decide +kernel) (v' := (.int ((((0 : Int32) + r29) - 1) + 1))) rfl rfl (vs' := [.ref m, .int (-1), (.int ((((0 : Int32) + r29) - 1) + 1)), .int 0]) rfl d35_135 (fun h41 K42 O => ?_)
    replace V := V.keep K42 (ninS hmo nin0)
    refine iN C d35_138 rfl <| Go.ireturn C d35_139 (nb rfl) (nb rfl) (by simp) rfl [] nx ?_
    exact ⟨_, _, rfl, rfl, (o_bl1 p30).2, O⟩
  have V : Av Z h m .int [.int p0, .int m0] := V
  refine aN C d35_0 rfl <| gF C O 2 rfl rfl (w_211 hW) d35_1 <| ic C 1 d35_4 rfl <| Go.isub C d35_5 <| gq (-1) rfl <| Go.istoreN C d35_6 (Ls' := #[vr o, vi (-1), su, su, su, su, su]) rfl <| iN C d35_7 rfl <| ic C (-1) d35_8 (by decide) <| icmpneF C d35_9 (by decide) <| aN C d35_12 rfl <| gF C O 0 rfl rfl (w_160 hW) d35_13 <| Go.astoreN C d35_16 rfl (Ls' := #[vr o, vi (-1), vr m, su, su, su, su]) rfl <| aN C d35_17 rfl <| Go.arraylength C V (2 : Int32) rfl d35_18 <| Go.istoreN C d35_19 (Ls' := #[vr o, vi (-1), vr m, vi 2, su, su, su]) rfl <| iN C d35_20 rfl <| ifneT C d35_21 (by decide) <| iN C d35_29 rfl <| ic C 1 d35_30 rfl <| Go.isub C d35_31 <| gq 1 rfl <| ic C 5 d35_32 rfl <| Go.ishl C d35_33 <| gq 32 rfl <| aN C d35_34 rfl <| gF C O 0 rfl rfl (w_160 hW) d35_35 <| ic C 0 d35_38 rfl <| Go.iaload C V 0 (by decide) rfl rfl d35_39 <| Go.callS C (z := y_29) (argsL := [.int p0]) (rm36 hW h p0) (w_213 hW) (w_214 hW) (w_134 hW) (w_215 hW) d35_40 pd_19 rfl (by decide) rfl (st := [.int 32]) rfl (by decide) (nb rfl) (by decide) (by decide) nx (fun _ _ _ q46 _ _ => ?_)
  obtain ⟨r49, rfl, rfl, rfl, p50⟩ := q46
  show Go k _ _ _ _ _ _ [.int r49, .int 32]
  refine Go.iadd C d35_43 <| Go.istore C d35_44 (Ls' := #[vr o, vi (-1), vr m, vi 2, vi ((32 : Int32) + r49), su, su]) rfl <| aN C d35_46 rfl <| gF C O 1 rfl rfl (w_162 hW) d35_47 <| ifgeF C d35_50 (by decide) <| aN C d35_53 rfl <| gF C O 0 rfl rfl (w_160 hW) d35_54 <| ic C 0 d35_57 rfl <| Go.iaload C V 0 (by decide) rfl rfl d35_58 <| Go.callS C (z := y_30) (argsL := [.int p0]) (rm43 hW h p0) (w_245 hW) (w_246 hW) (w_218 hW) (w_247 hW) d35_59 pd_19 rfl (by decide) rfl (st := []) rfl (by decide) (nb rfl) (by decide) (by decide) nx (fun _ _ _ q54 _ _ => ?_)
  obtain ⟨r57, rfl, rfl, rfl⟩ := q54
  show Go k _ _ _ _ _ _ [.int r57]
  refine ic C 1 d35_62 rfl ?_
  suffices J63 : ∀ (pz : Int32), pz = 0 ∨ pz = 1 → Go k h [o] 0 0 71 #[vr o, vi (-1), vr m, vi 2, vi ((32 : Int32) + r49), su, su] [.int pz] by
    refine Go.icmpne C d35_63 (fun hc63 => ?_) (fun hc63 => ?_)
    · refine ic C 0 d35_70 rfl ?_
      exact Go.more (nb rfl) (nb rfl) (Go.less (os' := [o]) (fun x hx => hx) (J63 (0 : Int32) (by decide)))
    refine ic C 1 d35_66 rfl <| Go.goto C d35_67 ?_
    exact Go.more (nb rfl) (nb rfl) (Go.less (os' := [o]) (fun x hx => hx) (J63 (1 : Int32) (by decide)))
  intro pz hpz
  refine Go.istore C d35_71 (Ls' := #[vr o, vi (-1), vr m, vi 2, vi ((32 : Int32) + r49), vi pz, su]) rfl <| ic C 1 d35_73 rfl <| Go.istore C d35_74 (Ls' := #[vr o, vi (-1), vr m, vi 2, vi ((32 : Int32) + r49), vi pz, vi 1]) rfl <| il C d35_76 rfl <| iN C d35_78 rfl <| icmpgeF C d35_79 (by decide) <| il C d35_82 rfl ?_
  suffices J84 : ∀ p5 p6 : Int32, Go k h [o] 0 0 110 #[vr o, vi (-1), vr m, vi 2, vi ((32 : Int32) + r49), vi p5, vi p6] [] by
    refine Go.ifeq C d35_84 (fun _ => ?_) (fun _ => ?_)
    · exact J84 _ _
    refine aN C d35_87 rfl <| gF C O 0 rfl rfl (w_160 hW) d35_88 <| il C d35_91 rfl <| Go.iaload C V 1 (by decide) rfl rfl d35_93 <| Go.ifne C d35_94 (fun hb => ?_) (fun hb => ?_)
    · refine ic C 0 d35_101 rfl <| Go.istore C d35_102 (Ls' := #[vr o, vi (-1), vr m, vi 2, vi ((32 : Int32) + r49), vi 0, vi 1]) rfl <| Go.iinc C 2 d35_104 rfl rfl (Ls' := #[vr o, vi (-1), vr m, vi 2, vi ((32 : Int32) + r49), vi 0, vi 2]) rfl <| Go.goto C d35_107 <| il C d35_76 rfl <| iN C d35_78 rfl <| icmpgeT C d35_79 (by decide) ?_
      exact J84 _ _
    refine ic C 1 d35_97 rfl <| Go.goto C d35_98 <| Go.istore C d35_102 (Ls' := #[vr o, vi (-1), vr m, vi 2, vi ((32 : Int32) + r49), vi 1, vi 1]) rfl <| Go.iinc C 2 d35_104 rfl rfl (Ls' := #[vr o, vi (-1), vr m, vi 2, vi ((32 : Int32) + r49), vi 1, vi 2]) rfl <| Go.goto C d35_107 <| il C d35_76 rfl <| iN C d35_78 rfl <| icmpgeT C d35_79 (by decide) ?_
    exact J84 _ _
  intro p5 p6
  refine il C d35_110 rfl <| Go.ifeq C d35_112 (fun hc112 => ?_) (fun hc112 => ?_)
  · refine il C d35_122 rfl <| Go.istoreN C d35_124 (Ls' := #[vr o, vi ((32 : Int32) + r49), vr m, vi 2, vi ((32 : Int32) + r49), vi p5, vi p6]) rfl <| Go.goto C d35_125 <| aN C d35_131 rfl <| iN C d35_132 rfl <| ic C 1 d35_133 rfl <| Go.iadd C d35_134 <| Go.putF C O (mi 0 rfl) 2 rfl (w_211 hW) Via.refl (Or.inl (w_212 hW)) (w_133 hW) (fl_3 hW) nd_3 (ty := .int) (by decide +kernel) (v' := (.int (((32 : Int32) + r49) + 1))) rfl rfl (vs' := [.ref m, .int (-1), (.int (((32 : Int32) + r49) + 1)), .int 0]) rfl d35_135 (fun h59 K60 O => ?_)
    refine iN C d35_138 rfl <| Go.ireturn C d35_139 (nb rfl) (nb rfl) (by simp) rfl [] nx ?_
    exact ⟨_, _, rfl, rfl, (o_bl2 p50 hp2).1, O⟩
  refine il C d35_115 rfl <| ic C 1 d35_117 rfl <| Go.isub C d35_118 <| Go.goto C d35_119 <| Go.istoreN C d35_124 (Ls' := #[vr o, vi (((32 : Int32) + r49) - 1), vr m, vi 2, vi ((32 : Int32) + r49), vi p5, vi p6]) rfl <| Go.goto C d35_125 <| aN C d35_131 rfl <| iN C d35_132 rfl <| ic C 1 d35_133 rfl <| Go.iadd C d35_134 <| Go.putF C O (mi 0 rfl) 2 rfl (w_211 hW) Via.refl (Or.inl (w_212 hW)) (w_133 hW) (fl_3 hW) nd_3 (ty := .int) (by decide +kernel) (v' := (.int ((((32 : Int32) + r49) - 1) + 1))) rfl rfl (vs' := [.ref m, .int (-1), (.int ((((32 : Int32) + r49) - 1) + 1)), .int 0]) rfl d35_135 (fun h61 K62 O => ?_)
  refine iN C d35_138 rfl <| Go.ireturn C d35_139 (nb rfl) (nb rfl) (by simp) rfl [] nx ?_
  exact ⟨_, _, rfl, rfl, (o_bl2 p50 hp2).2, O⟩
theorem rmsi1 (hW : W0 Z a0) (h : Heap) (o m : Addr) (b f : Int32) (O : Obj Z h o "java/math/BigInteger" f_3 [.ref m, .int 0, .int b, .int f]) :
    Con l Z o_EL true y_32 c40 1 (some .int) ⟨0, 0, 0, 0⟩ [] #[.ref o] h [] (fun v h' os' => v = some (.int 0) ∧ os' = [] ∧ h = h') := by
  refine Con.intro (Ls := #[vr o]) (by decide +kernel) (o_ew hW) (fun _ => en (by simp [argsToLocals, Value.category])) ?_
  intro k C
  refine aN C d40_0 rfl <| gF C O 1 rfl rfl (w_162 hW) d40_1 <| ifgeT C d40_4 (by decide) <| ic C 0 d40_11 rfl <| Go.ireturn C d40_12 (nb rfl) (nb rfl) (by simp) rfl [] nx ?_
  exact ⟨rfl, rfl, rfl⟩
theorem rmsi2 (hW : W0 Z a0) (h : Heap) (o m : Addr) (b f : Int32) (O : Obj Z h o "java/math/BigInteger" f_3 [.ref m, .int 1, .int b, .int f]) :
    Con l Z o_EL true y_32 c40 1 (some .int) ⟨0, 0, 0, 0⟩ [] #[.ref o] h [] (fun v h' os' => v = some (.int 0) ∧ os' = [] ∧ h = h') := by
  refine Con.intro (Ls := #[vr o]) (by decide +kernel) (o_ew hW) (fun _ => en (by simp [argsToLocals, Value.category])) ?_
  intro k C
  refine aN C d40_0 rfl <| gF C O 1 rfl rfl (w_162 hW) d40_1 <| ifgeT C d40_4 (by decide) <| ic C 0 d40_11 rfl <| Go.ireturn C d40_12 (nb rfl) (nb rfl) (by simp) rfl [] nx ?_
  exact ⟨rfl, rfl, rfl⟩
theorem rmsi0 (hW : W0 Z a0) (h : Heap) (o m : Addr) (b f : Int32) (O : Obj Z h o "java/math/BigInteger" f_3 [.ref m, .int (-1), .int b, .int f]) :
    Con l Z o_EL true y_32 c40 1 (some .int) ⟨0, 0, 0, 0⟩ [] #[.ref o] h [] (fun v h' os' => v = some (.int (-1)) ∧ os' = [] ∧ h = h') := by
  refine Con.intro (Ls := #[vr o]) (by decide +kernel) (o_ew hW) (fun _ => en (by simp [argsToLocals, Value.category])) ?_
  intro k C
  refine aN C d40_0 rfl <| gF C O 1 rfl rfl (w_162 hW) d40_1 <| ifgeF C d40_4 (by decide) <| ic C (-1) d40_7 (by decide) <| Go.goto C d40_8 <| Go.ireturn C d40_12 (nb rfl) (nb rfl) (by simp) rfl [] nx ?_
  exact ⟨rfl, rfl, rfl⟩
theorem rmfnN1 (hW : W0 Z a0) (h : Heap) (o m : Addr) (b m0 : Int32) (O : Obj Z h o "java/math/BigInteger" f_3 [.ref m, .int (-1), .int b, .int 0]) (V : Av Z h m .int [.int m0]) (hm0 : ¬ m0 = 0) (hmo : m ≠ o) :
    Con l Z o_EL true y_33 c44 4 (some .int) ⟨0, 0, 0, 0⟩ [] #[.ref o] h [o] (fun v h' os' => v = some (.int 0) ∧ os' = [] ∧ Obj Z h' o "java/math/BigInteger" f_3 [.ref m, .int (-1), .int b, .int 2]) := by
  refine Con.intro (Ls := #[vr o, su, su, su]) (by decide +kernel) (o_ew hW) (fun _ => en (by simp [argsToLocals, Value.category])) ?_
  intro k C
  refine aN C d44_0 rfl <| gF C O 3 rfl rfl (w_256 hW) d44_1 <| ic C 2 d44_4 rfl <| Go.isub C d44_5 <| gq (-2) rfl <| Go.istoreN C d44_6 (Ls' := #[vr o, vi (-2), su, su]) rfl <| iN C d44_7 rfl <| Go.bipush C (-2) d44_8 (by decide) <| icmpneF C d44_10 (by decide) <| aN C d44_13 rfl <| gF C O 0 rfl rfl (w_160 hW) d44_14 <| Go.arraylength C V (1 : Int32) rfl d44_17 <| Go.istoreN C d44_18 (Ls' := #[vr o, vi (-2), su, vi 1]) rfl <| iN C d44_19 rfl <| ic C 1 d44_20 rfl <| Go.isub C d44_21 <| gq 0 rfl <| Go.istoreN C d44_22 (Ls' := #[vr o, vi (-2), vi 0, vi 1]) rfl <| iN C d44_23 rfl <| ifltF C d44_24 (by decide) <| aN C d44_27 rfl <| gF C O 0 rfl rfl (w_160 hW) d44_28 <| iN C d44_31 rfl <| Go.iaload C V 0 (by decide) rfl rfl d44_32 <| Go.ifne C d44_33 (fun hc33 => ?_) (fun hc33 => absurd hc33 hm0)
  refine iN C d44_42 rfl <| iN C d44_43 rfl <| Go.isub C d44_44 <| gq 1 rfl <| ic C 1 d44_45 rfl <| Go.isub C d44_46 <| gq 0 rfl <| Go.istoreN C d44_47 (Ls' := #[vr o, vi 0, vi 0, vi 1]) rfl <| aN C d44_48 rfl <| iN C d44_49 rfl <| ic C 2 d44_50 rfl <| Go.iadd C d44_51 <| gq 2 rfl <| Go.putF C O (mi 0 rfl) 3 rfl (w_256 hW) Via.refl (Or.inl (w_257 hW)) (w_133 hW) (fl_3 hW) nd_3 (ty := .int) (by decide +kernel) (v' := (.int 2)) rfl rfl (vs' := [.ref m, .int (-1), .int b, .int 2]) rfl d44_52 (fun h1 K2 O => ?_)
  refine iN C d44_55 rfl <| Go.ireturn C d44_56 (nb rfl) (nb rfl) (by simp) rfl [] nx ?_
  exact ⟨rfl, rfl, O⟩
theorem rmfnNa (hW : W0 Z a0) (h : Heap) (o m : Addr) (b p0 m0 : Int32) (O : Obj Z h o "java/math/BigInteger" f_3 [.ref m, .int (-1), .int b, .int 0]) (V : Av Z h m .int [.int p0, .int m0]) (hm0 : ¬ m0 = 0) (hmo : m ≠ o) :
    Con l Z o_EL true y_33 c44 4 (some .int) ⟨0, 0, 0, 0⟩ [] #[.ref o] h [o] (fun v h' os' => v = some (.int 0) ∧ os' = [] ∧ Obj Z h' o "java/math/BigInteger" f_3 [.ref m, .int (-1), .int b, .int 2]) := by
  refine Con.intro (Ls := #[vr o, su, su, su]) (by decide +kernel) (o_ew hW) (fun _ => en (by simp [argsToLocals, Value.category])) ?_
  intro k C
  refine aN C d44_0 rfl <| gF C O 3 rfl rfl (w_256 hW) d44_1 <| ic C 2 d44_4 rfl <| Go.isub C d44_5 <| gq (-2) rfl <| Go.istoreN C d44_6 (Ls' := #[vr o, vi (-2), su, su]) rfl <| iN C d44_7 rfl <| Go.bipush C (-2) d44_8 (by decide) <| icmpneF C d44_10 (by decide) <| aN C d44_13 rfl <| gF C O 0 rfl rfl (w_160 hW) d44_14 <| Go.arraylength C V (2 : Int32) rfl d44_17 <| Go.istoreN C d44_18 (Ls' := #[vr o, vi (-2), su, vi 2]) rfl <| iN C d44_19 rfl <| ic C 1 d44_20 rfl <| Go.isub C d44_21 <| gq 1 rfl <| Go.istoreN C d44_22 (Ls' := #[vr o, vi (-2), vi 1, vi 2]) rfl <| iN C d44_23 rfl <| ifltF C d44_24 (by decide) <| aN C d44_27 rfl <| gF C O 0 rfl rfl (w_160 hW) d44_28 <| iN C d44_31 rfl <| Go.iaload C V 1 (by decide) rfl rfl d44_32 <| Go.ifne C d44_33 (fun hc33 => ?_) (fun hc33 => absurd hc33 hm0)
  refine iN C d44_42 rfl <| iN C d44_43 rfl <| Go.isub C d44_44 <| gq 1 rfl <| ic C 1 d44_45 rfl <| Go.isub C d44_46 <| gq 0 rfl <| Go.istoreN C d44_47 (Ls' := #[vr o, vi 0, vi 1, vi 2]) rfl <| aN C d44_48 rfl <| iN C d44_49 rfl <| ic C 2 d44_50 rfl <| Go.iadd C d44_51 <| gq 2 rfl <| Go.putF C O (mi 0 rfl) 3 rfl (w_256 hW) Via.refl (Or.inl (w_257 hW)) (w_133 hW) (fl_3 hW) nd_3 (ty := .int) (by decide +kernel) (v' := (.int 2)) rfl rfl (vs' := [.ref m, .int (-1), .int b, .int 2]) rfl d44_52 (fun h1 K2 O => ?_)
  refine iN C d44_55 rfl <| Go.ireturn C d44_56 (nb rfl) (nb rfl) (by simp) rfl [] nx ?_
  exact ⟨rfl, rfl, O⟩
theorem rmfnNb (hW : W0 Z a0) (h : Heap) (o m : Addr) (b p0 m0 : Int32) (O : Obj Z h o "java/math/BigInteger" f_3 [.ref m, .int (-1), .int b, .int 0]) (V : Av Z h m .int [.int p0, .int m0]) (hm0 : m0 = 0) (hp0 : ¬ p0 = 0) (hmo : m ≠ o) :
    Con l Z o_EL true y_33 c44 4 (some .int) ⟨0, 0, 0, 0⟩ [] #[.ref o] h [o] (fun v h' os' => v = some (.int 1) ∧ os' = [] ∧ Obj Z h' o "java/math/BigInteger" f_3 [.ref m, .int (-1), .int b, .int 3]) := by
  refine Con.intro (Ls := #[vr o, su, su, su]) (by decide +kernel) (o_ew hW) (fun _ => en (by simp [argsToLocals, Value.category])) ?_
  intro k C
  refine aN C d44_0 rfl <| gF C O 3 rfl rfl (w_256 hW) d44_1 <| ic C 2 d44_4 rfl <| Go.isub C d44_5 <| gq (-2) rfl <| Go.istoreN C d44_6 (Ls' := #[vr o, vi (-2), su, su]) rfl <| iN C d44_7 rfl <| Go.bipush C (-2) d44_8 (by decide) <| icmpneF C d44_10 (by decide) <| aN C d44_13 rfl <| gF C O 0 rfl rfl (w_160 hW) d44_14 <| Go.arraylength C V (2 : Int32) rfl d44_17 <| Go.istoreN C d44_18 (Ls' := #[vr o, vi (-2), su, vi 2]) rfl <| iN C d44_19 rfl <| ic C 1 d44_20 rfl <| Go.isub C d44_21 <| gq 1 rfl <| Go.istoreN C d44_22 (Ls' := #[vr o, vi (-2), vi 1, vi 2]) rfl <| iN C d44_23 rfl <| ifltF C d44_24 (by decide) <| aN C d44_27 rfl <| gF C O 0 rfl rfl (w_160 hW) d44_28 <| iN C d44_31 rfl <| Go.iaload C V 1 (by decide) rfl rfl d44_32 <| Go.ifne C d44_33 (fun hc33 => absurd hm0 hc33) (fun hc33 => ?_)
  refine Go.iinc C 0 d44_36 rfl (by  decide) (Ls' := #[vr o, vi (-2), vi 0, vi 2]) rfl <| Go.goto C d44_39 <| iN C d44_23 rfl <| ifltF C d44_24 (by decide) <| aN C d44_27 rfl <| gF C O 0 rfl rfl (w_160 hW) d44_28 <| iN C d44_31 rfl <| Go.iaload C V 0 (by decide) rfl rfl d44_32 <| Go.ifne C d44_33 (fun hc33 => ?_) (fun hc33 => absurd hc33 hp0)
  refine iN C d44_42 rfl <| iN C d44_43 rfl <| Go.isub C d44_44 <| gq 2 rfl <| ic C 1 d44_45 rfl <| Go.isub C d44_46 <| gq 1 rfl <| Go.istoreN C d44_47 (Ls' := #[vr o, vi 1, vi 0, vi 2]) rfl <| aN C d44_48 rfl <| iN C d44_49 rfl <| ic C 2 d44_50 rfl <| Go.iadd C d44_51 <| gq 3 rfl <| Go.putF C O (mi 0 rfl) 3 rfl (w_256 hW) Via.refl (Or.inl (w_257 hW)) (w_133 hW) (fl_3 hW) nd_3 (ty := .int) (by decide +kernel) (v' := (.int 3)) rfl rfl (vs' := [.ref m, .int (-1), .int b, .int 3]) rfl d44_52 (fun h1 K2 O => ?_)
  refine iN C d44_55 rfl <| Go.ireturn C d44_56 (nb rfl) (nb rfl) (by simp) rfl [] nx ?_
  exact ⟨rfl, rfl, O⟩
theorem rmfr0 (hW : W0 Z a0) (h : Heap) (o m : Addr) (b : Int32) (O : Obj Z h o "java/math/BigInteger" f_3 [.ref m, .int (-1), .int b, .int 2]) :
    Con l Z o_EL true y_33 c44 4 (some .int) ⟨0, 0, 0, 0⟩ [] #[.ref o] h [] (fun v h' os' => v = some (.int 0) ∧ os' = [] ∧ h = h') := by
  refine Con.intro (Ls := #[vr o, su, su, su]) (by decide +kernel) (o_ew hW) (fun _ => en (by simp [argsToLocals, Value.category])) ?_
  intro k C
  refine aN C d44_0 rfl <| gF C O 3 rfl rfl (w_256 hW) d44_1 <| ic C 2 d44_4 rfl <| Go.isub C d44_5 <| gq 0 rfl <| Go.istoreN C d44_6 (Ls' := #[vr o, vi 0, su, su]) rfl <| iN C d44_7 rfl <| Go.bipush C (-2) d44_8 (by decide) <| icmpneT C d44_10 (by decide) <| iN C d44_55 rfl <| Go.ireturn C d44_56 (nb rfl) (nb rfl) (by simp) rfl [] nx ?_
  exact ⟨rfl, rfl, rfl⟩
theorem rmfr1 (hW : W0 Z a0) (h : Heap) (o m : Addr) (b : Int32) (O : Obj Z h o "java/math/BigInteger" f_3 [.ref m, .int (-1), .int b, .int 3]) :
    Con l Z o_EL true y_33 c44 4 (some .int) ⟨0, 0, 0, 0⟩ [] #[.ref o] h [] (fun v h' os' => v = some (.int 1) ∧ os' = [] ∧ h = h') := by
  refine Con.intro (Ls := #[vr o, su, su, su]) (by decide +kernel) (o_ew hW) (fun _ => en (by simp [argsToLocals, Value.category])) ?_
  intro k C
  refine aN C d44_0 rfl <| gF C O 3 rfl rfl (w_256 hW) d44_1 <| ic C 2 d44_4 rfl <| Go.isub C d44_5 <| gq 1 rfl <| Go.istoreN C d44_6 (Ls' := #[vr o, vi 1, su, su]) rfl <| iN C d44_7 rfl <| Go.bipush C (-2) d44_8 (by decide) <| icmpneT C d44_10 (by decide) <| iN C d44_55 rfl <| Go.ireturn C d44_56 (nb rfl) (nb rfl) (by simp) rfl [] nx ?_
  exact ⟨rfl, rfl, rfl⟩
theorem rmgiZ1 (hW : W0 Z a0) (h : Heap) (o m : Addr) (b : Int32) (O : Obj Z h o "java/math/BigInteger" f_3 [.ref m, .int 0, .int b, .int 0]) (V : Av Z h m .int []) (hmo : m ≠ o) :
    Con l Z o_EL true y_34 c39 3 (some .int) ⟨1, 0, 0, 20⟩ [] #[.ref o, .int 1] h [] (fun v h' os' => v = some (.int 0) ∧ os' = [] ∧ h = h') := by
  refine Con.intro (Ls := #[vr o, vi 1, su]) (by decide +kernel) (o_ew hW) (fun _ => en (by simp [argsToLocals, Value.category])) ?_
  intro k C
  refine iN C d39_0 rfl <| ifgeT C d39_1 (by decide) <| iN C d39_6 rfl <| aN C d39_7 rfl <| gF C O 0 rfl rfl (w_160 hW) d39_8 <| Go.arraylength C V (0 : Int32) rfl d39_11 <| icmpltF C d39_12 (by decide) <| aN C d39_15 rfl <| Go.callP C (z := y_32) (a := o) (argsL := []) (rmsi1 hW h o m b ((0 : Int32)) O) O.1 (w_231 hW) (w_232 hW) (w_234 hW) (w_233 hW) (w_134 hW) (w_235 hW) d39_16 pd_20 rfl (by decide) rfl (st := []) rfl (by decide) (nb rfl) (by decide) (by decide) nx (fun _ _ _ q4 _ _ => ?_)
  obtain ⟨rfl, rfl, rfl⟩ := q4
  show Go k _ _ _ _ _ _ [.int 0]
  refine Go.ireturn C d39_19 (nb rfl) (nb rfl) (by simp) rfl [] nx ?_
  exact ⟨rfl, rfl, rfl⟩
theorem rmgiZ0 (hW : W0 Z a0) (h : Heap) (o m : Addr) (b : Int32) (O : Obj Z h o "java/math/BigInteger" f_3 [.ref m, .int 0, .int b, .int 0]) (V : Av Z h m .int []) (hmo : m ≠ o) :
    Con l Z o_EL true y_34 c39 3 (some .int) ⟨1, 0, 0, 20⟩ [] #[.ref o, .int 0] h [] (fun v h' os' => v = some (.int 0) ∧ os' = [] ∧ h = h') := by
  refine Con.intro (Ls := #[vr o, vi 0, su]) (by decide +kernel) (o_ew hW) (fun _ => en (by simp [argsToLocals, Value.category])) ?_
  intro k C
  refine iN C d39_0 rfl <| ifgeT C d39_1 (by decide) <| iN C d39_6 rfl <| aN C d39_7 rfl <| gF C O 0 rfl rfl (w_160 hW) d39_8 <| Go.arraylength C V (0 : Int32) rfl d39_11 <| icmpltF C d39_12 (by decide) <| aN C d39_15 rfl <| Go.callP C (z := y_32) (a := o) (argsL := []) (rmsi1 hW h o m b ((0 : Int32)) O) O.1 (w_231 hW) (w_232 hW) (w_234 hW) (w_233 hW) (w_134 hW) (w_235 hW) d39_16 pd_20 rfl (by decide) rfl (st := []) rfl (by decide) (nb rfl) (by decide) (by decide) nx (fun _ _ _ q4 _ _ => ?_)
  obtain ⟨rfl, rfl, rfl⟩ := q4
  show Go k _ _ _ _ _ _ [.int 0]
  refine Go.ireturn C d39_19 (nb rfl) (nb rfl) (by simp) rfl [] nx ?_
  exact ⟨rfl, rfl, rfl⟩
theorem rmgiP11 (hW : W0 Z a0) (h : Heap) (o m : Addr) (b m0 : Int32) (O : Obj Z h o "java/math/BigInteger" f_3 [.ref m, .int 1, .int b, .int 0]) (V : Av Z h m .int [.int m0]) (hmo : m ≠ o) :
    Con l Z o_EL true y_34 c39 3 (some .int) ⟨1, 0, 0, 20⟩ [] #[.ref o, .int 1] h [] (fun v h' os' => v = some (.int 0) ∧ os' = [] ∧ h = h') := by
  refine Con.intro (Ls := #[vr o, vi 1, su]) (by decide +kernel) (o_ew hW) (fun _ => en (by simp [argsToLocals, Value.category])) ?_
  intro k C
  refine iN C d39_0 rfl <| ifgeT C d39_1 (by decide) <| iN C d39_6 rfl <| aN C d39_7 rfl <| gF C O 0 rfl rfl (w_160 hW) d39_8 <| Go.arraylength C V (1 : Int32) rfl d39_11 <| icmpltF C d39_12 (by decide) <| aN C d39_15 rfl <| Go.callP C (z := y_32) (a := o) (argsL := []) (rmsi2 hW h o m b ((0 : Int32)) O) O.1 (w_231 hW) (w_232 hW) (w_234 hW) (w_233 hW) (w_134 hW) (w_235 hW) d39_16 pd_20 rfl (by decide) rfl (st := []) rfl (by decide) (nb rfl) (by decide) (by decide) nx (fun _ _ _ q4 _ _ => ?_)
  obtain ⟨rfl, rfl, rfl⟩ := q4
  show Go k _ _ _ _ _ _ [.int 0]
  refine Go.ireturn C d39_19 (nb rfl) (nb rfl) (by simp) rfl [] nx ?_
  exact ⟨rfl, rfl, rfl⟩
theorem rmgiP10 (hW : W0 Z a0) (h : Heap) (o m : Addr) (b m0 : Int32) (O : Obj Z h o "java/math/BigInteger" f_3 [.ref m, .int 1, .int b, .int 0]) (V : Av Z h m .int [.int m0]) (hmo : m ≠ o) :
    Con l Z o_EL true y_34 c39 3 (some .int) ⟨1, 0, 0, 20⟩ [] #[.ref o, .int 0] h [] (fun v h' os' => v = some (.int m0) ∧ os' = [] ∧ h = h') := by
  refine Con.intro (Ls := #[vr o, vi 0, su]) (by decide +kernel) (o_ew hW) (fun _ => en (by simp [argsToLocals, Value.category])) ?_
  intro k C
  refine iN C d39_0 rfl <| ifgeT C d39_1 (by decide) <| iN C d39_6 rfl <| aN C d39_7 rfl <| gF C O 0 rfl rfl (w_160 hW) d39_8 <| Go.arraylength C V (1 : Int32) rfl d39_11 <| icmpltT C d39_12 (by decide) <| aN C d39_20 rfl <| gF C O 0 rfl rfl (w_160 hW) d39_21 <| aN C d39_24 rfl <| gF C O 0 rfl rfl (w_160 hW) d39_25 <| Go.arraylength C V (1 : Int32) rfl d39_28 <| iN C d39_29 rfl <| Go.isub C d39_30 <| gq 1 rfl <| ic C 1 d39_31 rfl <| Go.isub C d39_32 <| gq 0 rfl <| Go.iaload C V 0 (by decide) rfl rfl d39_33 <| Go.istoreN C d39_34 (Ls' := #[vr o, vi 0, vi m0]) rfl <| aN C d39_35 rfl <| gF C O 1 rfl rfl (w_162 hW) d39_36 <| ifltF C d39_39 (by decide) <| iN C d39_42 rfl <| Go.goto C d39_43 <| Go.ireturn C d39_62 (nb rfl) (nb rfl) (by simp) rfl [] nx ?_
  exact ⟨rfl, rfl, rfl⟩
theorem rmgiP21 (hW : W0 Z a0) (h : Heap) (o m : Addr) (b p0 m0 : Int32) (O : Obj Z h o "java/math/BigInteger" f_3 [.ref m, .int 1, .int b, .int 0]) (V : Av Z h m .int [.int p0, .int m0]) (hmo : m ≠ o) :
    Con l Z o_EL true y_34 c39 3 (some .int) ⟨1, 0, 0, 20⟩ [] #[.ref o, .int 1] h [] (fun v h' os' => v = some (.int p0) ∧ os' = [] ∧ h = h') := by
  refine Con.intro (Ls := #[vr o, vi 1, su]) (by decide +kernel) (o_ew hW) (fun _ => en (by simp [argsToLocals, Value.category])) ?_
  intro k C
  refine iN C d39_0 rfl <| ifgeT C d39_1 (by decide) <| iN C d39_6 rfl <| aN C d39_7 rfl <| gF C O 0 rfl rfl (w_160 hW) d39_8 <| Go.arraylength C V (2 : Int32) rfl d39_11 <| icmpltT C d39_12 (by decide) <| aN C d39_20 rfl <| gF C O 0 rfl rfl (w_160 hW) d39_21 <| aN C d39_24 rfl <| gF C O 0 rfl rfl (w_160 hW) d39_25 <| Go.arraylength C V (2 : Int32) rfl d39_28 <| iN C d39_29 rfl <| Go.isub C d39_30 <| gq 1 rfl <| ic C 1 d39_31 rfl <| Go.isub C d39_32 <| gq 0 rfl <| Go.iaload C V 0 (by decide) rfl rfl d39_33 <| Go.istoreN C d39_34 (Ls' := #[vr o, vi 1, vi p0]) rfl <| aN C d39_35 rfl <| gF C O 1 rfl rfl (w_162 hW) d39_36 <| ifltF C d39_39 (by decide) <| iN C d39_42 rfl <| Go.goto C d39_43 <| Go.ireturn C d39_62 (nb rfl) (nb rfl) (by simp) rfl [] nx ?_
  exact ⟨rfl, rfl, rfl⟩
theorem rmgiP20 (hW : W0 Z a0) (h : Heap) (o m : Addr) (b p0 m0 : Int32) (O : Obj Z h o "java/math/BigInteger" f_3 [.ref m, .int 1, .int b, .int 0]) (V : Av Z h m .int [.int p0, .int m0]) (hmo : m ≠ o) :
    Con l Z o_EL true y_34 c39 3 (some .int) ⟨1, 0, 0, 20⟩ [] #[.ref o, .int 0] h [] (fun v h' os' => v = some (.int m0) ∧ os' = [] ∧ h = h') := by
  refine Con.intro (Ls := #[vr o, vi 0, su]) (by decide +kernel) (o_ew hW) (fun _ => en (by simp [argsToLocals, Value.category])) ?_
  intro k C
  refine iN C d39_0 rfl <| ifgeT C d39_1 (by decide) <| iN C d39_6 rfl <| aN C d39_7 rfl <| gF C O 0 rfl rfl (w_160 hW) d39_8 <| Go.arraylength C V (2 : Int32) rfl d39_11 <| icmpltT C d39_12 (by decide) <| aN C d39_20 rfl <| gF C O 0 rfl rfl (w_160 hW) d39_21 <| aN C d39_24 rfl <| gF C O 0 rfl rfl (w_160 hW) d39_25 <| Go.arraylength C V (2 : Int32) rfl d39_28 <| iN C d39_29 rfl <| Go.isub C d39_30 <| gq 2 rfl <| ic C 1 d39_31 rfl <| Go.isub C d39_32 <| gq 1 rfl <| Go.iaload C V 1 (by decide) rfl rfl d39_33 <| Go.istoreN C d39_34 (Ls' := #[vr o, vi 0, vi m0]) rfl <| aN C d39_35 rfl <| gF C O 1 rfl rfl (w_162 hW) d39_36 <| ifltF C d39_39 (by decide) <| iN C d39_42 rfl <| Go.goto C d39_43 <| Go.ireturn C d39_62 (nb rfl) (nb rfl) (by simp) rfl [] nx ?_
  exact ⟨rfl, rfl, rfl⟩
theorem rmgiN11 (hW : W0 Z a0) (h : Heap) (o m : Addr) (b m0 : Int32) (O : Obj Z h o "java/math/BigInteger" f_3 [.ref m, .int (-1), .int b, .int 0]) (V : Av Z h m .int [.int m0]) (hm0 : ¬ m0 = 0) (hmo : m ≠ o) :
    Con l Z o_EL true y_34 c39 3 (some .int) ⟨1, 0, 0, 20⟩ [] #[.ref o, .int 1] h [] (fun v h' os' => v = some (.int (-1)) ∧ os' = [] ∧ h = h') := by
  refine Con.intro (Ls := #[vr o, vi 1, su]) (by decide +kernel) (o_ew hW) (fun _ => en (by simp [argsToLocals, Value.category])) ?_
  intro k C
  refine iN C d39_0 rfl <| ifgeT C d39_1 (by decide) <| iN C d39_6 rfl <| aN C d39_7 rfl <| gF C O 0 rfl rfl (w_160 hW) d39_8 <| Go.arraylength C V (1 : Int32) rfl d39_11 <| icmpltF C d39_12 (by decide) <| aN C d39_15 rfl <| Go.callP C (z := y_32) (a := o) (argsL := []) (rmsi0 hW h o m b ((0 : Int32)) O) O.1 (w_231 hW) (w_232 hW) (w_234 hW) (w_233 hW) (w_134 hW) (w_235 hW) d39_16 pd_20 rfl (by decide) rfl (st := []) rfl (by decide) (nb rfl) (by decide) (by decide) nx (fun _ _ _ q4 _ _ => ?_)
  obtain ⟨rfl, rfl, rfl⟩ := q4
  show Go k _ _ _ _ _ _ [.int (-1)]
  refine Go.ireturn C d39_19 (nb rfl) (nb rfl) (by simp) rfl [] nx ?_
  exact ⟨rfl, rfl, rfl⟩
theorem rmgiN10 (hW : W0 Z a0) (h : Heap) (o m : Addr) (b m0 : Int32) (O : Obj Z h o "java/math/BigInteger" f_3 [.ref m, .int (-1), .int b, .int 0]) (V : Av Z h m .int [.int m0]) (hm0 : ¬ m0 = 0) (hmo : m ≠ o) :
    Con l Z o_EL true y_34 c39 3 (some .int) ⟨1, 0, 0, 20⟩ [] #[.ref o, .int 0] h [o] (fun v h' os' => v = some (.int (-m0)) ∧ os' = [] ∧ Obj Z h' o "java/math/BigInteger" f_3 [.ref m, .int (-1), .int b, .int 2]) := by
  refine Con.intro (Ls := #[vr o, vi 0, su]) (by decide +kernel) (o_ew hW) (fun _ => en (by simp [argsToLocals, Value.category])) ?_
  intro k C
  refine iN C d39_0 rfl <| ifgeT C d39_1 (by decide) <| iN C d39_6 rfl <| aN C d39_7 rfl <| gF C O 0 rfl rfl (w_160 hW) d39_8 <| Go.arraylength C V (1 : Int32) rfl d39_11 <| icmpltT C d39_12 (by decide) <| aN C d39_20 rfl <| gF C O 0 rfl rfl (w_160 hW) d39_21 <| aN C d39_24 rfl <| gF C O 0 rfl rfl (w_160 hW) d39_25 <| Go.arraylength C V (1 : Int32) rfl d39_28 <| iN C d39_29 rfl <| Go.isub C d39_30 <| gq 1 rfl <| ic C 1 d39_31 rfl <| Go.isub C d39_32 <| gq 0 rfl <| Go.iaload C V 0 (by decide) rfl rfl d39_33 <| Go.istoreN C d39_34 (Ls' := #[vr o, vi 0, vi m0]) rfl <| aN C d39_35 rfl <| gF C O 1 rfl rfl (w_162 hW) d39_36 <| ifltT C d39_39 (by decide) <| iN C d39_46 rfl <| aN C d39_47 rfl <| Go.callP C (z := y_33) (a := o) (argsL := []) (rmfnN1 hW h o m b m0 O V hm0 hmo) O.1 (w_251 hW) (w_252 hW) (w_254 hW) (w_253 hW) (w_134 hW) (w_255 hW) d39_48 pd_20 rfl (by decide) rfl (st := [.int 0]) rfl (by decide) (nb rfl) (by decide) (by decide) (fm ⟨(mi 0 rfl), nx⟩) (fun _ _ _ q4 _ _ => ?_)
  obtain ⟨rfl, rfl, F7⟩ := q4
  show Go k _ _ _ _ _ _ [.int 0, .int 0]
  refine icmpgtF C d39_51 (by decide) <| iN C d39_54 rfl <| Go.ineg C d39_55 <| Go.goto C d39_56 <| Go.ireturn C d39_62 (nb rfl) (nb rfl) (by simp) rfl [] nx ?_
  exact ⟨rfl, rfl, F7⟩
theorem rmgiNa1 (hW : W0 Z a0) (h : Heap) (o m : Addr) (b p0 m0 : Int32) (O : Obj Z h o "java/math/BigInteger" f_3 [.ref m, .int (-1), .int b, .int 0]) (V : Av Z h m .int [.int p0, .int m0]) (hm0 : ¬ m0 = 0) (hmo : m ≠ o) :
    Con l Z o_EL true y_34 c39 3 (some .int) ⟨1, 0, 0, 20⟩ [] #[.ref o, .int 1] h [o] (fun v h' os' => v = some (.int (p0 ^^^ (-1 : Int32))) ∧ os' = [] ∧ Obj Z h' o "java/math/BigInteger" f_3 [.ref m, .int (-1), .int b, .int 2]) := by
  refine Con.intro (Ls := #[vr o, vi 1, su]) (by decide +kernel) (o_ew hW) (fun _ => en (by simp [argsToLocals, Value.category])) ?_
  intro k C
  refine iN C d39_0 rfl <| ifgeT C d39_1 (by decide) <| iN C d39_6 rfl <| aN C d39_7 rfl <| gF C O 0 rfl rfl (w_160 hW) d39_8 <| Go.arraylength C V (2 : Int32) rfl d39_11 <| icmpltT C d39_12 (by decide) <| aN C d39_20 rfl <| gF C O 0 rfl rfl (w_160 hW) d39_21 <| aN C d39_24 rfl <| gF C O 0 rfl rfl (w_160 hW) d39_25 <| Go.arraylength C V (2 : Int32) rfl d39_28 <| iN C d39_29 rfl <| Go.isub C d39_30 <| gq 1 rfl <| ic C 1 d39_31 rfl <| Go.isub C d39_32 <| gq 0 rfl <| Go.iaload C V 0 (by decide) rfl rfl d39_33 <| Go.istoreN C d39_34 (Ls' := #[vr o, vi 1, vi p0]) rfl <| aN C d39_35 rfl <| gF C O 1 rfl rfl (w_162 hW) d39_36 <| ifltT C d39_39 (by decide) <| iN C d39_46 rfl <| aN C d39_47 rfl <| Go.callP C (z := y_33) (a := o) (argsL := []) (rmfnNa hW h o m b p0 m0 O V hm0 hmo) O.1 (w_251 hW) (w_252 hW) (w_254 hW) (w_253 hW) (w_134 hW) (w_255 hW) d39_48 pd_20 rfl (by decide) rfl (st := [.int 1]) rfl (by decide) (nb rfl) (by decide) (by decide) (fm ⟨(mi 0 rfl), nx⟩) (fun _ _ _ q4 _ _ => ?_)
  obtain ⟨rfl, rfl, F7⟩ := q4
  show Go k _ _ _ _ _ _ [.int 0, .int 1]
  refine icmpgtT C d39_51 (by decide) <| iN C d39_59 rfl <| ic C (-1) d39_60 (by decide) <| Go.ixor C d39_61 <| Go.ireturn C d39_62 (nb rfl) (nb rfl) (by simp) rfl [] nx ?_
  exact ⟨rfl, rfl, F7⟩
theorem rmgiNa0 (hW : W0 Z a0) (h : Heap) (o m : Addr) (b p0 m0 : Int32) (O : Obj Z h o "java/math/BigInteger" f_3 [.ref m, .int (-1), .int b, .int 2]) (V : Av Z h m .int [.int p0, .int m0]) (hm0 : ¬ m0 = 0) (hmo : m ≠ o) :
    Con l Z o_EL true y_34 c39 3 (some .int) ⟨1, 0, 0, 20⟩ [] #[.ref o, .int 0] h [] (fun v h' os' => v = some (.int (-m0)) ∧ os' = [] ∧ h = h') := by
  refine Con.intro (Ls := #[vr o, vi 0, su]) (by decide +kernel) (o_ew hW) (fun _ => en (by simp [argsToLocals, Value.category])) ?_
  intro k C
  refine iN C d39_0 rfl <| ifgeT C d39_1 (by decide) <| iN C d39_6 rfl <| aN C d39_7 rfl <| gF C O 0 rfl rfl (w_160 hW) d39_8 <| Go.arraylength C V (2 : Int32) rfl d39_11 <| icmpltT C d39_12 (by decide) <| aN C d39_20 rfl <| gF C O 0 rfl rfl (w_160 hW) d39_21 <| aN C d39_24 rfl <| gF C O 0 rfl rfl (w_160 hW) d39_25 <| Go.arraylength C V (2 : Int32) rfl d39_28 <| iN C d39_29 rfl <| Go.isub C d39_30 <| gq 2 rfl <| ic C 1 d39_31 rfl <| Go.isub C d39_32 <| gq 1 rfl <| Go.iaload C V 1 (by decide) rfl rfl d39_33 <| Go.istoreN C d39_34 (Ls' := #[vr o, vi 0, vi m0]) rfl <| aN C d39_35 rfl <| gF C O 1 rfl rfl (w_162 hW) d39_36 <| ifltT C d39_39 (by decide) <| iN C d39_46 rfl <| aN C d39_47 rfl <| Go.callP C (z := y_33) (a := o) (argsL := []) (rmfr0 hW h o m b O) O.1 (w_251 hW) (w_252 hW) (w_254 hW) (w_253 hW) (w_134 hW) (w_255 hW) d39_48 pd_20 rfl (by decide) rfl (st := [.int 0]) rfl (by decide) (nb rfl) (by decide) (by decide) nx (fun _ _ _ q4 _ _ => ?_)
  obtain ⟨rfl, rfl, rfl⟩ := q4
  show Go k _ _ _ _ _ _ [.int 0, .int 0]
  refine icmpgtF C d39_51 (by decide) <| iN C d39_54 rfl <| Go.ineg C d39_55 <| Go.goto C d39_56 <| Go.ireturn C d39_62 (nb rfl) (nb rfl) (by simp) rfl [] nx ?_
  exact ⟨rfl, rfl, rfl⟩
theorem rmgiNb1 (hW : W0 Z a0) (h : Heap) (o m : Addr) (b p0 m0 : Int32) (O : Obj Z h o "java/math/BigInteger" f_3 [.ref m, .int (-1), .int b, .int 0]) (V : Av Z h m .int [.int p0, .int m0]) (hm0 : m0 = 0) (hp0 : ¬ p0 = 0) (hmo : m ≠ o) :
    Con l Z o_EL true y_34 c39 3 (some .int) ⟨1, 0, 0, 20⟩ [] #[.ref o, .int 1] h [o] (fun v h' os' => v = some (.int (-p0)) ∧ os' = [] ∧ Obj Z h' o "java/math/BigInteger" f_3 [.ref m, .int (-1), .int b, .int 3]) := by
  refine Con.intro (Ls := #[vr o, vi 1, su]) (by decide +kernel) (o_ew hW) (fun _ => en (by simp [argsToLocals, Value.category])) ?_
  intro k C
  refine iN C d39_0 rfl <| ifgeT C d39_1 (by decide) <| iN C d39_6 rfl <| aN C d39_7 rfl <| gF C O 0 rfl rfl (w_160 hW) d39_8 <| Go.arraylength C V (2 : Int32) rfl d39_11 <| icmpltT C d39_12 (by decide) <| aN C d39_20 rfl <| gF C O 0 rfl rfl (w_160 hW) d39_21 <| aN C d39_24 rfl <| gF C O 0 rfl rfl (w_160 hW) d39_25 <| Go.arraylength C V (2 : Int32) rfl d39_28 <| iN C d39_29 rfl <| Go.isub C d39_30 <| gq 1 rfl <| ic C 1 d39_31 rfl <| Go.isub C d39_32 <| gq 0 rfl <| Go.iaload C V 0 (by decide) rfl rfl d39_33 <| Go.istoreN C d39_34 (Ls' := #[vr o, vi 1, vi p0]) rfl <| aN C d39_35 rfl <| gF C O 1 rfl rfl (w_162 hW) d39_36 <| ifltT C d39_39 (by decide) <| iN C d39_46 rfl <| aN C d39_47 rfl <| Go.callP C (z := y_33) (a := o) (argsL := []) (rmfnNb hW h o m b p0 m0 O V hm0 hp0 hmo) O.1 (w_251 hW) (w_252 hW) (w_254 hW) (w_253 hW) (w_134 hW) (w_255 hW) d39_48 pd_20 rfl (by decide) rfl (st := [.int 1]) rfl (by decide) (nb rfl) (by decide) (by decide) (fm ⟨(mi 0 rfl), nx⟩) (fun _ _ _ q4 _ _ => ?_)
  obtain ⟨rfl, rfl, F7⟩ := q4
  show Go k _ _ _ _ _ _ [.int 1, .int 1]
  refine icmpgtF C d39_51 (by decide) <| iN C d39_54 rfl <| Go.ineg C d39_55 <| Go.goto C d39_56 <| Go.ireturn C d39_62 (nb rfl) (nb rfl) (by simp) rfl [] nx ?_
  exact ⟨rfl, rfl, F7⟩
theorem rmgiNb0 (hW : W0 Z a0) (h : Heap) (o m : Addr) (b p0 m0 : Int32) (O : Obj Z h o "java/math/BigInteger" f_3 [.ref m, .int (-1), .int b, .int 3]) (V : Av Z h m .int [.int p0, .int m0]) (hm0 : m0 = 0) (hp0 : ¬ p0 = 0) (hmo : m ≠ o) :
    Con l Z o_EL true y_34 c39 3 (some .int) ⟨1, 0, 0, 20⟩ [] #[.ref o, .int 0] h [] (fun v h' os' => v = some (.int (-m0)) ∧ os' = [] ∧ h = h') := by
  refine Con.intro (Ls := #[vr o, vi 0, su]) (by decide +kernel) (o_ew hW) (fun _ => en (by simp [argsToLocals, Value.category])) ?_
  intro k C
  refine iN C d39_0 rfl <| ifgeT C d39_1 (by decide) <| iN C d39_6 rfl <| aN C d39_7 rfl <| gF C O 0 rfl rfl (w_160 hW) d39_8 <| Go.arraylength C V (2 : Int32) rfl d39_11 <| icmpltT C d39_12 (by decide) <| aN C d39_20 rfl <| gF C O 0 rfl rfl (w_160 hW) d39_21 <| aN C d39_24 rfl <| gF C O 0 rfl rfl (w_160 hW) d39_25 <| Go.arraylength C V (2 : Int32) rfl d39_28 <| iN C d39_29 rfl <| Go.isub C d39_30 <| gq 2 rfl <| ic C 1 d39_31 rfl <| Go.isub C d39_32 <| gq 1 rfl <| Go.iaload C V 1 (by decide) rfl rfl d39_33 <| Go.istoreN C d39_34 (Ls' := #[vr o, vi 0, vi m0]) rfl <| aN C d39_35 rfl <| gF C O 1 rfl rfl (w_162 hW) d39_36 <| ifltT C d39_39 (by decide) <| iN C d39_46 rfl <| aN C d39_47 rfl <| Go.callP C (z := y_33) (a := o) (argsL := []) (rmfr1 hW h o m b O) O.1 (w_251 hW) (w_252 hW) (w_254 hW) (w_253 hW) (w_134 hW) (w_255 hW) d39_48 pd_20 rfl (by decide) rfl (st := [.int 0]) rfl (by decide) (nb rfl) (by decide) (by decide) nx (fun _ _ _ q4 _ _ => ?_)
  obtain ⟨rfl, rfl, rfl⟩ := q4
  show Go k _ _ _ _ _ _ [.int 1, .int 0]
  refine icmpgtF C d39_51 (by decide) <| iN C d39_54 rfl <| Go.ineg C d39_55 <| Go.goto C d39_56 <| Go.ireturn C d39_62 (nb rfl) (nb rfl) (by simp) rfl [] nx ?_
  exact ⟨rfl, rfl, rfl⟩
theorem rm38 (hW : W0 Z a0) (h : Heap) (o : Addr) (b : Int32) (m : Addr) (s : Int32) (M : List Int32) (kk : Int) (O : Obj Z h o "java/math/BigInteger" f_3 [.ref m, .int s, .int b, .int 0]) (V : Av Z h m .int (List.map Value.int M)) (hbi : o_bi s M kk) (hmo : m ≠ o) :
    Con l Z o_EL true y_35 c38 4 (some .long) ⟨2, 0, 0, 40⟩ [] #[.ref o] h [o] (fun v h' os' => v = some (.long (Int64.ofInt kk)) ∧ os' = []) := by
  refine Con.intro (Ls := #[vr o, su, su, su]) (by decide +kernel) (o_ew hW) (fun _ => en (by simp [argsToLocals, Value.category])) ?_
  intro k C
  rcases hbi with ⟨rfl, rfl, hk⟩ | ⟨m0, rfl, rfl, hm0, hk⟩ | ⟨p0, m0, rfl, rfl, hp1, hp2, hk⟩ | ⟨m0, rfl, rfl, hm0, hk⟩ | ⟨p0, m0, rfl, rfl, hp1, hp2, hk⟩
  · have V : Av Z h m .int [] := V
    refine Go.lconst C (0 : Int64) d38_0 (by decide) <| Go.lstoreN C d38_1 (Ls' := #[vr o, .val (.long (0 : Int64)), .second, su]) rfl <| ic C 1 d38_2 rfl <| Go.istoreN C d38_3 (Ls' := #[vr o, .val (.long (0 : Int64)), .second, vi 1]) rfl <| iN C d38_4 rfl <| ifltF C d38_5 (by decide) <| Go.lloadN C d38_8 rfl <| Go.bipush C 32 d38_9 rfl <| Go.lshl C d38_11 <| aN C d38_12 rfl <| iN C d38_13 rfl <| Go.callP C (z := y_34) (a := o) (argsL := [.int 1]) (rmgiZ1 hW h o m b O V hmo) O.1 (w_226 hW) (w_227 hW) (w_229 hW) (w_228 hW) (w_134 hW) (w_230 hW) d38_14 pd_19 rfl (by decide) rfl (st := [(.long ((0 : Int64) <<< ((32 : Int32) &&& 0x3f).toInt64))]) rfl (by decide) (nb rfl) (by decide) (by decide) nx (fun _ _ _ q4 _ _ => ?_)
    obtain ⟨rfl, rfl, rfl⟩ := q4
    show Go k _ _ _ _ _ _ [.int 0, (.long ((0 : Int64) <<< ((32 : Int32) &&& 0x3f).toInt64))]
    refine Go.i2l C d38_17 <| Go.ldcJ C (w_236 hW) d38_18 <| Go.land C d38_21 <| Go.ladd C d38_22 <| Go.lstoreN C d38_23 (Ls' := #[vr o, .val (.long (((0 : Int64) <<< ((32 : Int32) &&& 0x3f).toInt64) + (((0 : Int32).toInt64) &&& (4294967295 : Int64)))), .second, vi 1]) rfl <| Go.iinc C 0 d38_24 rfl (by  decide) (Ls' := #[vr o, .val (.long (((0 : Int64) <<< ((32 : Int32) &&& 0x3f).toInt64) + (((0 : Int32).toInt64) &&& (4294967295 : Int64)))), .second, vi 0]) rfl <| Go.goto C d38_27 <| iN C d38_4 rfl <| ifltF C d38_5 (by decide) <| Go.lloadN C d38_8 rfl <| Go.bipush C 32 d38_9 rfl <| Go.lshl C d38_11 <| aN C d38_12 rfl <| iN C d38_13 rfl <| Go.callP C (z := y_34) (a := o) (argsL := [.int 0]) (rmgiZ0 hW h o m b O V hmo) O.1 (w_226 hW) (w_227 hW) (w_229 hW) (w_228 hW) (w_134 hW) (w_230 hW) d38_14 pd_19 rfl (by decide) rfl (st := [(.long ((((0 : Int64) <<< ((32 : Int32) &&& 0x3f).toInt64) + (((0 : Int32).toInt64) &&& (4294967295 : Int64))) <<< ((32 : Int32) &&& 0x3f).toInt64))]) rfl (by decide) (nb rfl) (by decide) (by decide) nx (fun _ _ _ q10 _ _ => ?_)
    obtain ⟨rfl, rfl, rfl⟩ := q10
    show Go k _ _ _ _ _ _ [.int 0, (.long ((((0 : Int64) <<< ((32 : Int32) &&& 0x3f).toInt64) + (((0 : Int32).toInt64) &&& (4294967295 : Int64))) <<< ((32 : Int32) &&& 0x3f).toInt64))]
    refine Go.i2l C d38_17 <| Go.ldcJ C (w_236 hW) d38_18 <| Go.land C d38_21 <| Go.ladd C d38_22 <| Go.lstoreN C d38_23 (Ls' := #[vr o, .val (.long (((((0 : Int64) <<< ((32 : Int32) &&& 0x3f).toInt64) + (((0 : Int32).toInt64) &&& (4294967295 : Int64))) <<< ((32 : Int32) &&& 0x3f).toInt64) + (((0 : Int32).toInt64) &&& (4294967295 : Int64)))), .second, vi 0]) rfl <| Go.iinc C (-1) d38_24 rfl (by  decide) (Ls' := #[vr o, .val (.long (((((0 : Int64) <<< ((32 : Int32) &&& 0x3f).toInt64) + (((0 : Int32).toInt64) &&& (4294967295 : Int64))) <<< ((32 : Int32) &&& 0x3f).toInt64) + (((0 : Int32).toInt64) &&& (4294967295 : Int64)))), .second, vi (-1)]) rfl <| Go.goto C d38_27 <| iN C d38_4 rfl <| ifltT C d38_5 (by decide) <| Go.lloadN C d38_30 rfl <| Go.eqJ (x' := (Int64.ofInt kk)) (o_lvZ hk) <| Go.lreturn C d38_31 (nb rfl) (nb rfl) [] nx ?_
    exact ⟨rfl, rfl⟩
  · have V : Av Z h m .int [.int m0] := V
    refine Go.lconst C (0 : Int64) d38_0 (by decide) <| Go.lstoreN C d38_1 (Ls' := #[vr o, .val (.long (0 : Int64)), .second, su]) rfl <| ic C 1 d38_2 rfl <| Go.istoreN C d38_3 (Ls' := #[vr o, .val (.long (0 : Int64)), .second, vi 1]) rfl <| iN C d38_4 rfl <| ifltF C d38_5 (by decide) <| Go.lloadN C d38_8 rfl <| Go.bipush C 32 d38_9 rfl <| Go.lshl C d38_11 <| aN C d38_12 rfl <| iN C d38_13 rfl <| Go.callP C (z := y_34) (a := o) (argsL := [.int 1]) (rmgiP11 hW h o m b m0 O V hmo) O.1 (w_226 hW) (w_227 hW) (w_229 hW) (w_228 hW) (w_134 hW) (w_230 hW) d38_14 pd_19 rfl (by decide) rfl (st := [(.long ((0 : Int64) <<< ((32 : Int32) &&& 0x3f).toInt64))]) rfl (by decide) (nb rfl) (by decide) (by decide) nx (fun _ _ _ q16 _ _ => ?_)
    obtain ⟨rfl, rfl, rfl⟩ := q16
    show Go k _ _ _ _ _ _ [.int 0, (.long ((0 : Int64) <<< ((32 : Int32) &&& 0x3f).toInt64))]
    refine Go.i2l C d38_17 <| Go.ldcJ C (w_236 hW) d38_18 <| Go.land C d38_21 <| Go.ladd C d38_22 <| Go.lstoreN C d38_23 (Ls' := #[vr o, .val (.long (((0 : Int64) <<< ((32 : Int32) &&& 0x3f).toInt64) + (((0 : Int32).toInt64) &&& (4294967295 : Int64)))), .second, vi 1]) rfl <| Go.iinc C 0 d38_24 rfl (by  decide) (Ls' := #[vr o, .val (.long (((0 : Int64) <<< ((32 : Int32) &&& 0x3f).toInt64) + (((0 : Int32).toInt64) &&& (4294967295 : Int64)))), .second, vi 0]) rfl <| Go.goto C d38_27 <| iN C d38_4 rfl <| ifltF C d38_5 (by decide) <| Go.lloadN C d38_8 rfl <| Go.bipush C 32 d38_9 rfl <| Go.lshl C d38_11 <| aN C d38_12 rfl <| iN C d38_13 rfl <| Go.callP C (z := y_34) (a := o) (argsL := [.int 0]) (rmgiP10 hW h o m b m0 O V hmo) O.1 (w_226 hW) (w_227 hW) (w_229 hW) (w_228 hW) (w_134 hW) (w_230 hW) d38_14 pd_19 rfl (by decide) rfl (st := [(.long ((((0 : Int64) <<< ((32 : Int32) &&& 0x3f).toInt64) + (((0 : Int32).toInt64) &&& (4294967295 : Int64))) <<< ((32 : Int32) &&& 0x3f).toInt64))]) rfl (by decide) (nb rfl) (by decide) (by decide) nx (fun _ _ _ q22 _ _ => ?_)
    obtain ⟨rfl, rfl, rfl⟩ := q22
    show Go k _ _ _ _ _ _ [.int m0, (.long ((((0 : Int64) <<< ((32 : Int32) &&& 0x3f).toInt64) + (((0 : Int32).toInt64) &&& (4294967295 : Int64))) <<< ((32 : Int32) &&& 0x3f).toInt64))]
    refine Go.i2l C d38_17 <| Go.ldcJ C (w_236 hW) d38_18 <| Go.land C d38_21 <| Go.ladd C d38_22 <| Go.lstoreN C d38_23 (Ls' := #[vr o, .val (.long (((((0 : Int64) <<< ((32 : Int32) &&& 0x3f).toInt64) + (((0 : Int32).toInt64) &&& (4294967295 : Int64))) <<< ((32 : Int32) &&& 0x3f).toInt64) + ((m0.toInt64) &&& (4294967295 : Int64)))), .second, vi 0]) rfl <| Go.iinc C (-1) d38_24 rfl (by  decide) (Ls' := #[vr o, .val (.long (((((0 : Int64) <<< ((32 : Int32) &&& 0x3f).toInt64) + (((0 : Int32).toInt64) &&& (4294967295 : Int64))) <<< ((32 : Int32) &&& 0x3f).toInt64) + ((m0.toInt64) &&& (4294967295 : Int64)))), .second, vi (-1)]) rfl <| Go.goto C d38_27 <| iN C d38_4 rfl <| ifltT C d38_5 (by decide) <| Go.lloadN C d38_30 rfl <| Go.eqJ (x' := (Int64.ofInt kk)) (o_lvP1 hk) <| Go.lreturn C d38_31 (nb rfl) (nb rfl) [] nx ?_
    exact ⟨rfl, rfl⟩
  · have V : Av Z h m .int [.int p0, .int m0] := V
    refine Go.lconst C (0 : Int64) d38_0 (by decide) <| Go.lstoreN C d38_1 (Ls' := #[vr o, .val (.long (0 : Int64)), .second, su]) rfl <| ic C 1 d38_2 rfl <| Go.istoreN C d38_3 (Ls' := #[vr o, .val (.long (0 : Int64)), .second, vi 1]) rfl <| iN C d38_4 rfl <| ifltF C d38_5 (by decide) <| Go.lloadN C d38_8 rfl <| Go.bipush C 32 d38_9 rfl <| Go.lshl C d38_11 <| aN C d38_12 rfl <| iN C d38_13 rfl <| Go.callP C (z := y_34) (a := o) (argsL := [.int 1]) (rmgiP21 hW h o m b p0 m0 O V hmo) O.1 (w_226 hW) (w_227 hW) (w_229 hW) (w_228 hW) (w_134 hW) (w_230 hW) d38_14 pd_19 rfl (by decide) rfl (st := [(.long ((0 : Int64) <<< ((32 : Int32) &&& 0x3f).toInt64))]) rfl (by decide) (nb rfl) (by decide) (by decide) nx (fun _ _ _ q28 _ _ => ?_)
    obtain ⟨rfl, rfl, rfl⟩ := q28
    show Go k _ _ _ _ _ _ [.int p0, (.long ((0 : Int64) <<< ((32 : Int32) &&& 0x3f).toInt64))]
    refine Go.i2l C d38_17 <| Go.ldcJ C (w_236 hW) d38_18 <| Go.land C d38_21 <| Go.ladd C d38_22 <| Go.lstoreN C d38_23 (Ls' := #[vr o, .val (.long (((0 : Int64) <<< ((32 : Int32) &&& 0x3f).toInt64) + ((p0.toInt64) &&& (4294967295 : Int64)))), .second, vi 1]) rfl <| Go.iinc C 0 d38_24 rfl (by  decide) (Ls' := #[vr o, .val (.long (((0 : Int64) <<< ((32 : Int32) &&& 0x3f).toInt64) + ((p0.toInt64) &&& (4294967295 : Int64)))), .second, vi 0]) rfl <| Go.goto C d38_27 <| iN C d38_4 rfl <| ifltF C d38_5 (by decide) <| Go.lloadN C d38_8 rfl <| Go.bipush C 32 d38_9 rfl <| Go.lshl C d38_11 <| aN C d38_12 rfl <| iN C d38_13 rfl <| Go.callP C (z := y_34) (a := o) (argsL := [.int 0]) (rmgiP20 hW h o m b p0 m0 O V hmo) O.1 (w_226 hW) (w_227 hW) (w_229 hW) (w_228 hW) (w_134 hW) (w_230 hW) d38_14 pd_19 rfl (by decide) rfl (st := [(.long ((((0 : Int64) <<< ((32 : Int32) &&& 0x3f).toInt64) + ((p0.toInt64) &&& (4294967295 : Int64))) <<< ((32 : Int32) &&& 0x3f).toInt64))]) rfl (by decide) (nb rfl) (by decide) (by decide) nx (fun _ _ _ q34 _ _ => ?_)
    obtain ⟨rfl, rfl, rfl⟩ := q34
    show Go k _ _ _ _ _ _ [.int m0, (.long ((((0 : Int64) <<< ((32 : Int32) &&& 0x3f).toInt64) + ((p0.toInt64) &&& (4294967295 : Int64))) <<< ((32 : Int32) &&& 0x3f).toInt64))]
    refine Go.i2l C d38_17 <| Go.ldcJ C (w_236 hW) d38_18 <| Go.land C d38_21 <| Go.ladd C d38_22 <| Go.lstoreN C d38_23 (Ls' := #[vr o, .val (.long (((((0 : Int64) <<< ((32 : Int32) &&& 0x3f).toInt64) + ((p0.toInt64) &&& (4294967295 : Int64))) <<< ((32 : Int32) &&& 0x3f).toInt64) + ((m0.toInt64) &&& (4294967295 : Int64)))), .second, vi 0]) rfl <| Go.iinc C (-1) d38_24 rfl (by  decide) (Ls' := #[vr o, .val (.long (((((0 : Int64) <<< ((32 : Int32) &&& 0x3f).toInt64) + ((p0.toInt64) &&& (4294967295 : Int64))) <<< ((32 : Int32) &&& 0x3f).toInt64) + ((m0.toInt64) &&& (4294967295 : Int64)))), .second, vi (-1)]) rfl <| Go.goto C d38_27 <| iN C d38_4 rfl <| ifltT C d38_5 (by decide) <| Go.lloadN C d38_30 rfl <| Go.eqJ (x' := (Int64.ofInt kk)) (o_lvP2 hp2 hk) <| Go.lreturn C d38_31 (nb rfl) (nb rfl) [] nx ?_
    exact ⟨rfl, rfl⟩
  · have V : Av Z h m .int [.int m0] := V
    refine Go.lconst C (0 : Int64) d38_0 (by decide) <| Go.lstoreN C d38_1 (Ls' := #[vr o, .val (.long (0 : Int64)), .second, su]) rfl <| ic C 1 d38_2 rfl <| Go.istoreN C d38_3 (Ls' := #[vr o, .val (.long (0 : Int64)), .second, vi 1]) rfl <| iN C d38_4 rfl <| ifltF C d38_5 (by decide) <| Go.lloadN C d38_8 rfl <| Go.bipush C 32 d38_9 rfl <| Go.lshl C d38_11 <| aN C d38_12 rfl <| iN C d38_13 rfl <| Go.callP C (z := y_34) (a := o) (argsL := [.int 1]) (rmgiN11 hW h o m b m0 O V hm0 hmo) O.1 (w_226 hW) (w_227 hW) (w_229 hW) (w_228 hW) (w_134 hW) (w_230 hW) d38_14 pd_19 rfl (by decide) rfl (st := [(.long ((0 : Int64) <<< ((32 : Int32) &&& 0x3f).toInt64))]) rfl (by decide) (nb rfl) (by decide) (by decide) nx (fun _ _ _ q40 _ _ => ?_)
    obtain ⟨rfl, rfl, rfl⟩ := q40
    show Go k _ _ _ _ _ _ [.int (-1), (.long ((0 : Int64) <<< ((32 : Int32) &&& 0x3f).toInt64))]
    refine Go.i2l C d38_17 <| Go.ldcJ C (w_236 hW) d38_18 <| Go.land C d38_21 <| Go.ladd C d38_22 <| Go.lstoreN C d38_23 (Ls' := #[vr o, .val (.long (((0 : Int64) <<< ((32 : Int32) &&& 0x3f).toInt64) + (((-1 : Int32).toInt64) &&& (4294967295 : Int64)))), .second, vi 1]) rfl <| Go.iinc C 0 d38_24 rfl (by  decide) (Ls' := #[vr o, .val (.long (((0 : Int64) <<< ((32 : Int32) &&& 0x3f).toInt64) + (((-1 : Int32).toInt64) &&& (4294967295 : Int64)))), .second, vi 0]) rfl <| Go.goto C d38_27 <| iN C d38_4 rfl <| ifltF C d38_5 (by decide) <| Go.lloadN C d38_8 rfl <| Go.bipush C 32 d38_9 rfl <| Go.lshl C d38_11 <| aN C d38_12 rfl <| iN C d38_13 rfl <| Go.callP C (z := y_34) (a := o) (argsL := [.int 0]) (rmgiN10 hW h o m b m0 O V hm0 hmo) O.1 (w_226 hW) (w_227 hW) (w_229 hW) (w_228 hW) (w_134 hW) (w_230 hW) d38_14 pd_19 rfl (by decide) rfl (st := [(.long ((((0 : Int64) <<< ((32 : Int32) &&& 0x3f).toInt64) + (((-1 : Int32).toInt64) &&& (4294967295 : Int64))) <<< ((32 : Int32) &&& 0x3f).toInt64))]) rfl (by decide) (nb rfl) (by decide) (by decide) (fm ⟨(mi 0 rfl), nx⟩) (fun _ _ _ q46 K47 _ => ?_)
    obtain ⟨rfl, rfl, F49⟩ := q46
    replace V := V.keep K47 (ninS hmo nin0)
    show Go k _ _ _ _ _ _ [.int (-m0), (.long ((((0 : Int64) <<< ((32 : Int32) &&& 0x3f).toInt64) + (((-1 : Int32).toInt64) &&& (4294967295 : Int64))) <<< ((32 : Int32) &&& 0x3f).toInt64))]
    refine Go.i2l C d38_17 <| Go.ldcJ C (w_236 hW) d38_18 <| Go.land C d38_21 <| Go.ladd C d38_22 <| Go.lstoreN C d38_23 (Ls' := #[vr o, .val (.long (((((0 : Int64) <<< ((32 : Int32) &&& 0x3f).toInt64) + (((-1 : Int32).toInt64) &&& (4294967295 : Int64))) <<< ((32 : Int32) &&& 0x3f).toInt64) + (((-m0).toInt64) &&& (4294967295 : Int64)))), .second, vi 0]) rfl <| Go.iinc C (-1) d38_24 rfl (by  decide) (Ls' := #[vr o, .val (.long (((((0 : Int64) <<< ((32 : Int32) &&& 0x3f).toInt64) + (((-1 : Int32).toInt64) &&& (4294967295 : Int64))) <<< ((32 : Int32) &&& 0x3f).toInt64) + (((-m0).toInt64) &&& (4294967295 : Int64)))), .second, vi (-1)]) rfl <| Go.goto C d38_27 <| iN C d38_4 rfl <| ifltT C d38_5 (by decide) <| Go.lloadN C d38_30 rfl <| Go.eqJ (x' := (Int64.ofInt kk)) (o_lvN1 hm0 hk) <| Go.lreturn C d38_31 (nb rfl) (nb rfl) [] nx ?_
    exact ⟨rfl, rfl⟩
  have V : Av Z h m .int [.int p0, .int m0] := V
  by_cases hm0 : m0 = 0
  · refine Go.lconst C (0 : Int64) d38_0 (by decide) <| Go.lstoreN C d38_1 (Ls' := #[vr o, .val (.long (0 : Int64)), .second, su]) rfl <| ic C 1 d38_2 rfl <| Go.istoreN C d38_3 (Ls' := #[vr o, .val (.long (0 : Int64)), .second, vi 1]) rfl <| iN C d38_4 rfl <| ifltF C d38_5 (by decide) <| Go.lloadN C d38_8 rfl <| Go.bipush C 32 d38_9 rfl <| Go.lshl C d38_11 <| aN C d38_12 rfl <| iN C d38_13 rfl <| Go.callP C (z := y_34) (a := o) (argsL := [.int 1]) (rmgiNb1 hW h o m b p0 m0 O V hm0 (o_P_ne hp1) hmo) O.1 (w_226 hW) (w_227 hW) (w_229 hW) (w_228 hW) (w_134 hW) (w_230 hW) d38_14 pd_19 rfl (by decide) rfl (st := [(.long ((0 : Int64) <<< ((32 : Int32) &&& 0x3f).toInt64))]) rfl (by decide) (nb rfl) (by decide) (by decide) (fm ⟨(mi 0 rfl), nx⟩) (fun _ h51 _ q53 K54 _ => ?_)
    obtain ⟨rfl, rfl, F56⟩ := q53
    replace V := V.keep K54 (ninS hmo nin0)
    show Go k _ _ _ _ _ _ [.int (-p0), (.long ((0 : Int64) <<< ((32 : Int32) &&& 0x3f).toInt64))]
    refine Go.i2l C d38_17 <| Go.ldcJ C (w_236 hW) d38_18 <| Go.land C d38_21 <| Go.ladd C d38_22 <| Go.lstoreN C d38_23 (Ls' := #[vr o, .val (.long (((0 : Int64) <<< ((32 : Int32) &&& 0x3f).toInt64) + (((-p0).toInt64) &&& (4294967295 : Int64)))), .second, vi 1]) rfl <| Go.iinc C 0 d38_24 rfl (by  decide) (Ls' := #[vr o, .val (.long (((0 : Int64) <<< ((32 : Int32) &&& 0x3f).toInt64) + (((-p0).toInt64) &&& (4294967295 : Int64)))), .second, vi 0]) rfl <| Go.goto C d38_27 <| iN C d38_4 rfl <| ifltF C d38_5 (by decide) <| Go.lloadN C d38_8 rfl <| Go.bipush C 32 d38_9 rfl <| Go.lshl C d38_11 <| aN C d38_12 rfl <| iN C d38_13 rfl <| Go.callP C (z := y_34) (a := o) (argsL := [.int 0]) (rmgiNb0 hW h51 o m b p0 m0 F56 V hm0 (o_P_ne hp1) hmo) F56.1 (w_226 hW) (w_227 hW) (w_229 hW) (w_228 hW) (w_134 hW) (w_230 hW) d38_14 pd_19 rfl (by decide) rfl (st := [(.long ((((0 : Int64) <<< ((32 : Int32) &&& 0x3f).toInt64) + (((-p0).toInt64) &&& (4294967295 : Int64))) <<< ((32 : Int32) &&& 0x3f).toInt64))]) rfl (by decide) (nb rfl) (by decide) (by decide) nx (fun _ _ _ q60 _ _ => ?_)
    obtain ⟨rfl, rfl, rfl⟩ := q60
    show Go k _ _ _ _ _ _ [.int (-m0), (.long ((((0 : Int64) <<< ((32 : Int32) &&& 0x3f).toInt64) + (((-p0).toInt64) &&& (4294967295 : Int64))) <<< ((32 : Int32) &&& 0x3f).toInt64))]
    refine Go.i2l C d38_17 <| Go.ldcJ C (w_236 hW) d38_18 <| Go.land C d38_21 <| Go.ladd C d38_22 <| Go.lstoreN C d38_23 (Ls' := #[vr o, .val (.long (((((0 : Int64) <<< ((32 : Int32) &&& 0x3f).toInt64) + (((-p0).toInt64) &&& (4294967295 : Int64))) <<< ((32 : Int32) &&& 0x3f).toInt64) + (((-m0).toInt64) &&& (4294967295 : Int64)))), .second, vi 0]) rfl <| Go.iinc C (-1) d38_24 rfl (by  decide) (Ls' := #[vr o, .val (.long (((((0 : Int64) <<< ((32 : Int32) &&& 0x3f).toInt64) + (((-p0).toInt64) &&& (4294967295 : Int64))) <<< ((32 : Int32) &&& 0x3f).toInt64) + (((-m0).toInt64) &&& (4294967295 : Int64)))), .second, vi (-1)]) rfl <| Go.goto C d38_27 <| iN C d38_4 rfl <| ifltT C d38_5 (by decide) <| Go.lloadN C d38_30 rfl <| Go.eqJ (x' := (Int64.ofInt kk)) (o_lvNb hp1 hp2 hm0 hk) <| Go.lreturn C d38_31 (nb rfl) (nb rfl) [] nx ?_
    exact ⟨rfl, rfl⟩
  refine Go.lconst C (0 : Int64) d38_0 (by decide) <| Go.lstoreN C d38_1 (Ls' := #[vr o, .val (.long (0 : Int64)), .second, su]) rfl <| ic C 1 d38_2 rfl <| Go.istoreN C d38_3 (Ls' := #[vr o, .val (.long (0 : Int64)), .second, vi 1]) rfl <| iN C d38_4 rfl <| ifltF C d38_5 (by decide) <| Go.lloadN C d38_8 rfl <| Go.bipush C 32 d38_9 rfl <| Go.lshl C d38_11 <| aN C d38_12 rfl <| iN C d38_13 rfl <| Go.callP C (z := y_34) (a := o) (argsL := [.int 1]) (rmgiNa1 hW h o m b p0 m0 O V hm0 hmo) O.1 (w_226 hW) (w_227 hW) (w_229 hW) (w_228 hW) (w_134 hW) (w_230 hW) d38_14 pd_19 rfl (by decide) rfl (st := [(.long ((0 : Int64) <<< ((32 : Int32) &&& 0x3f).toInt64))]) rfl (by decide) (nb rfl) (by decide) (by decide) (fm ⟨(mi 0 rfl), nx⟩) (fun _ h64 _ q66 K67 _ => ?_)
  obtain ⟨rfl, rfl, F69⟩ := q66
  replace V := V.keep K67 (ninS hmo nin0)
  show Go k _ _ _ _ _ _ [.int (p0 ^^^ (-1 : Int32)), (.long ((0 : Int64) <<< ((32 : Int32) &&& 0x3f).toInt64))]
  refine Go.i2l C d38_17 <| Go.ldcJ C (w_236 hW) d38_18 <| Go.land C d38_21 <| Go.ladd C d38_22 <| Go.lstoreN C d38_23 (Ls' := #[vr o, .val (.long (((0 : Int64) <<< ((32 : Int32) &&& 0x3f).toInt64) + (((p0 ^^^ (-1 : Int32)).toInt64) &&& (4294967295 : Int64)))), .second, vi 1]) rfl <| Go.iinc C 0 d38_24 rfl (by  decide) (Ls' := #[vr o, .val (.long (((0 : Int64) <<< ((32 : Int32) &&& 0x3f).toInt64) + (((p0 ^^^ (-1 : Int32)).toInt64) &&& (4294967295 : Int64)))), .second, vi 0]) rfl <| Go.goto C d38_27 <| iN C d38_4 rfl <| ifltF C d38_5 (by decide) <| Go.lloadN C d38_8 rfl <| Go.bipush C 32 d38_9 rfl <| Go.lshl C d38_11 <| aN C d38_12 rfl <| iN C d38_13 rfl <| Go.callP C (z := y_34) (a := o) (argsL := [.int 0]) (rmgiNa0 hW h64 o m b p0 m0 F69 V hm0 hmo) F69.1 (w_226 hW) (w_227 hW) (w_229 hW) (w_228 hW) (w_134 hW) (w_230 hW) d38_14 pd_19 rfl (by decide) rfl (st := [(.long ((((0 : Int64) <<< ((32 : Int32) &&& 0x3f).toInt64) + (((p0 ^^^ (-1 : Int32)).toInt64) &&& (4294967295 : Int64))) <<< ((32 : Int32) &&& 0x3f).toInt64))]) rfl (by decide) (nb rfl) (by decide) (by decide) nx (fun _ _ _ q73 _ _ => ?_)
  obtain ⟨rfl, rfl, rfl⟩ := q73
  show Go k _ _ _ _ _ _ [.int (-m0), (.long ((((0 : Int64) <<< ((32 : Int32) &&& 0x3f).toInt64) + (((p0 ^^^ (-1 : Int32)).toInt64) &&& (4294967295 : Int64))) <<< ((32 : Int32) &&& 0x3f).toInt64))]
  refine Go.i2l C d38_17 <| Go.ldcJ C (w_236 hW) d38_18 <| Go.land C d38_21 <| Go.ladd C d38_22 <| Go.lstoreN C d38_23 (Ls' := #[vr o, .val (.long (((((0 : Int64) <<< ((32 : Int32) &&& 0x3f).toInt64) + (((p0 ^^^ (-1 : Int32)).toInt64) &&& (4294967295 : Int64))) <<< ((32 : Int32) &&& 0x3f).toInt64) + (((-m0).toInt64) &&& (4294967295 : Int64)))), .second, vi 0]) rfl <| Go.iinc C (-1) d38_24 rfl (by  decide) (Ls' := #[vr o, .val (.long (((((0 : Int64) <<< ((32 : Int32) &&& 0x3f).toInt64) + (((p0 ^^^ (-1 : Int32)).toInt64) &&& (4294967295 : Int64))) <<< ((32 : Int32) &&& 0x3f).toInt64) + (((-m0).toInt64) &&& (4294967295 : Int64)))), .second, vi (-1)]) rfl <| Go.goto C d38_27 <| iN C d38_4 rfl <| ifltT C d38_5 (by decide) <| Go.lloadN C d38_30 rfl <| Go.eqJ (x' := (Int64.ofInt kk)) (o_lvNa hp2 hm0 hk) <| Go.lreturn C d38_31 (nb rfl) (nb rfl) [] nx ?_
  exact ⟨rfl, rfl⟩
theorem rm31 (hW : W0 Z a0) (h : Heap) (o m : Addr) (s : Int32) (M : List Int32) (kk : Int) (O : Obj Z h o "java/math/BigInteger" f_3 [.ref m, .int s, .int 0, .int 0]) (V : Av Z h m .int (List.map Value.int M)) (hbi : o_bi s M kk) (hmo : m ≠ o) :
    Con l Z o_EL true y_36 c31 6 (some .long) ⟨0, 0, 0, 0⟩ [] #[.ref o] h [] (fun v h' os' => ∃ r : Int64, v = some (.long r) ∧ os' = [] ∧ h = h') := by
  refine Con.intro (Ls := #[vr o, su, su, su, su, su]) (by decide +kernel) (o_ew hW) (fun _ => en (by simp [argsToLocals, Value.category])) ?_
  intro k C
  rcases hbi with ⟨rfl, rfl, hk⟩ | ⟨m0, rfl, rfl, hm0, hk⟩ | ⟨p0, m0, rfl, rfl, hp1, hp2, hk⟩ | ⟨m0, rfl, rfl, hm0, hk⟩ | ⟨p0, m0, rfl, rfl, hp1, hp2, hk⟩
  · have V : Av Z h m .int [] := V
    refine aN C d31_0 rfl <| gF C O 0 rfl rfl (w_184 hW) d31_1 <| Go.astoreN C d31_4 rfl (Ls' := #[vr o, vr m, su, su, su, su]) rfl <| aN C d31_5 rfl <| Go.arraylength C V (0 : Int32) rfl d31_6 <| Go.istoreN C d31_7 (Ls' := #[vr o, vr m, vi 0, su, su, su]) rfl <| iN C d31_8 rfl <| ifneF C d31_9 (by decide) <| Go.lconst C (0 : Int64) d31_12 (by decide) <| Go.lreturn C d31_13 (nb rfl) (nb rfl) [] nx ?_
    exact ⟨_, rfl, rfl, rfl⟩
  · have V : Av Z h m .int [.int m0] := V
    refine aN C d31_0 rfl <| gF C O 0 rfl rfl (w_184 hW) d31_1 <| Go.astoreN C d31_4 rfl (Ls' := #[vr o, vr m, su, su, su, su]) rfl <| aN C d31_5 rfl <| Go.arraylength C V (1 : Int32) rfl d31_6 <| Go.istoreN C d31_7 (Ls' := #[vr o, vr m, vi 1, su, su, su]) rfl <| iN C d31_8 rfl <| ifneT C d31_9 (by decide) <| aN C d31_14 rfl <| ic C 0 d31_15 rfl <| Go.iaload C V 0 (by decide) rfl rfl d31_16 <| Go.istoreN C d31_17 (Ls' := #[vr o, vr m, vi 1, vi m0, su, su]) rfl <| iN C d31_18 rfl <| ic C 2 d31_19 rfl <| icmpgtF C d31_20 (by decide) <| iN C d31_23 rfl <| ic C 2 d31_24 rfl <| icmpneT C d31_25 (by decide) <| iN C d31_36 rfl <| ic C 2 d31_37 rfl <| icmpneT C d31_38 (by decide) <| iN C d31_58 rfl <| Go.i2l C d31_59 <| Go.ldcJ C (w_185 hW) d31_60 <| Go.land C d31_63 <| Go.lstore C d31_64 (Ls' := #[vr o, vr m, vi 1, vi m0, .val (.long ((m0.toInt64) &&& (4294967295 : Int64))), .second]) rfl <| aN C d31_66 rfl ?_
    refine gF C O 1 rfl rfl (w_186 hW) d31_67 <| ifgeT C d31_70 (by decide) <| Go.lload C d31_79 rfl <| Go.lreturn C d31_81 (nb rfl) (nb rfl) [] nx ?_
    exact ⟨_, rfl, rfl, rfl⟩
  · have V : Av Z h m .int [.int p0, .int m0] := V
    refine aN C d31_0 rfl <| gF C O 0 rfl rfl (w_184 hW) d31_1 <| Go.astoreN C d31_4 rfl (Ls' := #[vr o, vr m, su, su, su, su]) rfl <| aN C d31_5 rfl <| Go.arraylength C V (2 : Int32) rfl d31_6 <| Go.istoreN C d31_7 (Ls' := #[vr o, vr m, vi 2, su, su, su]) rfl <| iN C d31_8 rfl <| ifneT C d31_9 (by decide) <| aN C d31_14 rfl <| ic C 0 d31_15 rfl <| Go.iaload C V 0 (by decide) rfl rfl d31_16 <| Go.istoreN C d31_17 (Ls' := #[vr o, vr m, vi 2, vi p0, su, su]) rfl <| iN C d31_18 rfl <| ic C 2 d31_19 rfl <| icmpgtF C d31_20 (by decide) <| iN C d31_23 rfl <| ic C 2 d31_24 rfl <| icmpneF C d31_25 (by decide) <| iN C d31_28 rfl <| Go.ifge C d31_29 (fun hc29 => ?_) (fun hc29 => absurd hc29 (o_P_nn hp2))
    refine iN C d31_36 rfl <| ic C 2 d31_37 rfl <| icmpneF C d31_38 (by decide) <| aN C d31_41 rfl <| ic C 1 d31_42 rfl <| Go.iaload C V 1 (by decide) rfl rfl d31_43 <| Go.i2l C d31_44 <| Go.ldcJ C (w_185 hW) d31_45 <| Go.land C d31_48 <| iN C d31_49 rfl <| Go.i2l C d31_50 <| Go.bipush C 32 d31_51 rfl <| Go.lshl C d31_53 <| Go.ladd C d31_54 <| Go.goto C d31_55 <| Go.lstore C d31_64 (Ls' := #[vr o, vr m, vi 2, vi p0, .val (.long (((m0.toInt64) &&& (4294967295 : Int64)) + ((p0.toInt64) <<< ((32 : Int32) &&& 0x3f).toInt64))), .second]) rfl <| aN C d31_66 rfl <| gF C O 1 rfl rfl (w_186 hW) d31_67 <| ifgeT C d31_70 (by decide) <| Go.lload C d31_79 rfl <| Go.lreturn C d31_81 (nb rfl) (nb rfl) [] nx ?_
    exact ⟨_, rfl, rfl, rfl⟩
  · have V : Av Z h m .int [.int m0] := V
    refine aN C d31_0 rfl <| gF C O 0 rfl rfl (w_184 hW) d31_1 <| Go.astoreN C d31_4 rfl (Ls' := #[vr o, vr m, su, su, su, su]) rfl <| aN C d31_5 rfl <| Go.arraylength C V (1 : Int32) rfl d31_6 <| Go.istoreN C d31_7 (Ls' := #[vr o, vr m, vi 1, su, su, su]) rfl <| iN C d31_8 rfl <| ifneT C d31_9 (by decide) <| aN C d31_14 rfl <| ic C 0 d31_15 rfl <| Go.iaload C V 0 (by decide) rfl rfl d31_16 <| Go.istoreN C d31_17 (Ls' := #[vr o, vr m, vi 1, vi m0, su, su]) rfl <| iN C d31_18 rfl <| ic C 2 d31_19 rfl <| icmpgtF C d31_20 (by decide) <| iN C d31_23 rfl <| ic C 2 d31_24 rfl <| icmpneT C d31_25 (by decide) <| iN C d31_36 rfl <| ic C 2 d31_37 rfl <| icmpneT C d31_38 (by decide) <| iN C d31_58 rfl <| Go.i2l C d31_59 <| Go.ldcJ C (w_185 hW) d31_60 <| Go.land C d31_63 <| Go.lstore C d31_64 (Ls' := #[vr o, vr m, vi 1, vi m0, .val (.long ((m0.toInt64) &&& (4294967295 : Int64))), .second]) rfl <| aN C d31_66 rfl ?_
    refine gF C O 1 rfl rfl (w_186 hW) d31_67 <| ifgeF C d31_70 (by decide) <| Go.lload C d31_73 rfl <| Go.lneg C d31_75 <| Go.goto C d31_76 <| Go.lreturn C d31_81 (nb rfl) (nb rfl) [] nx ?_
    exact ⟨_, rfl, rfl, rfl⟩
  have V : Av Z h m .int [.int p0, .int m0] := V
  refine aN C d31_0 rfl <| gF C O 0 rfl rfl (w_184 hW) d31_1 <| Go.astoreN C d31_4 rfl (Ls' := #[vr o, vr m, su, su, su, su]) rfl <| aN C d31_5 rfl <| Go.arraylength C V (2 : Int32) rfl d31_6 <| Go.istoreN C d31_7 (Ls' := #[vr o, vr m, vi 2, su, su, su]) rfl <| iN C d31_8 rfl <| ifneT C d31_9 (by decide) <| aN C d31_14 rfl <| ic C 0 d31_15 rfl <| Go.iaload C V 0 (by decide) rfl rfl d31_16 <| Go.istoreN C d31_17 (Ls' := #[vr o, vr m, vi 2, vi p0, su, su]) rfl <| iN C d31_18 rfl <| ic C 2 d31_19 rfl <| icmpgtF C d31_20 (by decide) <| iN C d31_23 rfl <| ic C 2 d31_24 rfl <| icmpneF C d31_25 (by decide) <| iN C d31_28 rfl <| Go.ifge C d31_29 (fun hc29 => ?_) (fun hc29 => absurd hc29 (o_P_nn hp2))
  refine iN C d31_36 rfl <| ic C 2 d31_37 rfl <| icmpneF C d31_38 (by decide) <| aN C d31_41 rfl <| ic C 1 d31_42 rfl <| Go.iaload C V 1 (by decide) rfl rfl d31_43 <| Go.i2l C d31_44 <| Go.ldcJ C (w_185 hW) d31_45 <| Go.land C d31_48 <| iN C d31_49 rfl <| Go.i2l C d31_50 <| Go.bipush C 32 d31_51 rfl <| Go.lshl C d31_53 <| Go.ladd C d31_54 <| Go.goto C d31_55 <| Go.lstore C d31_64 (Ls' := #[vr o, vr m, vi 2, vi p0, .val (.long (((m0.toInt64) &&& (4294967295 : Int64)) + ((p0.toInt64) <<< ((32 : Int32) &&& 0x3f).toInt64))), .second]) rfl <| aN C d31_66 rfl <| gF C O 1 rfl rfl (w_186 hW) d31_67 <| ifgeF C d31_70 (by decide) <| Go.lload C d31_73 rfl <| Go.lneg C d31_75 <| Go.goto C d31_76 <| Go.lreturn C d31_81 (nb rfl) (nb rfl) [] nx ?_
  exact ⟨_, rfl, rfl, rfl⟩
theorem rm30 (hW : W0 Z a0) (h : Heap) (o m : Addr) (s : Int32) (mr : Addr) (O : Obj Z h o "java/math/BigInteger" f_3 [.ref m, .int s, .int 0, .int 0]) (hMR : Mr Z "java/math/BigInteger" mr) :
    Con l Z o_EL true y_37 c30 1 (some (.object "java/math/BigInteger")) ⟨1, 0, 0, 40⟩ [] #[.ref o] h [] (fun v h' os' => v = some (.ref o) ∧ os' = [] ∧ h = h') := by
  refine Con.intro (Ls := #[vr o]) (by decide +kernel) (o_ew hW) (fun _ => en (by simp [argsToLocals, Value.category])) ?_
  intro k C
  refine aN C d30_0 rfl <| Go.gcls C O.1 hMR (w_173 hW) (w_174 hW) (w_176 hW) (w_175 hW) (w_177 hW) d30_1 rfl (by decide) (by decide) <| Go.ldcCls C hMR (w_178 hW) d30_4 <| Go.acmp C true d30_6 rfl rfl (decide_eq_true rfl) (pcN := 9) rfl <| aN C d30_9 rfl <| Go.goto C d30_10 <| Go.areturn C d30_30 (nb rfl) (nb rfl) rfl rfl [] nx ?_
  exact ⟨rfl, rfl, rfl⟩
theorem rm29 (hW : W0 Z a0) (h : Heap) (x o : Addr) (sc : Int32) (mr m : Addr) (s : Int32) (M : List Int32) (kk : Int) (X : Obj Z h x "java/math/BigDecimal" f_4 [.null, .long (0 : Int64), .int 0]) (O : Obj Z h o "java/math/BigInteger" f_3 [.ref m, .int s, .int 0, .int 0]) (V : Av Z h m .int (List.map Value.int M)) (hbi : o_bi s M kk) (hmo : m ≠ o) (hMR : Mr Z "java/math/BigInteger" mr) (hox : o ≠ x) (hmx : m ≠ x) :
    Con l Z o_EL true y_38 c29 3 none ⟨2, 0, 0, 60⟩ [] #[.ref x, .ref o, .int sc] h [x] (fun v h' os' => ∃ r : Int64, v = none ∧ os' = [] ∧ Obj Z h' x "java/math/BigDecimal" f_4 [.ref o, .long r, .int sc]) := by
  refine Con.intro (Ls := #[vr x, vr o, vi sc]) (by decide +kernel) (o_ew hW) (fun _ => en (by simp [argsToLocals, Value.category])) ?_
  intro k C
  refine aN C d29_0 rfl <| Go.callI C (z := y_23) (a := x) (argsL := []) (rm25 hW h x) rfl (w_168 hW) (w_143 hW) (w_146 hW) (w_147 hW) d29_1 pd_15 rfl (by decide) rfl (st := []) rfl (by decide) (nb rfl) (by decide) (by decide) nx (fun _ _ _ q4 _ _ => ?_)
  obtain ⟨rfl, rfl, rfl⟩ := q4
  show Go k _ _ _ _ _ _ []
  refine aN C d29_4 rfl <| aN C d29_5 rfl <| Go.callS C (z := y_37) (argsL := [.ref o]) (rm30 hW h o m s mr O hMR) (w_170 hW) (w_171 hW) (w_131 hW) (w_172 hW) d29_6 pd_21 rfl (by decide) rfl (st := [.ref x]) rfl (by decide) (nb rfl) (by decide) (by decide) nx (fun _ _ _ q10 _ _ => ?_)
  obtain ⟨rfl, rfl, rfl⟩ := q10
  show Go k _ _ _ _ _ _ [.ref o, .ref x]
  refine Go.putF C X (mi 0 rfl) 0 rfl (w_179 hW) Via.refl (Or.inr ⟨w_180 hW, rfl, rfl⟩) (w_130 hW) (fl_4 hW) nd_4 (ty := (.object "java/math/BigInteger")) (by decide +kernel) (v' := (.ref o)) rfl rfl (vs' := [.ref o, .long (0 : Int64), .int 0]) rfl d29_9 (fun h13 K14 X => ?_)
  replace O := O.keep K14 (ninS hox nin0)
  replace V := V.keep K14 (ninS hmx nin0)
  refine aN C d29_12 rfl <| aN C d29_13 rfl <| gF C X 0 rfl rfl (w_179 hW) d29_14 <| Go.callS C (z := y_36) (argsL := [.ref o]) (rm31 hW h13 o m s M kk O V hbi hmo) (w_181 hW) (w_182 hW) (w_131 hW) (w_183 hW) d29_17 pd_22 rfl (by decide) rfl (st := [.ref x]) rfl (by decide) (nb rfl) (by decide) (by decide) nx (fun _ _ _ q18 _ _ => ?_)
  obtain ⟨r21, rfl, rfl, rfl⟩ := q18
  show Go k _ _ _ _ _ _ [.long r21, .ref x]
  refine Go.putF C X (mi 0 rfl) 1 rfl (w_187 hW) Via.refl (Or.inr ⟨w_188 hW, rfl, rfl⟩) (w_130 hW) (fl_4 hW) nd_4 (ty := .long) (by decide +kernel) (v' := (.long r21)) rfl rfl (vs' := [.ref o, .long r21, .int 0]) rfl d29_20 (fun h22 K23 X => ?_)
  refine aN C d29_23 rfl <| iN C d29_24 rfl <| Go.putF C X (mi 0 rfl) 2 rfl (w_189 hW) Via.refl (Or.inr ⟨w_190 hW, rfl, rfl⟩) (w_130 hW) (fl_4 hW) nd_4 (ty := .int) (by decide +kernel) (v' := (.int sc)) rfl rfl (vs' := [.ref o, .long r21, .int sc]) rfl d29_25 (fun h24 K25 X => ?_)
  refine Go.retV C d29_28 (nb rfl) (nb rfl) [] nx ?_
  exact ⟨_, rfl, rfl, X⟩
theorem rm32 (hW : W0 Z a0) (h : Heap) (x o : Addr) (r : Int64) (sc : Int32) (X : Obj Z h x "java/math/BigDecimal" f_4 [.ref o, .long r, .int sc]) :
    Con l Z o_EL true y_39 c32 1 (some .int) ⟨0, 0, 0, 0⟩ [] #[.ref x] h [] (fun v h' os' => v = some (.int sc) ∧ os' = [] ∧ h = h') := by
  refine Con.intro (Ls := #[vr x]) (by decide +kernel) (o_ew hW) (fun _ => en (by simp [argsToLocals, Value.category])) ?_
  intro k C
  refine aN C d32_0 rfl <| gF C X 2 rfl rfl (w_189 hW) d32_1 <| Go.ireturn C d32_4 (nb rfl) (nb rfl) (by simp) rfl [] nx ?_
  exact ⟨rfl, rfl, rfl⟩
theorem rm34 (hW : W0 Z a0) (h : Heap) (x o : Addr) (r : Int64) (sc : Int32) (X : Obj Z h x "java/math/BigDecimal" f_4 [.ref o, .long r, .int sc]) :
    Con l Z o_EL true y_40 c34 1 (some (.object "java/math/BigInteger")) ⟨0, 0, 0, 0⟩ [] #[.ref x] h [] (fun v h' os' => v = some (.ref o) ∧ os' = [] ∧ h = h') := by
  refine Con.intro (Ls := #[vr x]) (by decide +kernel) (o_ew hW) (fun _ => en (by simp [argsToLocals, Value.category])) ?_
  intro k C
  refine aN C d34_0 rfl <| gF C X 0 rfl rfl (w_179 hW) d34_1 <| Go.ifnonnullY C d34_4 <| aN C d34_15 rfl <| gF C X 0 rfl rfl (w_179 hW) d34_16 <| Go.areturn C d34_19 (nb rfl) (nb rfl) rfl rfl [] nx ?_
  exact ⟨rfl, rfl, rfl⟩
theorem rm33 (hW : W0 Z a0) (h : Heap) (x o : Addr) (r : Int64) (sc : Int32) (X : Obj Z h x "java/math/BigDecimal" f_4 [.ref o, .long r, .int sc]) :
    Con l Z o_EL true y_41 c33 1 (some (.object "java/math/BigInteger")) ⟨1, 0, 0, 20⟩ [] #[.ref x] h [] (fun v h' os' => v = some (.ref o) ∧ os' = [] ∧ h = h') := by
  refine Con.intro (Ls := #[vr x]) (by decide +kernel) (o_ew hW) (fun _ => en (by simp [argsToLocals, Value.category])) ?_
  intro k C
  refine aN C d33_0 rfl <| Go.callP C (z := y_40) (a := x) (argsL := []) (rm34 hW h x o r sc X) X.1 (w_201 hW) (w_202 hW) (w_204 hW) (w_203 hW) (w_131 hW) (w_205 hW) d33_1 pd_23 rfl (by decide) rfl (st := []) rfl (by decide) (nb rfl) (by decide) (by decide) nx (fun _ _ _ q4 _ _ => ?_)
  obtain ⟨rfl, rfl, rfl⟩ := q4
  show Go k _ _ _ _ _ _ [.ref o]
  refine Go.areturn C d33_4 (nb rfl) (nb rfl) rfl rfl [] nx ?_
  exact ⟨rfl, rfl, rfl⟩
theorem o_lp_R {k : KT} {l : Launch} {Z : State} {a0 : Array Value} (hW : W0 Z a0) {h0 : Heap} {bd o m z y ar mr : Addr} {sc s : Int32} {M : List Int32} {h : Heap} {kk : Int} {QQ : QT}
    (C : Ctx k l y_42 c11 4 (some (.object "java/math/BigDecimal")) ⟨6, 7, 60, 150⟩ Z a0 o_EL true [] h0 QQ) (O : Obj Z h z "com/example/atomicity/atomicity/cdc/DecimalReader" f_2 [.int sc]) (X : Obj Z h bd "java/math/BigDecimal" f_4 [.null, .long (0 : Int64), .int 0]) (B : Obj Z h o "java/math/BigInteger" f_3 [.ref m, .int s, .int 0, .int 0]) (V : Av Z h m .int (List.map Value.int M)) (hbi : o_bi s M kk) (nmo : m ≠ o) (nmb : m ≠ bd) (nbo : bd ≠ o) (hMR : Mr Z "java/math/BigInteger" mr) (ge_o : h0.size ≤ o) (hQ : ∀ (r : Int64) (h' : Heap), Obj Z h' bd "java/math/BigDecimal" f_4 [.ref o, .long r, .int sc] → Obj Z h' o "java/math/BigInteger" f_3 [.ref m, .int s, .int 0, .int 0] → Av Z h' m .int (List.map Value.int M) → QQ (some (.ref bd)) h' [o]) :
    Go k h [o, bd] 7 47 48 #[vr z, vr y, vr ar, su] [.ref o, .ref bd, .ref bd] := by
  refine aN C d11_48 rfl <| gF C O 0 rfl rfl (w_49 hW) d11_49 <| Go.callI C (z := y_38) (a := bd) (argsL := [.ref o, .int sc]) (rm29 hW h bd o sc mr m s M kk X B V hbi nmo hMR (Ne.symm nbo) nmb) rfl (w_165 hW) (w_166 hW) (w_131 hW) (w_167 hW) d11_52 pd_24 rfl (by decide) rfl (st := [.ref bd]) rfl (by decide) (nb rfl) (by decide) (by decide) (fm ⟨(mi 1 rfl), nx⟩) (fun _ _ _ q4 K5 _ => ?_)
  obtain ⟨r7, rfl, rfl, F8⟩ := q4
  replace B := B.keep K5 (ninS (Ne.symm nbo) nin0)
  replace V := V.keep K5 (ninS nmb nin0)
  show Go k _ _ _ _ _ _ [.ref bd]
  refine Go.areturn C d11_55 (nb rfl) (nb rfl) rfl rfl [o] (fm ⟨⟨(mi 0 rfl), ge_o⟩, nx⟩) ?_
  exact hQ _ _ F8 B V
theorem rmR1 (hW : W0 Z a0) (h : Heap) (z y t : Addr) (sc : Int32) (dec fb iso utf zz zm mr : Addr) (q0 q1 x0 : Int32) (O : Obj Z h z "com/example/atomicity/atomicity/cdc/DecimalReader" f_2 [.int sc]) (S : Str Z h y t [(o_sym q0), (o_sym q1), (61 : Int32), (61 : Int32)]) (hSD : o_SD Z dec fb) (hSC : o_SC Z iso utf) (hSZ : o_SZ Z zz zm) (hMR : Mr Z "java/math/BigInteger" mr) (hg0 : o_g1 q0 q1 x0) (hB0 : o_B x0) :
    ConH l Z o_EL true y_42 c11 4 (some (.object "java/math/BigDecimal")) [((7 : Nat), (15 : Nat), (18 : Nat), (33 : Nat))] ⟨6, 7, 60, 150⟩ #[.ref z, .ref y] h [] (fun v h' os' => ∃ bd : Addr, ∃ o : Addr, ∃ m : Addr, ∃ s : Int32, ∃ M : List Int32, ∃ r : Int64, v = some (.ref bd) ∧ os' = [o] ∧ o_bi s M (o_be x0 []) ∧ m ≠ o ∧ bd ≠ o ∧ Obj Z h' bd "java/math/BigDecimal" f_4 [.ref o, .long r, .int sc] ∧ Obj Z h' o "java/math/BigInteger" f_3 [.ref m, .int s, .int 0, .int 0] ∧ Av Z h' m .int (List.map Value.int M)) := by
  refine ConH.intro (Ls := #[vr z, vr y, su, su]) (by decide +kernel) (o_ew hW) (fun _ => en (by simp [argsToLocals, Value.category])) ?_
  intro k C
  obtain ⟨Sd, Od, Sf, Vf⟩ := id hSD
  refine Go.old C (fun X0 => ?_)
  replace Od := Od.k0 (Keep.ofExt X0)
  refine aN C d11_0 rfl <| Go.ldcO C (w_56 hW) (o_sa hW) d11_1 (n := 16) (by decide) (by decide) (by decide) (by decide) (fun tx h1 K1 => ?_)
  replace O := O.k0 K1
  replace S := S.k0 K1
  replace Od := Od.k0 K1
  have l_h1 : h.size ≤ h1.size := Nat.le_trans (Nat.le_refl _) K1.1
  refine Go.callS C (z := y_9) (argsL := [.ref y, .ref tx]) (rm12 hW h1 y tx) (w_59 hW) (w_60 hW) (w_61 hW) (w_62 hW) d11_3 pd_25 rfl (by decide) rfl (st := []) rfl (by decide) (nb rfl) (by decide) (by decide) nx (fun _ _ _ q4 _ _ => ?_)
  obtain ⟨rfl, rfl, rfl⟩ := q4
  show Go k _ _ _ _ _ _ [.ref y]
  refine Go.pop C d11_6 rfl <| Go.callS C (z := y_10) (argsL := []) (rm13 hW h1 dec fb hSD) (w_63 hW) (w_64 hW) (w_65 hW) (w_66 hW) d11_7 pd_26 rfl (by decide) rfl (st := []) rfl (by decide) (nb rfl) (by decide) (by decide) nx (fun _ _ _ q10 _ _ => ?_)
  obtain ⟨rfl, rfl, rfl⟩ := q10
  show Go k _ _ _ _ _ _ [.ref dec]
  refine aN C d11_10 rfl <| Go.callV C (z := y_19) (zr := y_19) (a := dec) (argsL := [.ref y]) (rmT1 hW h1 dec fb iso utf y t q0 q1 x0 S hSD hSC hg0 hB0) Od.1 (w_69 hW) (w_70 hW) (fun hz => notFace_of_selects (args := #[]) (mvT hz (w_72 hW))) (w_72 hW) (w_71 hW) (w_68 hW) (w_73 hW) d11_11 pd_27 rfl (by decide) rfl (st := []) rfl (by decide) (nb rfl) (by decide) (by decide) nx (fun _ h14 _ q16 K17 _ => ?_)
  obtain ⟨r19, rfl, rfl, F20⟩ := q16
  replace O := O.k0 K17
  have l_h14 : h.size ≤ h14.size := Nat.le_trans l_h1 K17.1
  show Go k _ _ _ _ _ _ [.ref r19]
  refine Go.astoreN C d11_14 rfl (Ls' := #[vr z, vr y, vr r19, su]) rfl <| Go.goto C d11_15 <| aN C d11_25 rfl <| Go.arraylength C F20 (1 : Int32) rfl d11_26 <| ifneT C d11_27 (by decide) <| Go.new C (w_129 hW) (w_130 hW) (w_131 hW) (fl_4 hW) dv_4 d11_36 (by decide) (by decide) (fun b21 h22 _ K24 O25 => ?_)
  replace O := O.k0 K24
  replace F20 := F20.k0 K24
  have l_h22 : h.size ≤ h22.size := Nat.le_trans l_h14 K24.1
  refine Go.dup C d11_39 rfl <| Go.new C (w_132 hW) (w_133 hW) (w_134 hW) (fl_3 hW) dv_3 d11_40 (by decide) (by decide) (fun b26 h27 e28 K29 O30 => ?_)
  have ge_b26 : h.size ≤ b26 := Nat.le_trans l_h22 (ge_of e28)
  have n_z_b26 : z ≠ b26 := ne_lt O.lt (ge_of e28)
  have n_r19_b26 : r19 ≠ b26 := ne_lt F20.lt (ge_of e28)
  have n_b21_b26 : b21 ≠ b26 := ne_lt O25.lt (ge_of e28)
  replace O := O.k0 K29
  replace F20 := F20.k0 K29
  replace O25 := O25.k0 K29
  refine Go.dup C d11_43 rfl <| aN C d11_44 rfl ?_
  have lb := O25.lt
  have lo := O30.lt
  refine Go.ownd C (fun OW => ?_)
  have zb := OW b21 (mi 1 rfl)
  have zo := OW b26 (mi 0 rfl)
  refine Go.callI C (z := y_27) (a := b26) (argsL := [.ref r19]) (rmJ1 hW h27 b26 r19 zz zm x0 O30 F20 hSZ hB0 n_r19_b26) rfl (w_135 hW) (w_136 hW) (w_134 hW) (w_137 hW) d11_45 pd_28 rfl (by decide) rfl (st := [.ref b26, .ref b21, .ref b21]) rfl (by decide) (nb rfl) (by decide) (by decide) (fm ⟨(mi 0 rfl), nx⟩) (fun _ _ _ q34 K35 _ => ?_)
  obtain ⟨m37, s38, M39, rfl, rfl, p40, p41, F42, F43⟩ := q34
  replace O := O.keep K35 (ninS n_z_b26 nin0)
  replace O25 := O25.keep K35 (ninS n_b21_b26 nin0)
  show Go k _ _ _ _ _ _ [.ref b26, .ref b21, .ref b21]
  have nmo : m37 ≠ b26 := o_mne p41 zo lo
  have nmb : m37 ≠ b21 := o_mne p41 zb lb
  exact o_lp_R hW C O O25 F42 F43 p40 nmo nmb n_b21_b26 hMR ge_b26 (fun r h' q1 q2 q3 => ⟨_, _, _, _, _, _, rfl, rfl, p40, nmo, n_b21_b26, q1, q2, q3⟩)
theorem rmR2 (hW : W0 Z a0) (h : Heap) (z y t : Addr) (sc : Int32) (dec fb iso utf zz zm mr : Addr) (q0 q1 q2 x0 x1 : Int32) (O : Obj Z h z "com/example/atomicity/atomicity/cdc/DecimalReader" f_2 [.int sc]) (S : Str Z h y t [(o_sym q0), (o_sym q1), (o_sym q2), (61 : Int32)]) (hSD : o_SD Z dec fb) (hSC : o_SC Z iso utf) (hSZ : o_SZ Z zz zm) (hMR : Mr Z "java/math/BigInteger" mr) (hg0 : o_g2 q0 q1 q2 x0 x1) (hB0 : o_B x0) (hB1 : o_B x1) :
    ConH l Z o_EL true y_42 c11 4 (some (.object "java/math/BigDecimal")) [((7 : Nat), (15 : Nat), (18 : Nat), (33 : Nat))] ⟨6, 7, 60, 150⟩ #[.ref z, .ref y] h [] (fun v h' os' => ∃ bd : Addr, ∃ o : Addr, ∃ m : Addr, ∃ s : Int32, ∃ M : List Int32, ∃ r : Int64, v = some (.ref bd) ∧ os' = [o] ∧ o_bi s M (o_be x0 [x1]) ∧ m ≠ o ∧ bd ≠ o ∧ Obj Z h' bd "java/math/BigDecimal" f_4 [.ref o, .long r, .int sc] ∧ Obj Z h' o "java/math/BigInteger" f_3 [.ref m, .int s, .int 0, .int 0] ∧ Av Z h' m .int (List.map Value.int M)) := by
  refine ConH.intro (Ls := #[vr z, vr y, su, su]) (by decide +kernel) (o_ew hW) (fun _ => en (by simp [argsToLocals, Value.category])) ?_
  intro k C
  obtain ⟨Sd, Od, Sf, Vf⟩ := id hSD
  refine Go.old C (fun X0 => ?_)
  replace Od := Od.k0 (Keep.ofExt X0)
  refine aN C d11_0 rfl <| Go.ldcO C (w_56 hW) (o_sa hW) d11_1 (n := 16) (by decide) (by decide) (by decide) (by decide) (fun tx h1 K1 => ?_)
  replace O := O.k0 K1
  replace S := S.k0 K1
  replace Od := Od.k0 K1
  have l_h1 : h.size ≤ h1.size := Nat.le_trans (Nat.le_refl _) K1.1
  refine Go.callS C (z := y_9) (argsL := [.ref y, .ref tx]) (rm12 hW h1 y tx) (w_59 hW) (w_60 hW) (w_61 hW) (w_62 hW) d11_3 pd_25 rfl (by decide) rfl (st := []) rfl (by decide) (nb rfl) (by decide) (by decide) nx (fun _ _ _ q4 _ _ => ?_)
  obtain ⟨rfl, rfl, rfl⟩ := q4
  show Go k _ _ _ _ _ _ [.ref y]
  refine Go.pop C d11_6 rfl <| Go.callS C (z := y_10) (argsL := []) (rm13 hW h1 dec fb hSD) (w_63 hW) (w_64 hW) (w_65 hW) (w_66 hW) d11_7 pd_26 rfl (by decide) rfl (st := []) rfl (by decide) (nb rfl) (by decide) (by decide) nx (fun _ _ _ q10 _ _ => ?_)
  obtain ⟨rfl, rfl, rfl⟩ := q10
  show Go k _ _ _ _ _ _ [.ref dec]
  refine aN C d11_10 rfl <| Go.callV C (z := y_19) (zr := y_19) (a := dec) (argsL := [.ref y]) (rmT2 hW h1 dec fb iso utf y t q0 q1 q2 x0 x1 S hSD hSC hg0 hB0 hB1) Od.1 (w_69 hW) (w_70 hW) (fun hz => notFace_of_selects (args := #[]) (mvT hz (w_72 hW))) (w_72 hW) (w_71 hW) (w_68 hW) (w_73 hW) d11_11 pd_27 rfl (by decide) rfl (st := []) rfl (by decide) (nb rfl) (by decide) (by decide) nx (fun _ h14 _ q16 K17 _ => ?_)
  obtain ⟨r19, rfl, rfl, F20⟩ := q16
  replace O := O.k0 K17
  have l_h14 : h.size ≤ h14.size := Nat.le_trans l_h1 K17.1
  show Go k _ _ _ _ _ _ [.ref r19]
  refine Go.astoreN C d11_14 rfl (Ls' := #[vr z, vr y, vr r19, su]) rfl <| Go.goto C d11_15 <| aN C d11_25 rfl <| Go.arraylength C F20 (2 : Int32) rfl d11_26 <| ifneT C d11_27 (by decide) <| Go.new C (w_129 hW) (w_130 hW) (w_131 hW) (fl_4 hW) dv_4 d11_36 (by decide) (by decide) (fun b21 h22 _ K24 O25 => ?_)
  replace O := O.k0 K24
  replace F20 := F20.k0 K24
  have l_h22 : h.size ≤ h22.size := Nat.le_trans l_h14 K24.1
  refine Go.dup C d11_39 rfl <| Go.new C (w_132 hW) (w_133 hW) (w_134 hW) (fl_3 hW) dv_3 d11_40 (by decide) (by decide) (fun b26 h27 e28 K29 O30 => ?_)
  have ge_b26 : h.size ≤ b26 := Nat.le_trans l_h22 (ge_of e28)
  have n_z_b26 : z ≠ b26 := ne_lt O.lt (ge_of e28)
  have n_r19_b26 : r19 ≠ b26 := ne_lt F20.lt (ge_of e28)
  have n_b21_b26 : b21 ≠ b26 := ne_lt O25.lt (ge_of e28)
  replace O := O.k0 K29
  replace F20 := F20.k0 K29
  replace O25 := O25.k0 K29
  refine Go.dup C d11_43 rfl <| aN C d11_44 rfl ?_
  have lb := O25.lt
  have lo := O30.lt
  refine Go.ownd C (fun OW => ?_)
  have zb := OW b21 (mi 1 rfl)
  have zo := OW b26 (mi 0 rfl)
  refine Go.callI C (z := y_27) (a := b26) (argsL := [.ref r19]) (rmJ2 hW h27 b26 r19 zz zm x0 x1 O30 F20 hSZ hB0 hB1 n_r19_b26) rfl (w_135 hW) (w_136 hW) (w_134 hW) (w_137 hW) d11_45 pd_28 rfl (by decide) rfl (st := [.ref b26, .ref b21, .ref b21]) rfl (by decide) (nb rfl) (by decide) (by decide) (fm ⟨(mi 0 rfl), nx⟩) (fun _ _ _ q34 K35 _ => ?_)
  obtain ⟨m37, s38, M39, rfl, rfl, p40, p41, F42, F43⟩ := q34
  replace O := O.keep K35 (ninS n_z_b26 nin0)
  replace O25 := O25.keep K35 (ninS n_b21_b26 nin0)
  show Go k _ _ _ _ _ _ [.ref b26, .ref b21, .ref b21]
  have nmo : m37 ≠ b26 := o_mne p41 zo lo
  have nmb : m37 ≠ b21 := o_mne p41 zb lb
  exact o_lp_R hW C O O25 F42 F43 p40 nmo nmb n_b21_b26 hMR ge_b26 (fun r h' q1 q2 q3 => ⟨_, _, _, _, _, _, rfl, rfl, p40, nmo, n_b21_b26, q1, q2, q3⟩)
theorem rmR3 (hW : W0 Z a0) (h : Heap) (z y t : Addr) (sc : Int32) (dec fb iso utf zz zm mr : Addr) (q0 q1 q2 q3 x0 x1 x2 : Int32) (O : Obj Z h z "com/example/atomicity/atomicity/cdc/DecimalReader" f_2 [.int sc]) (S : Str Z h y t [(o_sym q0), (o_sym q1), (o_sym q2), (o_sym q3)]) (hSD : o_SD Z dec fb) (hSC : o_SC Z iso utf) (hSZ : o_SZ Z zz zm) (hMR : Mr Z "java/math/BigInteger" mr) (hg0 : o_g3 q0 q1 q2 q3 x0 x1 x2) (hB0 : o_B x0) (hB1 : o_B x1) (hB2 : o_B x2) :
    ConH l Z o_EL true y_42 c11 4 (some (.object "java/math/BigDecimal")) [((7 : Nat), (15 : Nat), (18 : Nat), (33 : Nat))] ⟨6, 7, 60, 150⟩ #[.ref z, .ref y] h [] (fun v h' os' => ∃ bd : Addr, ∃ o : Addr, ∃ m : Addr, ∃ s : Int32, ∃ M : List Int32, ∃ r : Int64, v = some (.ref bd) ∧ os' = [o] ∧ o_bi s M (o_be x0 [x1, x2]) ∧ m ≠ o ∧ bd ≠ o ∧ Obj Z h' bd "java/math/BigDecimal" f_4 [.ref o, .long r, .int sc] ∧ Obj Z h' o "java/math/BigInteger" f_3 [.ref m, .int s, .int 0, .int 0] ∧ Av Z h' m .int (List.map Value.int M)) := by
  refine ConH.intro (Ls := #[vr z, vr y, su, su]) (by decide +kernel) (o_ew hW) (fun _ => en (by simp [argsToLocals, Value.category])) ?_
  intro k C
  obtain ⟨Sd, Od, Sf, Vf⟩ := id hSD
  refine Go.old C (fun X0 => ?_)
  replace Od := Od.k0 (Keep.ofExt X0)
  refine aN C d11_0 rfl <| Go.ldcO C (w_56 hW) (o_sa hW) d11_1 (n := 16) (by decide) (by decide) (by decide) (by decide) (fun tx h1 K1 => ?_)
  replace O := O.k0 K1
  replace S := S.k0 K1
  replace Od := Od.k0 K1
  have l_h1 : h.size ≤ h1.size := Nat.le_trans (Nat.le_refl _) K1.1
  refine Go.callS C (z := y_9) (argsL := [.ref y, .ref tx]) (rm12 hW h1 y tx) (w_59 hW) (w_60 hW) (w_61 hW) (w_62 hW) d11_3 pd_25 rfl (by decide) rfl (st := []) rfl (by decide) (nb rfl) (by decide) (by decide) nx (fun _ _ _ q4 _ _ => ?_)
  obtain ⟨rfl, rfl, rfl⟩ := q4
  show Go k _ _ _ _ _ _ [.ref y]
  refine Go.pop C d11_6 rfl <| Go.callS C (z := y_10) (argsL := []) (rm13 hW h1 dec fb hSD) (w_63 hW) (w_64 hW) (w_65 hW) (w_66 hW) d11_7 pd_26 rfl (by decide) rfl (st := []) rfl (by decide) (nb rfl) (by decide) (by decide) nx (fun _ _ _ q10 _ _ => ?_)
  obtain ⟨rfl, rfl, rfl⟩ := q10
  show Go k _ _ _ _ _ _ [.ref dec]
  refine aN C d11_10 rfl <| Go.callV C (z := y_19) (zr := y_19) (a := dec) (argsL := [.ref y]) (rmT3 hW h1 dec fb iso utf y t q0 q1 q2 q3 x0 x1 x2 S hSD hSC hg0 hB0 hB1 hB2) Od.1 (w_69 hW) (w_70 hW) (fun hz => notFace_of_selects (args := #[]) (mvT hz (w_72 hW))) (w_72 hW) (w_71 hW) (w_68 hW) (w_73 hW) d11_11 pd_27 rfl (by decide) rfl (st := []) rfl (by decide) (nb rfl) (by decide) (by decide) nx (fun _ h14 _ q16 K17 _ => ?_)
  obtain ⟨r19, rfl, rfl, F20⟩ := q16
  replace O := O.k0 K17
  have l_h14 : h.size ≤ h14.size := Nat.le_trans l_h1 K17.1
  show Go k _ _ _ _ _ _ [.ref r19]
  refine Go.astoreN C d11_14 rfl (Ls' := #[vr z, vr y, vr r19, su]) rfl <| Go.goto C d11_15 <| aN C d11_25 rfl <| Go.arraylength C F20 (3 : Int32) rfl d11_26 <| ifneT C d11_27 (by decide) <| Go.new C (w_129 hW) (w_130 hW) (w_131 hW) (fl_4 hW) dv_4 d11_36 (by decide) (by decide) (fun b21 h22 _ K24 O25 => ?_)
  replace O := O.k0 K24
  replace F20 := F20.k0 K24
  have l_h22 : h.size ≤ h22.size := Nat.le_trans l_h14 K24.1
  refine Go.dup C d11_39 rfl <| Go.new C (w_132 hW) (w_133 hW) (w_134 hW) (fl_3 hW) dv_3 d11_40 (by decide) (by decide) (fun b26 h27 e28 K29 O30 => ?_)
  have ge_b26 : h.size ≤ b26 := Nat.le_trans l_h22 (ge_of e28)
  have n_z_b26 : z ≠ b26 := ne_lt O.lt (ge_of e28)
  have n_r19_b26 : r19 ≠ b26 := ne_lt F20.lt (ge_of e28)
  have n_b21_b26 : b21 ≠ b26 := ne_lt O25.lt (ge_of e28)
  replace O := O.k0 K29
  replace F20 := F20.k0 K29
  replace O25 := O25.k0 K29
  refine Go.dup C d11_43 rfl <| aN C d11_44 rfl ?_
  have lb := O25.lt
  have lo := O30.lt
  refine Go.ownd C (fun OW => ?_)
  have zb := OW b21 (mi 1 rfl)
  have zo := OW b26 (mi 0 rfl)
  refine Go.callI C (z := y_27) (a := b26) (argsL := [.ref r19]) (rmJ3 hW h27 b26 r19 zz zm x0 x1 x2 O30 F20 hSZ hB0 hB1 hB2 n_r19_b26) rfl (w_135 hW) (w_136 hW) (w_134 hW) (w_137 hW) d11_45 pd_28 rfl (by decide) rfl (st := [.ref b26, .ref b21, .ref b21]) rfl (by decide) (nb rfl) (by decide) (by decide) (fm ⟨(mi 0 rfl), nx⟩) (fun _ _ _ q34 K35 _ => ?_)
  obtain ⟨m37, s38, M39, rfl, rfl, p40, p41, F42, F43⟩ := q34
  replace O := O.keep K35 (ninS n_z_b26 nin0)
  replace O25 := O25.keep K35 (ninS n_b21_b26 nin0)
  show Go k _ _ _ _ _ _ [.ref b26, .ref b21, .ref b21]
  have nmo : m37 ≠ b26 := o_mne p41 zo lo
  have nmb : m37 ≠ b21 := o_mne p41 zb lb
  exact o_lp_R hW C O O25 F42 F43 p40 nmo nmb n_b21_b26 hMR ge_b26 (fun r h' q1 q2 q3 => ⟨_, _, _, _, _, _, rfl, rfl, p40, nmo, n_b21_b26, q1, q2, q3⟩)
theorem rmR4 (hW : W0 Z a0) (h : Heap) (z y t : Addr) (sc : Int32) (dec fb iso utf zz zm mr : Addr) (q0 q1 q2 q3 q4 q5 x0 x1 x2 x3 : Int32) (O : Obj Z h z "com/example/atomicity/atomicity/cdc/DecimalReader" f_2 [.int sc]) (S : Str Z h y t [(o_sym q0), (o_sym q1), (o_sym q2), (o_sym q3), (o_sym q4), (o_sym q5), (61 : Int32), (61 : Int32)]) (hSD : o_SD Z dec fb) (hSC : o_SC Z iso utf) (hSZ : o_SZ Z zz zm) (hMR : Mr Z "java/math/BigInteger" mr) (hg0 : o_g3 q0 q1 q2 q3 x0 x1 x2) (hg1 : o_g1 q4 q5 x3) (hB0 : o_B x0) (hB1 : o_B x1) (hB2 : o_B x2) (hB3 : o_B x3) :
    ConH l Z o_EL true y_42 c11 4 (some (.object "java/math/BigDecimal")) [((7 : Nat), (15 : Nat), (18 : Nat), (33 : Nat))] ⟨6, 7, 60, 150⟩ #[.ref z, .ref y] h [] (fun v h' os' => ∃ bd : Addr, ∃ o : Addr, ∃ m : Addr, ∃ s : Int32, ∃ M : List Int32, ∃ r : Int64, v = some (.ref bd) ∧ os' = [o] ∧ o_bi s M (o_be x0 [x1, x2, x3]) ∧ m ≠ o ∧ bd ≠ o ∧ Obj Z h' bd "java/math/BigDecimal" f_4 [.ref o, .long r, .int sc] ∧ Obj Z h' o "java/math/BigInteger" f_3 [.ref m, .int s, .int 0, .int 0] ∧ Av Z h' m .int (List.map Value.int M)) := by
  refine ConH.intro (Ls := #[vr z, vr y, su, su]) (by decide +kernel) (o_ew hW) (fun _ => en (by simp [argsToLocals, Value.category])) ?_
  intro k C
  obtain ⟨Sd, Od, Sf, Vf⟩ := id hSD
  refine Go.old C (fun X0 => ?_)
  replace Od := Od.k0 (Keep.ofExt X0)
  refine aN C d11_0 rfl <| Go.ldcO C (w_56 hW) (o_sa hW) d11_1 (n := 16) (by decide) (by decide) (by decide) (by decide) (fun tx h1 K1 => ?_)
  replace O := O.k0 K1
  replace S := S.k0 K1
  replace Od := Od.k0 K1
  have l_h1 : h.size ≤ h1.size := Nat.le_trans (Nat.le_refl _) K1.1
  refine Go.callS C (z := y_9) (argsL := [.ref y, .ref tx]) (rm12 hW h1 y tx) (w_59 hW) (w_60 hW) (w_61 hW) (w_62 hW) d11_3 pd_25 rfl (by decide) rfl (st := []) rfl (by decide) (nb rfl) (by decide) (by decide) nx (fun _ _ _ q4 _ _ => ?_)
  obtain ⟨rfl, rfl, rfl⟩ := q4
  show Go k _ _ _ _ _ _ [.ref y]
  refine Go.pop C d11_6 rfl <| Go.callS C (z := y_10) (argsL := []) (rm13 hW h1 dec fb hSD) (w_63 hW) (w_64 hW) (w_65 hW) (w_66 hW) d11_7 pd_26 rfl (by decide) rfl (st := []) rfl (by decide) (nb rfl) (by decide) (by decide) nx (fun _ _ _ q10 _ _ => ?_)
  obtain ⟨rfl, rfl, rfl⟩ := q10
  show Go k _ _ _ _ _ _ [.ref dec]
  refine aN C d11_10 rfl <| Go.callV C (z := y_19) (zr := y_19) (a := dec) (argsL := [.ref y]) (rmT4 hW h1 dec fb iso utf y t q0 q1 q2 q3 q4 q5 x0 x1 x2 x3 S hSD hSC hg0 hg1 hB0 hB1 hB2 hB3) Od.1 (w_69 hW) (w_70 hW) (fun hz => notFace_of_selects (args := #[]) (mvT hz (w_72 hW))) (w_72 hW) (w_71 hW) (w_68 hW) (w_73 hW) d11_11 pd_27 rfl (by decide) rfl (st := []) rfl (by decide) (nb rfl) (by decide) (by decide) nx (fun _ h14 _ q16 K17 _ => ?_)
  obtain ⟨r19, rfl, rfl, F20⟩ := q16
  replace O := O.k0 K17
  have l_h14 : h.size ≤ h14.size := Nat.le_trans l_h1 K17.1
  show Go k _ _ _ _ _ _ [.ref r19]
  refine Go.astoreN C d11_14 rfl (Ls' := #[vr z, vr y, vr r19, su]) rfl <| Go.goto C d11_15 <| aN C d11_25 rfl <| Go.arraylength C F20 (4 : Int32) rfl d11_26 <| ifneT C d11_27 (by decide) <| Go.new C (w_129 hW) (w_130 hW) (w_131 hW) (fl_4 hW) dv_4 d11_36 (by decide) (by decide) (fun b21 h22 _ K24 O25 => ?_)
  replace O := O.k0 K24
  replace F20 := F20.k0 K24
  have l_h22 : h.size ≤ h22.size := Nat.le_trans l_h14 K24.1
  refine Go.dup C d11_39 rfl <| Go.new C (w_132 hW) (w_133 hW) (w_134 hW) (fl_3 hW) dv_3 d11_40 (by decide) (by decide) (fun b26 h27 e28 K29 O30 => ?_)
  have ge_b26 : h.size ≤ b26 := Nat.le_trans l_h22 (ge_of e28)
  have n_z_b26 : z ≠ b26 := ne_lt O.lt (ge_of e28)
  have n_r19_b26 : r19 ≠ b26 := ne_lt F20.lt (ge_of e28)
  have n_b21_b26 : b21 ≠ b26 := ne_lt O25.lt (ge_of e28)
  replace O := O.k0 K29
  replace F20 := F20.k0 K29
  replace O25 := O25.k0 K29
  refine Go.dup C d11_43 rfl <| aN C d11_44 rfl ?_
  have lb := O25.lt
  have lo := O30.lt
  refine Go.ownd C (fun OW => ?_)
  have zb := OW b21 (mi 1 rfl)
  have zo := OW b26 (mi 0 rfl)
  refine Go.callI C (z := y_27) (a := b26) (argsL := [.ref r19]) (rmJ4 hW h27 b26 r19 zz zm x0 x1 x2 x3 O30 F20 hSZ hB0 hB1 hB2 hB3 n_r19_b26) rfl (w_135 hW) (w_136 hW) (w_134 hW) (w_137 hW) d11_45 pd_28 rfl (by decide) rfl (st := [.ref b26, .ref b21, .ref b21]) rfl (by decide) (nb rfl) (by decide) (by decide) (fm ⟨(mi 0 rfl), nx⟩) (fun _ _ _ q34 K35 _ => ?_)
  obtain ⟨m37, s38, M39, rfl, rfl, p40, p41, F42, F43⟩ := q34
  replace O := O.keep K35 (ninS n_z_b26 nin0)
  replace O25 := O25.keep K35 (ninS n_b21_b26 nin0)
  show Go k _ _ _ _ _ _ [.ref b26, .ref b21, .ref b21]
  have nmo : m37 ≠ b26 := o_mne p41 zo lo
  have nmb : m37 ≠ b21 := o_mne p41 zb lb
  exact o_lp_R hW C O O25 F42 F43 p40 nmo nmb n_b21_b26 hMR ge_b26 (fun r h' q1 q2 q3 => ⟨_, _, _, _, _, _, rfl, rfl, p40, nmo, n_b21_b26, q1, q2, q3⟩)
theorem rmR5 (hW : W0 Z a0) (h : Heap) (z y t : Addr) (sc : Int32) (dec fb iso utf zz zm mr : Addr) (q0 q1 q2 q3 q4 q5 q6 x0 x1 x2 x3 x4 : Int32) (O : Obj Z h z "com/example/atomicity/atomicity/cdc/DecimalReader" f_2 [.int sc]) (S : Str Z h y t [(o_sym q0), (o_sym q1), (o_sym q2), (o_sym q3), (o_sym q4), (o_sym q5), (o_sym q6), (61 : Int32)]) (hSD : o_SD Z dec fb) (hSC : o_SC Z iso utf) (hSZ : o_SZ Z zz zm) (hMR : Mr Z "java/math/BigInteger" mr) (hg0 : o_g3 q0 q1 q2 q3 x0 x1 x2) (hg1 : o_g2 q4 q5 q6 x3 x4) (hB0 : o_B x0) (hB1 : o_B x1) (hB2 : o_B x2) (hB3 : o_B x3) (hB4 : o_B x4) :
    ConH l Z o_EL true y_42 c11 4 (some (.object "java/math/BigDecimal")) [((7 : Nat), (15 : Nat), (18 : Nat), (33 : Nat))] ⟨6, 7, 60, 150⟩ #[.ref z, .ref y] h [] (fun v h' os' => ∃ bd : Addr, ∃ o : Addr, ∃ m : Addr, ∃ s : Int32, ∃ M : List Int32, ∃ r : Int64, v = some (.ref bd) ∧ os' = [o] ∧ o_bi s M (o_be x0 [x1, x2, x3, x4]) ∧ m ≠ o ∧ bd ≠ o ∧ Obj Z h' bd "java/math/BigDecimal" f_4 [.ref o, .long r, .int sc] ∧ Obj Z h' o "java/math/BigInteger" f_3 [.ref m, .int s, .int 0, .int 0] ∧ Av Z h' m .int (List.map Value.int M)) := by
  refine ConH.intro (Ls := #[vr z, vr y, su, su]) (by decide +kernel) (o_ew hW) (fun _ => en (by simp [argsToLocals, Value.category])) ?_
  intro k C
  obtain ⟨Sd, Od, Sf, Vf⟩ := id hSD
  refine Go.old C (fun X0 => ?_)
  replace Od := Od.k0 (Keep.ofExt X0)
  refine aN C d11_0 rfl <| Go.ldcO C (w_56 hW) (o_sa hW) d11_1 (n := 16) (by decide) (by decide) (by decide) (by decide) (fun tx h1 K1 => ?_)
  replace O := O.k0 K1
  replace S := S.k0 K1
  replace Od := Od.k0 K1
  have l_h1 : h.size ≤ h1.size := Nat.le_trans (Nat.le_refl _) K1.1
  refine Go.callS C (z := y_9) (argsL := [.ref y, .ref tx]) (rm12 hW h1 y tx) (w_59 hW) (w_60 hW) (w_61 hW) (w_62 hW) d11_3 pd_25 rfl (by decide) rfl (st := []) rfl (by decide) (nb rfl) (by decide) (by decide) nx (fun _ _ _ q4 _ _ => ?_)
  obtain ⟨rfl, rfl, rfl⟩ := q4
  show Go k _ _ _ _ _ _ [.ref y]
  refine Go.pop C d11_6 rfl <| Go.callS C (z := y_10) (argsL := []) (rm13 hW h1 dec fb hSD) (w_63 hW) (w_64 hW) (w_65 hW) (w_66 hW) d11_7 pd_26 rfl (by decide) rfl (st := []) rfl (by decide) (nb rfl) (by decide) (by decide) nx (fun _ _ _ q10 _ _ => ?_)
  obtain ⟨rfl, rfl, rfl⟩ := q10
  show Go k _ _ _ _ _ _ [.ref dec]
  refine aN C d11_10 rfl <| Go.callV C (z := y_19) (zr := y_19) (a := dec) (argsL := [.ref y]) (rmT5 hW h1 dec fb iso utf y t q0 q1 q2 q3 q4 q5 q6 x0 x1 x2 x3 x4 S hSD hSC hg0 hg1 hB0 hB1 hB2 hB3 hB4) Od.1 (w_69 hW) (w_70 hW) (fun hz => notFace_of_selects (args := #[]) (mvT hz (w_72 hW))) (w_72 hW) (w_71 hW) (w_68 hW) (w_73 hW) d11_11 pd_27 rfl (by decide) rfl (st := []) rfl (by decide) (nb rfl) (by decide) (by decide) nx (fun _ h14 _ q16 K17 _ => ?_)
  obtain ⟨r19, rfl, rfl, F20⟩ := q16
  replace O := O.k0 K17
  have l_h14 : h.size ≤ h14.size := Nat.le_trans l_h1 K17.1
  show Go k _ _ _ _ _ _ [.ref r19]
  refine Go.astoreN C d11_14 rfl (Ls' := #[vr z, vr y, vr r19, su]) rfl <| Go.goto C d11_15 <| aN C d11_25 rfl <| Go.arraylength C F20 (5 : Int32) rfl d11_26 <| ifneT C d11_27 (by decide) <| Go.new C (w_129 hW) (w_130 hW) (w_131 hW) (fl_4 hW) dv_4 d11_36 (by decide) (by decide) (fun b21 h22 _ K24 O25 => ?_)
  replace O := O.k0 K24
  replace F20 := F20.k0 K24
  have l_h22 : h.size ≤ h22.size := Nat.le_trans l_h14 K24.1
  refine Go.dup C d11_39 rfl <| Go.new C (w_132 hW) (w_133 hW) (w_134 hW) (fl_3 hW) dv_3 d11_40 (by decide) (by decide) (fun b26 h27 e28 K29 O30 => ?_)
  have ge_b26 : h.size ≤ b26 := Nat.le_trans l_h22 (ge_of e28)
  have n_z_b26 : z ≠ b26 := ne_lt O.lt (ge_of e28)
  have n_r19_b26 : r19 ≠ b26 := ne_lt F20.lt (ge_of e28)
  have n_b21_b26 : b21 ≠ b26 := ne_lt O25.lt (ge_of e28)
  replace O := O.k0 K29
  replace F20 := F20.k0 K29
  replace O25 := O25.k0 K29
  refine Go.dup C d11_43 rfl <| aN C d11_44 rfl ?_
  have lb := O25.lt
  have lo := O30.lt
  refine Go.ownd C (fun OW => ?_)
  have zb := OW b21 (mi 1 rfl)
  have zo := OW b26 (mi 0 rfl)
  refine Go.callI C (z := y_27) (a := b26) (argsL := [.ref r19]) (rmJ5 hW h27 b26 r19 zz zm x0 x1 x2 x3 x4 O30 F20 hSZ hB0 hB1 hB2 hB3 hB4 n_r19_b26) rfl (w_135 hW) (w_136 hW) (w_134 hW) (w_137 hW) d11_45 pd_28 rfl (by decide) rfl (st := [.ref b26, .ref b21, .ref b21]) rfl (by decide) (nb rfl) (by decide) (by decide) (fm ⟨(mi 0 rfl), nx⟩) (fun _ _ _ q34 K35 _ => ?_)
  obtain ⟨m37, s38, M39, rfl, rfl, p40, p41, F42, F43⟩ := q34
  replace O := O.keep K35 (ninS n_z_b26 nin0)
  replace O25 := O25.keep K35 (ninS n_b21_b26 nin0)
  show Go k _ _ _ _ _ _ [.ref b26, .ref b21, .ref b21]
  have nmo : m37 ≠ b26 := o_mne p41 zo lo
  have nmb : m37 ≠ b21 := o_mne p41 zb lb
  exact o_lp_R hW C O O25 F42 F43 p40 nmo nmb n_b21_b26 hMR ge_b26 (fun r h' q1 q2 q3 => ⟨_, _, _, _, _, _, rfl, rfl, p40, nmo, n_b21_b26, q1, q2, q3⟩)
theorem rmR6 (hW : W0 Z a0) (h : Heap) (z y t : Addr) (sc : Int32) (dec fb iso utf zz zm mr : Addr) (q0 q1 q2 q3 q4 q5 q6 q7 x0 x1 x2 x3 x4 x5 : Int32) (O : Obj Z h z "com/example/atomicity/atomicity/cdc/DecimalReader" f_2 [.int sc]) (S : Str Z h y t [(o_sym q0), (o_sym q1), (o_sym q2), (o_sym q3), (o_sym q4), (o_sym q5), (o_sym q6), (o_sym q7)]) (hSD : o_SD Z dec fb) (hSC : o_SC Z iso utf) (hSZ : o_SZ Z zz zm) (hMR : Mr Z "java/math/BigInteger" mr) (hg0 : o_g3 q0 q1 q2 q3 x0 x1 x2) (hg1 : o_g3 q4 q5 q6 q7 x3 x4 x5) (hB0 : o_B x0) (hB1 : o_B x1) (hB2 : o_B x2) (hB3 : o_B x3) (hB4 : o_B x4) (hB5 : o_B x5) :
    ConH l Z o_EL true y_42 c11 4 (some (.object "java/math/BigDecimal")) [((7 : Nat), (15 : Nat), (18 : Nat), (33 : Nat))] ⟨6, 7, 60, 150⟩ #[.ref z, .ref y] h [] (fun v h' os' => ∃ bd : Addr, ∃ o : Addr, ∃ m : Addr, ∃ s : Int32, ∃ M : List Int32, ∃ r : Int64, v = some (.ref bd) ∧ os' = [o] ∧ o_bi s M (o_be x0 [x1, x2, x3, x4, x5]) ∧ m ≠ o ∧ bd ≠ o ∧ Obj Z h' bd "java/math/BigDecimal" f_4 [.ref o, .long r, .int sc] ∧ Obj Z h' o "java/math/BigInteger" f_3 [.ref m, .int s, .int 0, .int 0] ∧ Av Z h' m .int (List.map Value.int M)) := by
  refine ConH.intro (Ls := #[vr z, vr y, su, su]) (by decide +kernel) (o_ew hW) (fun _ => en (by simp [argsToLocals, Value.category])) ?_
  intro k C
  obtain ⟨Sd, Od, Sf, Vf⟩ := id hSD
  refine Go.old C (fun X0 => ?_)
  replace Od := Od.k0 (Keep.ofExt X0)
  refine aN C d11_0 rfl <| Go.ldcO C (w_56 hW) (o_sa hW) d11_1 (n := 16) (by decide) (by decide) (by decide) (by decide) (fun tx h1 K1 => ?_)
  replace O := O.k0 K1
  replace S := S.k0 K1
  replace Od := Od.k0 K1
  have l_h1 : h.size ≤ h1.size := Nat.le_trans (Nat.le_refl _) K1.1
  refine Go.callS C (z := y_9) (argsL := [.ref y, .ref tx]) (rm12 hW h1 y tx) (w_59 hW) (w_60 hW) (w_61 hW) (w_62 hW) d11_3 pd_25 rfl (by decide) rfl (st := []) rfl (by decide) (nb rfl) (by decide) (by decide) nx (fun _ _ _ q4 _ _ => ?_)
  obtain ⟨rfl, rfl, rfl⟩ := q4
  show Go k _ _ _ _ _ _ [.ref y]
  refine Go.pop C d11_6 rfl <| Go.callS C (z := y_10) (argsL := []) (rm13 hW h1 dec fb hSD) (w_63 hW) (w_64 hW) (w_65 hW) (w_66 hW) d11_7 pd_26 rfl (by decide) rfl (st := []) rfl (by decide) (nb rfl) (by decide) (by decide) nx (fun _ _ _ q10 _ _ => ?_)
  obtain ⟨rfl, rfl, rfl⟩ := q10
  show Go k _ _ _ _ _ _ [.ref dec]
  refine aN C d11_10 rfl <| Go.callV C (z := y_19) (zr := y_19) (a := dec) (argsL := [.ref y]) (rmT6 hW h1 dec fb iso utf y t q0 q1 q2 q3 q4 q5 q6 q7 x0 x1 x2 x3 x4 x5 S hSD hSC hg0 hg1 hB0 hB1 hB2 hB3 hB4 hB5) Od.1 (w_69 hW) (w_70 hW) (fun hz => notFace_of_selects (args := #[]) (mvT hz (w_72 hW))) (w_72 hW) (w_71 hW) (w_68 hW) (w_73 hW) d11_11 pd_27 rfl (by decide) rfl (st := []) rfl (by decide) (nb rfl) (by decide) (by decide) nx (fun _ h14 _ q16 K17 _ => ?_)
  obtain ⟨r19, rfl, rfl, F20⟩ := q16
  replace O := O.k0 K17
  have l_h14 : h.size ≤ h14.size := Nat.le_trans l_h1 K17.1
  show Go k _ _ _ _ _ _ [.ref r19]
  refine Go.astoreN C d11_14 rfl (Ls' := #[vr z, vr y, vr r19, su]) rfl <| Go.goto C d11_15 <| aN C d11_25 rfl <| Go.arraylength C F20 (6 : Int32) rfl d11_26 <| ifneT C d11_27 (by decide) <| Go.new C (w_129 hW) (w_130 hW) (w_131 hW) (fl_4 hW) dv_4 d11_36 (by decide) (by decide) (fun b21 h22 _ K24 O25 => ?_)
  replace O := O.k0 K24
  replace F20 := F20.k0 K24
  have l_h22 : h.size ≤ h22.size := Nat.le_trans l_h14 K24.1
  refine Go.dup C d11_39 rfl <| Go.new C (w_132 hW) (w_133 hW) (w_134 hW) (fl_3 hW) dv_3 d11_40 (by decide) (by decide) (fun b26 h27 e28 K29 O30 => ?_)
  have ge_b26 : h.size ≤ b26 := Nat.le_trans l_h22 (ge_of e28)
  have n_z_b26 : z ≠ b26 := ne_lt O.lt (ge_of e28)
  have n_r19_b26 : r19 ≠ b26 := ne_lt F20.lt (ge_of e28)
  have n_b21_b26 : b21 ≠ b26 := ne_lt O25.lt (ge_of e28)
  replace O := O.k0 K29
  replace F20 := F20.k0 K29
  replace O25 := O25.k0 K29
  refine Go.dup C d11_43 rfl <| aN C d11_44 rfl ?_
  have lb := O25.lt
  have lo := O30.lt
  refine Go.ownd C (fun OW => ?_)
  have zb := OW b21 (mi 1 rfl)
  have zo := OW b26 (mi 0 rfl)
  refine Go.callI C (z := y_27) (a := b26) (argsL := [.ref r19]) (rmJ6 hW h27 b26 r19 zz zm x0 x1 x2 x3 x4 x5 O30 F20 hSZ hB0 hB1 hB2 hB3 hB4 hB5 n_r19_b26) rfl (w_135 hW) (w_136 hW) (w_134 hW) (w_137 hW) d11_45 pd_28 rfl (by decide) rfl (st := [.ref b26, .ref b21, .ref b21]) rfl (by decide) (nb rfl) (by decide) (by decide) (fm ⟨(mi 0 rfl), nx⟩) (fun _ _ _ q34 K35 _ => ?_)
  obtain ⟨m37, s38, M39, rfl, rfl, p40, p41, F42, F43⟩ := q34
  replace O := O.keep K35 (ninS n_z_b26 nin0)
  replace O25 := O25.keep K35 (ninS n_b21_b26 nin0)
  show Go k _ _ _ _ _ _ [.ref b26, .ref b21, .ref b21]
  have nmo : m37 ≠ b26 := o_mne p41 zo lo
  have nmb : m37 ≠ b21 := o_mne p41 zb lb
  exact o_lp_R hW C O O25 F42 F43 p40 nmo nmb n_b21_b26 hMR ge_b26 (fun r h' q1 q2 q3 => ⟨_, _, _, _, _, _, rfl, rfl, p40, nmo, n_b21_b26, q1, q2, q3⟩)
theorem o_lp_W {k : KT} {l : Launch} {Z : State} {a0 : Array Value} (hW : W0 Z a0) {h0 : Heap} {oss : List Addr} {bd o m c4 c8 tx : Addr} {v rr : Int64} {sel sc nn sh bb0 bb1 bb2 bb3 bb4 bb5 s : Int32} {M : List Int32} {h : Heap} {kk : Int} {QQ : QT}
    (C : Ctx k l x code 18 (some .boolean) room_1 Z a0 o_EL true [] h0 QQ) (X : Obj Z h bd "java/math/BigDecimal" f_4 [.ref o, .long rr, .int sc]) (O : Obj Z h o "java/math/BigInteger" f_3 [.ref m, .int s, .int 0, .int 0]) (V : Av Z h m .int (List.map Value.int M)) (hbi : o_bi s M kk) (nmo : m ≠ o) (nbo : bd ≠ o) (hsh : (64 : Int32) - 8 * nn = sh) (hfin : Int64.ofInt kk = (v <<< (sh &&& 0x3f).toInt64) >>> (sh &&& 0x3f).toInt64) (hQ : ∀ h' : Heap, QQ (some (.int 1)) h' []) :
    Go k h (o :: oss) 12 85 163 #[.val (.long v), .second, vi sel, vi sc, vi nn, vr c4, vr c8, vi bb0, vi bb1, vi bb2, vi bb3, vi bb4, vi bb5, vr tx, su, su, su, su] [.ref bd] := by
  refine Go.astore C d0_163 rfl (Ls' := #[.val (.long v), .second, vi sel, vi sc, vi nn, vr c4, vr c8, vi bb0, vi bb1, vi bb2, vi bb3, vi bb4, vi bb5, vr tx, vr bd, su, su, su]) rfl <| Go.bipush C 64 d0_165 rfl <| Go.bipush C 8 d0_167 rfl <| il C d0_169 rfl <| Go.imul C d0_171 <| Go.isub C d0_172 <| gq sh hsh <| Go.istore C d0_173 (Ls' := #[.val (.long v), .second, vi sel, vi sc, vi nn, vr c4, vr c8, vi bb0, vi bb1, vi bb2, vi bb3, vi bb4, vi bb5, vr tx, vr bd, vi sh, su, su]) rfl <| Go.lloadN C d0_175 rfl <| il C d0_176 rfl <| Go.lshl C d0_178 <| il C d0_179 rfl <| Go.lshr C d0_181 <| Go.lstore C d0_182 (Ls' := #[.val (.long v), .second, vi sel, vi sc, vi nn, vr c4, vr c8, vi bb0, vi bb1, vi bb2, vi bb3, vi bb4, vi bb5, vr tx, vr bd, vi sh, .val (.long ((v <<< (sh &&& 0x3f).toInt64) >>> (sh &&& 0x3f).toInt64)), .second]) rfl <| al C d0_184 rfl <| Go.callV C (z := y_39) (zr := y_39) (a := bd) (argsL := []) (rm32 hW h bd o rr sc X) X.1 (w_191 hW) (w_192 hW) (fun hz => notFace_of_selects (args := #[]) (mvT hz (w_194 hW))) (w_194 hW) (w_193 hW) (w_131 hW) (w_195 hW) d0_186 pd_20 rfl (by decide) rfl (st := []) rfl (by decide) (nb rfl) (by decide) (by decide) nx (fun _ _ _ q100 _ _ => ?_)
  obtain ⟨rfl, rfl, rfl⟩ := q100
  show Go k _ _ _ _ _ _ [.int sc]
  refine iN C d0_189 rfl <| Go.icmpne C d0_190 (fun hc190 => absurd rfl hc190) (fun hc190 => ?_)
  refine al C d0_193 rfl <| Go.callV C (z := y_41) (zr := y_41) (a := bd) (argsL := []) (rm33 hW h bd o rr sc X) X.1 (w_196 hW) (w_197 hW) (fun hz => notFace_of_selects (args := #[]) (mvT hz (w_199 hW))) (w_199 hW) (w_198 hW) (w_131 hW) (w_200 hW) d0_195 pd_23 rfl (by decide) rfl (st := []) rfl (by decide) (nb rfl) (by decide) (by decide) nx (fun _ _ _ q106 _ _ => ?_)
  obtain ⟨rfl, rfl, rfl⟩ := q106
  show Go k _ _ _ _ _ _ [.ref o]
  refine Go.callV C (z := y_31) (zr := y_31) (a := o) (argsL := []) (rm35 hW h o m s M kk O V hbi nmo) O.1 (w_206 hW) (w_207 hW) (fun hz => notFace_of_selects (args := #[]) (mvT hz (w_209 hW))) (w_209 hW) (w_208 hW) (w_134 hW) (w_210 hW) d0_198 pd_20 rfl (by decide) rfl (st := []) rfl (by decide) (nb rfl) (by decide) (by decide) (fm ⟨(mi 0 rfl), nx⟩) (fun _ h110 _ q112 K113 _ => ?_)
  obtain ⟨r115, b116, rfl, rfl, p117, F118⟩ := q112
  replace X := X.keep K113 (ninS nbo nin0)
  replace V := V.keep K113 (ninS nmo nin0)
  show Go k _ _ _ _ _ _ [.int r115]
  refine Go.bipush C 48 d0_201 rfl <| Go.icmpgt C d0_203 (fun hc203 => absurd hc203 p117) (fun hc203 => ?_)
  refine al C d0_206 rfl <| Go.callV C (z := y_41) (zr := y_41) (a := bd) (argsL := []) (rm33 hW h110 bd o rr sc X) X.1 (w_196 hW) (w_197 hW) (fun hz => notFace_of_selects (args := #[]) (mvT hz (w_199 hW))) (w_199 hW) (w_198 hW) (w_131 hW) (w_200 hW) d0_208 pd_23 rfl (by decide) rfl (st := []) rfl (by decide) (nb rfl) (by decide) (by decide) nx (fun _ _ _ q122 _ _ => ?_)
  obtain ⟨rfl, rfl, rfl⟩ := q122
  show Go k _ _ _ _ _ _ [.ref o]
  refine Go.callV C (z := y_35) (zr := y_35) (a := o) (argsL := []) (rm38 hW h110 o b116 m s M kk F118 V hbi nmo) F118.1 (w_221 hW) (w_222 hW) (fun hz => notFace_of_selects (args := #[]) (mvT hz (w_224 hW))) (w_224 hW) (w_223 hW) (w_134 hW) (w_225 hW) d0_211 pd_34 rfl (by decide) rfl (st := []) rfl (by decide) (nb rfl) (by decide) (by decide) (fm ⟨(mi 0 rfl), nx⟩) (fun _ _ _ q128 _ _ => ?_)
  obtain ⟨rfl, rfl⟩ := q128
  show Go k _ _ _ _ _ _ [.long (Int64.ofInt kk)]
  refine Go.lload C d0_214 rfl <| Go.lcmp C d0_216 <| Go.ifne C d0_217 (fun hc217 => absurd ((lw_eq _ _).mpr hfin) hc217) (fun hc217 => ?_)
  refine ic C 1 d0_220 rfl <| Go.goto C d0_221 <| Go.ireturn C d0_225 (nb rfl) (nb rfl) (by simp) rfl [] nx ?_
  exact hQ _
theorem rm0 (hW : W0 Z a0) (h : Heap) (v : Int64) (sel sc : Int32) (dec fb iso utf zz zm mr : Addr) (hSD : o_SD Z dec fb) (hSC : o_SC Z iso utf) (hSZ : o_SZ Z zz zm) (hMR : Mr Z "java/math/BigInteger" mr) :
    Con l Z o_EL true x code 18 (some .boolean) room_1 tables_1 #[.long v, .int sel, .int sc] h [] (fun v h' os' => v = some (.int 1) ∧ os' = []) := by
  refine Con.intro (Ls := #[.val (.long v), .second, vi sel, vi sc, su, su, su, su, su, su, su, su, su, su, su, su, su, su]) (by decide +kernel) (o_ew hW) (fun m => by first | (simp [entryFrame, mkF, argsToLocals, Value.category, maxLocals]; done) | rfl) ?_
  intro k C
  refine ic C 1 d0_0 rfl <| iN C d0_1 rfl <| Go.ldcI C (w_0 hW) d0_2 <| Go.iand C d0_4 <| Go.bipush C 6 d0_5 rfl <| Go.irem C d0_7 (by decide) <| Go.iadd C d0_8 ?_
  obtain ⟨nn, en⟩ : ∃ z, ((1 : Int32) + ((sel &&& 2147483647) % (6 : Int32))) = z := ⟨_, rfl⟩
  refine gq nn en ?_
  have hn6 := o_n6 sel
  rw [en] at hn6
  refine Go.istore C d0_9 (Ls' := #[.val (.long v), .second, vi sel, vi sc, vi nn, su, su, su, su, su, su, su, su, su, su, su, su, su]) rfl <| ic C 4 d0_11 rfl <| Go.newarray C (aty := .char) (w_1 hW) d0_12 (by decide) 4 rfl (cap := 4) (by decide) (by decide) (by decide) (by decide) (fun b1 h2 _ _ A5 => ?_)
  have A5 : Av Z h2 b1 .char [.int 0, .int 0, .int 0, .int 0] := A5
  refine Go.astore C d0_14 rfl (Ls' := #[.val (.long v), .second, vi sel, vi sc, vi nn, vr b1, su, su, su, su, su, su, su, su, su, su, su, su]) rfl <| Go.bipush C 8 d0_16 rfl <| Go.newarray C (aty := .char) (w_1 hW) d0_18 (by decide) 8 rfl (cap := 8) (by decide) (by decide) (by decide) (by decide) (fun b6 h7 e8 K9 A10 => ?_)
  have A10 : Av Z h7 b6 .char [.int 0, .int 0, .int 0, .int 0, .int 0, .int 0, .int 0, .int 0] := A10
  have n_b1_b6 : b1 ≠ b6 := ne_lt A5.lt (ge_of e8)
  replace A5 := A5.k0 K9
  refine Go.astore C d0_20 rfl (Ls' := #[.val (.long v), .second, vi sel, vi sc, vi nn, vr b1, vr b6, su, su, su, su, su, su, su, su, su, su, su]) rfl <| Go.lloadN C d0_22 rfl <| il C d0_23 rfl <| ic C 0 d0_25 rfl <| Go.callS C (z := y_6) (argsL := [.long v, .int nn, .int 0]) (rm1 hW h7 v nn ((0 : Int32))) (w_2 hW) (w_3 hW) (w_4 hW) (w_5 hW) d0_26 pd_29 rfl (by decide) rfl (st := []) rfl (by decide) (nb rfl) (by decide) (by decide) nx (fun _ _ _ q14 _ _ => ?_)
  obtain ⟨rfl, rfl, rfl⟩ := q14
  show Go k _ _ _ _ _ _ [.int (o_byte v nn (0 : Int32))]
  obtain ⟨bb0, eb0⟩ : ∃ z, o_byte v nn (0 : Int32) = z := ⟨_, rfl⟩
  refine gq bb0 eb0 <| Go.istore C d0_29 (Ls' := #[.val (.long v), .second, vi sel, vi sc, vi nn, vr b1, vr b6, vi bb0, su, su, su, su, su, su, su, su, su, su]) rfl <| Go.lloadN C d0_31 rfl <| il C d0_32 rfl <| ic C 1 d0_34 rfl <| Go.callS C (z := y_6) (argsL := [.long v, .int nn, .int 1]) (rm1 hW h7 v nn ((1 : Int32))) (w_2 hW) (w_3 hW) (w_4 hW) (w_5 hW) d0_35 pd_29 rfl (by decide) rfl (st := []) rfl (by decide) (nb rfl) (by decide) (by decide) nx (fun _ _ _ q20 _ _ => ?_)
  obtain ⟨rfl, rfl, rfl⟩ := q20
  show Go k _ _ _ _ _ _ [.int (o_byte v nn (1 : Int32))]
  obtain ⟨bb1, eb1⟩ : ∃ z, o_byte v nn (1 : Int32) = z := ⟨_, rfl⟩
  refine gq bb1 eb1 <| Go.istore C d0_38 (Ls' := #[.val (.long v), .second, vi sel, vi sc, vi nn, vr b1, vr b6, vi bb0, vi bb1, su, su, su, su, su, su, su, su, su]) rfl <| Go.lloadN C d0_40 rfl <| il C d0_41 rfl <| ic C 2 d0_43 rfl <| Go.callS C (z := y_6) (argsL := [.long v, .int nn, .int 2]) (rm1 hW h7 v nn ((2 : Int32))) (w_2 hW) (w_3 hW) (w_4 hW) (w_5 hW) d0_44 pd_29 rfl (by decide) rfl (st := []) rfl (by decide) (nb rfl) (by decide) (by decide) nx (fun _ _ _ q26 _ _ => ?_)
  obtain ⟨rfl, rfl, rfl⟩ := q26
  show Go k _ _ _ _ _ _ [.int (o_byte v nn (2 : Int32))]
  obtain ⟨bb2, eb2⟩ : ∃ z, o_byte v nn (2 : Int32) = z := ⟨_, rfl⟩
  refine gq bb2 eb2 <| Go.istore C d0_47 (Ls' := #[.val (.long v), .second, vi sel, vi sc, vi nn, vr b1, vr b6, vi bb0, vi bb1, vi bb2, su, su, su, su, su, su, su, su]) rfl <| Go.lloadN C d0_49 rfl <| il C d0_50 rfl <| ic C 3 d0_52 rfl <| Go.callS C (z := y_6) (argsL := [.long v, .int nn, .int 3]) (rm1 hW h7 v nn ((3 : Int32))) (w_2 hW) (w_3 hW) (w_4 hW) (w_5 hW) d0_53 pd_29 rfl (by decide) rfl (st := []) rfl (by decide) (nb rfl) (by decide) (by decide) nx (fun _ _ _ q32 _ _ => ?_)
  obtain ⟨rfl, rfl, rfl⟩ := q32
  show Go k _ _ _ _ _ _ [.int (o_byte v nn (3 : Int32))]
  obtain ⟨bb3, eb3⟩ : ∃ z, o_byte v nn (3 : Int32) = z := ⟨_, rfl⟩
  refine gq bb3 eb3 <| Go.istore C d0_56 (Ls' := #[.val (.long v), .second, vi sel, vi sc, vi nn, vr b1, vr b6, vi bb0, vi bb1, vi bb2, vi bb3, su, su, su, su, su, su, su]) rfl <| Go.lloadN C d0_58 rfl <| il C d0_59 rfl <| ic C 4 d0_61 rfl <| Go.callS C (z := y_6) (argsL := [.long v, .int nn, .int 4]) (rm1 hW h7 v nn ((4 : Int32))) (w_2 hW) (w_3 hW) (w_4 hW) (w_5 hW) d0_62 pd_29 rfl (by decide) rfl (st := []) rfl (by decide) (nb rfl) (by decide) (by decide) nx (fun _ _ _ q38 _ _ => ?_)
  obtain ⟨rfl, rfl, rfl⟩ := q38
  show Go k _ _ _ _ _ _ [.int (o_byte v nn (4 : Int32))]
  obtain ⟨bb4, eb4⟩ : ∃ z, o_byte v nn (4 : Int32) = z := ⟨_, rfl⟩
  refine gq bb4 eb4 <| Go.istore C d0_65 (Ls' := #[.val (.long v), .second, vi sel, vi sc, vi nn, vr b1, vr b6, vi bb0, vi bb1, vi bb2, vi bb3, vi bb4, su, su, su, su, su, su]) rfl <| Go.lloadN C d0_67 rfl <| il C d0_68 rfl <| ic C 5 d0_70 rfl <| Go.callS C (z := y_6) (argsL := [.long v, .int nn, .int 5]) (rm1 hW h7 v nn ((5 : Int32))) (w_2 hW) (w_3 hW) (w_4 hW) (w_5 hW) d0_71 pd_29 rfl (by decide) rfl (st := []) rfl (by decide) (nb rfl) (by decide) (by decide) nx (fun _ _ _ q44 _ _ => ?_)
  obtain ⟨rfl, rfl, rfl⟩ := q44
  show Go k _ _ _ _ _ _ [.int (o_byte v nn (5 : Int32))]
  obtain ⟨bb5, eb5⟩ : ∃ z, o_byte v nn (5 : Int32) = z := ⟨_, rfl⟩
  refine gq bb5 eb5 <| Go.istore C d0_74 (Ls' := #[.val (.long v), .second, vi sel, vi sc, vi nn, vr b1, vr b6, vi bb0, vi bb1, vi bb2, vi bb3, vi bb4, vi bb5, su, su, su, su, su]) rfl <| il C d0_76 rfl <| ic C 3 d0_78 rfl ?_
  rcases hn6 with rfl | rfl | rfl | rfl | rfl | rfl
  · have hL0 : o_L bb0 := eb0 ▸ o_byte_L v _ _
    obtain rfl : bb1 = 0 := eb1.symm.trans (o_byte_0 (by decide))
    obtain rfl : bb2 = 0 := eb2.symm.trans (o_byte_0 (by decide))
    obtain rfl : bb3 = 0 := eb3.symm.trans (o_byte_0 (by decide))
    obtain rfl : bb4 = 0 := eb4.symm.trans (o_byte_0 (by decide))
    obtain rfl : bb5 = 0 := eb5.symm.trans (o_byte_0 (by decide))
    refine icmpgtF C d0_79 (by decide) <| al C d0_82 rfl <| ic C 0 d0_84 rfl <| il C d0_85 rfl <| il C d0_87 rfl <| il C d0_89 rfl <| il C d0_91 rfl <| Go.callS C (z := y_7) (argsL := [.ref b1, .int 0, .int bb0, .int 0, .int 0, .int 1]) (rm2a hW h7 b1 bb0 ((0 : Int32)) ((0 : Int32)) ((1 : Int32)) A5) (w_7 hW) (w_8 hW) (w_4 hW) (w_9 hW) d0_93 pd_30 rfl (by decide) rfl (st := []) rfl (by decide) (nb rfl) (by decide) (by decide) (fm ⟨(mi 1 rfl), nx⟩) (fun _ h48 _ q50 K51 _ => ?_)
    obtain ⟨rfl, rfl, F53⟩ := q50
    replace A10 := A10.keep K51 (ninS (Ne.symm n_b1_b6) nin0)
    show Go k _ _ _ _ _ _ []
    rw [if_pos (show (1 : Int32) < 2 from by decide), if_pos (show (1 : Int32) < 3 from by decide)] at F53
    obtain ⟨q0, q1, hg0, F53⟩ : ∃ q0 q1 : Int32, o_g1 q0 q1 (o_b bb0) ∧ Av Z h48 b1 .char [.int (o_sym q0), .int (o_sym q1), .int 61, .int 61] := ⟨o_q18 (o_WW bb0 (0 : Int32) (0 : Int32)), o_q12 (o_WW bb0 (0 : Int32) (0 : Int32)), o_enc1 hL0, F53⟩
    refine Go.new C (w_13 hW) (w_14 hW) (w_15 hW) (fl_0 hW) dv_0 d0_96 (by decide) (by decide) (fun b54 h55 e56 K57 O58 => ?_)
    have n_b6_b54 : b6 ≠ b54 := ne_lt A10.lt (ge_of e56)
    have n_b1_b54 : b1 ≠ b54 := ne_lt F53.lt (ge_of e56)
    replace A10 := A10.k0 K57
    replace F53 := F53.k0 K57
    refine Go.dup C d0_99 rfl <| al C d0_100 rfl ?_
    have F53 : Av Z h55 b1 .char (List.map Value.int ([(o_sym q0), (o_sym q1), (61 : Int32), (61 : Int32)] : List Int32)) := F53
    obtain ⟨k0, k1, -⟩ := id hg0
    have hlat : o_lat [(o_sym q0), (o_sym q1), (61 : Int32), (61 : Int32)] := fun c hc => by
      simp only [List.mem_cons, List.not_mem_nil, or_false] at hc
      rcases hc with rfl | rfl | rfl | rfl
      · exact o_symL k0
      · exact o_symL k1
      · exact o_L61
      · exact o_L61
    refine Go.callI C (z := y_4) (a := b54) (argsL := [.ref b1]) (rm4 hW h55 (b54) (b1) ([(o_sym q0), (o_sym q1), (61 : Int32), (61 : Int32)]) O58 F53 hlat (nb rfl) n_b1_b54 (by simp)) rfl (w_16 hW) (w_17 hW) (w_15 hW) (w_18 hW) d0_102 pd_31 rfl (by decide) rfl (st := [.ref b54]) rfl (by decide) (nb rfl) (by decide) (by decide) (fm ⟨(mi 0 rfl), nx⟩) (fun _ h60 _ q62 K63 _ => ?_)
    obtain ⟨t65, rfl, rfl, F66⟩ := q62
    replace A10 := A10.keep K63 (ninS n_b6_b54 nin0)
    show Go k _ _ _ _ _ _ [.ref b54]
    have F66 : Str Z h60 b54 t65 [(o_sym q0), (o_sym q1), (61 : Int32), (61 : Int32)] := by
      have z := F66
      simp only [List.map, o_b61, o_symB k0, o_symB k1] at z
      exact z
    have hB0 := o_b_B bb0
    refine Go.astore C d0_105 rfl (Ls' := #[.val (.long v), .second, vi sel, vi sc, vi 1, vr b1, vr b6, vi bb0, vi 0, vi 0, vi 0, vi 0, vi 0, vr b54, su, su, su, su]) rfl <| Go.goto C d0_107 <| Go.new C (w_42 hW) (w_43 hW) (w_44 hW) (fl_2 hW) dv_2 d0_150 (by decide) (by decide) (fun b67 h68 e69 K70 O71 => ?_)
    have n_b54_b67 : b54 ≠ b67 := ne_lt F66.lt (ge_of e69)
    have n_t65_b67 : t65 ≠ b67 := ne_lt F66.lt1 (ge_of e69)
    replace F66 := F66.k0 K70
    refine Go.dup C d0_153 rfl <| iN C d0_154 rfl <| Go.callI C (z := y_8) (a := b67) (argsL := [.int sc]) (rm10 hW h68 b67 sc O71) rfl (w_45 hW) (w_46 hW) (w_44 hW) (w_47 hW) d0_155 pd_32 rfl (by decide) rfl (st := [.ref b67]) rfl (by decide) (nb rfl) (by decide) (by decide) (fm ⟨(mi 0 rfl), nx⟩) (fun _ h73 _ q75 K76 _ => ?_)
    obtain ⟨rfl, rfl, F78⟩ := q75
    replace F66 := F66.keep K76 (ninS n_b54_b67 nin0) (ninS n_t65_b67 nin0)
    show Go k _ _ _ _ _ _ [.ref b67]
    refine al C d0_158 rfl <| Go.callVH C (z := y_42) (zr := y_42) (a := b67) (argsL := [.ref b54]) (rmR1 hW h73 b67 b54 t65 sc dec fb iso utf zz zm mr q0 q1 ((o_b bb0)) F78 F66 hSD hSC hSZ hMR hg0 hB0) F78.1 (w_51 hW) (w_52 hW) (fun hz => notFace_of_selects (args := #[]) (mvT hz (w_54 hW))) (w_54 hW) (w_53 hW) (w_44 hW) (w_55 hW) d0_160 pd_33 rfl (by decide) rfl (st := []) rfl (by decide) (nb rfl) (by decide) (by decide) nx (fun _ _ _ q82 _ _ => ?_)
    obtain ⟨bd85, o86, m87, s88, M89, r90, rfl, rfl, p91, p92, p93, F94, F95, F96⟩ := q82
    show Go k _ _ _ _ _ _ [.ref bd85]
    exact o_lp_W hW C F94 F95 F96 p91 p92 p93 (sh := (56 : Int32)) (by decide) (by subst eb0; exact o_fin1 v) (fun _ => ⟨rfl, rfl⟩)
  · have hL0 : o_L bb0 := eb0 ▸ o_byte_L v _ _
    have hL1 : o_L bb1 := eb1 ▸ o_byte_L v _ _
    obtain rfl : bb2 = 0 := eb2.symm.trans (o_byte_0 (by decide))
    obtain rfl : bb3 = 0 := eb3.symm.trans (o_byte_0 (by decide))
    obtain rfl : bb4 = 0 := eb4.symm.trans (o_byte_0 (by decide))
    obtain rfl : bb5 = 0 := eb5.symm.trans (o_byte_0 (by decide))
    refine icmpgtF C d0_79 (by decide) <| al C d0_82 rfl <| ic C 0 d0_84 rfl <| il C d0_85 rfl <| il C d0_87 rfl <| il C d0_89 rfl <| il C d0_91 rfl <| Go.callS C (z := y_7) (argsL := [.ref b1, .int 0, .int bb0, .int bb1, .int 0, .int 2]) (rm2a hW h7 b1 bb0 bb1 ((0 : Int32)) ((2 : Int32)) A5) (w_7 hW) (w_8 hW) (w_4 hW) (w_9 hW) d0_93 pd_30 rfl (by decide) rfl (st := []) rfl (by decide) (nb rfl) (by decide) (by decide) (fm ⟨(mi 1 rfl), nx⟩) (fun _ h132 _ q134 K135 _ => ?_)
    obtain ⟨rfl, rfl, F137⟩ := q134
    replace A10 := A10.keep K135 (ninS (Ne.symm n_b1_b6) nin0)
    show Go k _ _ _ _ _ _ []
    rw [if_neg (show ¬ (2 : Int32) < 2 from by decide), if_pos (show (2 : Int32) < 3 from by decide)] at F137
    obtain ⟨q0, q1, q2, hg0, F137⟩ : ∃ q0 q1 q2 : Int32, o_g2 q0 q1 q2 (o_b bb0) (o_b bb1) ∧ Av Z h132 b1 .char [.int (o_sym q0), .int (o_sym q1), .int (o_sym q2), .int 61] := ⟨o_q18 (o_WW bb0 bb1 (0 : Int32)), o_q12 (o_WW bb0 bb1 (0 : Int32)), o_q6 (o_WW bb0 bb1 (0 : Int32)), o_enc2 hL0 hL1, F137⟩
    refine Go.new C (w_13 hW) (w_14 hW) (w_15 hW) (fl_0 hW) dv_0 d0_96 (by decide) (by decide) (fun b138 h139 e140 K141 O142 => ?_)
    have n_b6_b138 : b6 ≠ b138 := ne_lt A10.lt (ge_of e140)
    have n_b1_b138 : b1 ≠ b138 := ne_lt F137.lt (ge_of e140)
    replace A10 := A10.k0 K141
    replace F137 := F137.k0 K141
    refine Go.dup C d0_99 rfl <| al C d0_100 rfl ?_
    have F137 : Av Z h139 b1 .char (List.map Value.int ([(o_sym q0), (o_sym q1), (o_sym q2), (61 : Int32)] : List Int32)) := F137
    obtain ⟨k0, k1, k2, -⟩ := id hg0
    have hlat : o_lat [(o_sym q0), (o_sym q1), (o_sym q2), (61 : Int32)] := fun c hc => by
      simp only [List.mem_cons, List.not_mem_nil, or_false] at hc
      rcases hc with rfl | rfl | rfl | rfl
      · exact o_symL k0
      · exact o_symL k1
      · exact o_symL k2
      · exact o_L61
    refine Go.callI C (z := y_4) (a := b138) (argsL := [.ref b1]) (rm4 hW h139 (b138) (b1) ([(o_sym q0), (o_sym q1), (o_sym q2), (61 : Int32)]) O142 F137 hlat (nb rfl) n_b1_b138 (by simp)) rfl (w_16 hW) (w_17 hW) (w_15 hW) (w_18 hW) d0_102 pd_31 rfl (by decide) rfl (st := [.ref b138]) rfl (by decide) (nb rfl) (by decide) (by decide) (fm ⟨(mi 0 rfl), nx⟩) (fun _ h144 _ q146 K147 _ => ?_)
    obtain ⟨t149, rfl, rfl, F150⟩ := q146
    replace A10 := A10.keep K147 (ninS n_b6_b138 nin0)
    show Go k _ _ _ _ _ _ [.ref b138]
    have F150 : Str Z h144 b138 t149 [(o_sym q0), (o_sym q1), (o_sym q2), (61 : Int32)] := by
      have z := F150
      simp only [List.map, o_b61, o_symB k0, o_symB k1, o_symB k2] at z
      exact z
    have hB0 := o_b_B bb0
    have hB1 := o_b_B bb1
    refine Go.astore C d0_105 rfl (Ls' := #[.val (.long v), .second, vi sel, vi sc, vi 2, vr b1, vr b6, vi bb0, vi bb1, vi 0, vi 0, vi 0, vi 0, vr b138, su, su, su, su]) rfl <| Go.goto C d0_107 <| Go.new C (w_42 hW) (w_43 hW) (w_44 hW) (fl_2 hW) dv_2 d0_150 (by decide) (by decide) (fun b151 h152 e153 K154 O155 => ?_)
    have n_b138_b151 : b138 ≠ b151 := ne_lt F150.lt (ge_of e153)
    have n_t149_b151 : t149 ≠ b151 := ne_lt F150.lt1 (ge_of e153)
    replace F150 := F150.k0 K154
    refine Go.dup C d0_153 rfl <| iN C d0_154 rfl <| Go.callI C (z := y_8) (a := b151) (argsL := [.int sc]) (rm10 hW h152 b151 sc O155) rfl (w_45 hW) (w_46 hW) (w_44 hW) (w_47 hW) d0_155 pd_32 rfl (by decide) rfl (st := [.ref b151]) rfl (by decide) (nb rfl) (by decide) (by decide) (fm ⟨(mi 0 rfl), nx⟩) (fun _ h157 _ q159 K160 _ => ?_)
    obtain ⟨rfl, rfl, F162⟩ := q159
    replace F150 := F150.keep K160 (ninS n_b138_b151 nin0) (ninS n_t149_b151 nin0)
    show Go k _ _ _ _ _ _ [.ref b151]
    refine al C d0_158 rfl <| Go.callVH C (z := y_42) (zr := y_42) (a := b151) (argsL := [.ref b138]) (rmR2 hW h157 b151 b138 t149 sc dec fb iso utf zz zm mr q0 q1 q2 ((o_b bb0)) ((o_b bb1)) F162 F150 hSD hSC hSZ hMR hg0 hB0 hB1) F162.1 (w_51 hW) (w_52 hW) (fun hz => notFace_of_selects (args := #[]) (mvT hz (w_54 hW))) (w_54 hW) (w_53 hW) (w_44 hW) (w_55 hW) d0_160 pd_33 rfl (by decide) rfl (st := []) rfl (by decide) (nb rfl) (by decide) (by decide) nx (fun _ _ _ q166 _ _ => ?_)
    obtain ⟨bd169, o170, m171, s172, M173, r174, rfl, rfl, p175, p176, p177, F178, F179, F180⟩ := q166
    show Go k _ _ _ _ _ _ [.ref bd169]
    exact o_lp_W hW C F178 F179 F180 p175 p176 p177 (sh := (48 : Int32)) (by decide) (by subst eb0; subst eb1; exact o_fin2 v) (fun _ => ⟨rfl, rfl⟩)
  · have hL0 : o_L bb0 := eb0 ▸ o_byte_L v _ _
    have hL1 : o_L bb1 := eb1 ▸ o_byte_L v _ _
    have hL2 : o_L bb2 := eb2 ▸ o_byte_L v _ _
    obtain rfl : bb3 = 0 := eb3.symm.trans (o_byte_0 (by decide))
    obtain rfl : bb4 = 0 := eb4.symm.trans (o_byte_0 (by decide))
    obtain rfl : bb5 = 0 := eb5.symm.trans (o_byte_0 (by decide))
    refine icmpgtF C d0_79 (by decide) <| al C d0_82 rfl <| ic C 0 d0_84 rfl <| il C d0_85 rfl <| il C d0_87 rfl <| il C d0_89 rfl <| il C d0_91 rfl <| Go.callS C (z := y_7) (argsL := [.ref b1, .int 0, .int bb0, .int bb1, .int bb2, .int 3]) (rm2a hW h7 b1 bb0 bb1 bb2 ((3 : Int32)) A5) (w_7 hW) (w_8 hW) (w_4 hW) (w_9 hW) d0_93 pd_30 rfl (by decide) rfl (st := []) rfl (by decide) (nb rfl) (by decide) (by decide) (fm ⟨(mi 1 rfl), nx⟩) (fun _ h182 _ q184 K185 _ => ?_)
    obtain ⟨rfl, rfl, F187⟩ := q184
    replace A10 := A10.keep K185 (ninS (Ne.symm n_b1_b6) nin0)
    show Go k _ _ _ _ _ _ []
    rw [if_neg (show ¬ (3 : Int32) < 2 from by decide), if_neg (show ¬ (3 : Int32) < 3 from by decide)] at F187
    obtain ⟨q0, q1, q2, q3, hg0, F187⟩ : ∃ q0 q1 q2 q3 : Int32, o_g3 q0 q1 q2 q3 (o_b bb0) (o_b bb1) (o_b bb2) ∧ Av Z h182 b1 .char [.int (o_sym q0), .int (o_sym q1), .int (o_sym q2), .int (o_sym q3)] := ⟨o_q18 (o_WW bb0 bb1 bb2), o_q12 (o_WW bb0 bb1 bb2), o_q6 (o_WW bb0 bb1 bb2), o_q0 (o_WW bb0 bb1 bb2), o_enc3 hL0 hL1 hL2, F187⟩
    refine Go.new C (w_13 hW) (w_14 hW) (w_15 hW) (fl_0 hW) dv_0 d0_96 (by decide) (by decide) (fun b188 h189 e190 K191 O192 => ?_)
    have n_b6_b188 : b6 ≠ b188 := ne_lt A10.lt (ge_of e190)
    have n_b1_b188 : b1 ≠ b188 := ne_lt F187.lt (ge_of e190)
    replace A10 := A10.k0 K191
    replace F187 := F187.k0 K191
    refine Go.dup C d0_99 rfl <| al C d0_100 rfl ?_
    have F187 : Av Z h189 b1 .char (List.map Value.int ([(o_sym q0), (o_sym q1), (o_sym q2), (o_sym q3)] : List Int32)) := F187
    obtain ⟨k0, k1, k2, k3, -⟩ := id hg0
    have hlat : o_lat [(o_sym q0), (o_sym q1), (o_sym q2), (o_sym q3)] := fun c hc => by
      simp only [List.mem_cons, List.not_mem_nil, or_false] at hc
      rcases hc with rfl | rfl | rfl | rfl
      · exact o_symL k0
      · exact o_symL k1
      · exact o_symL k2
      · exact o_symL k3
    refine Go.callI C (z := y_4) (a := b188) (argsL := [.ref b1]) (rm4 hW h189 (b188) (b1) ([(o_sym q0), (o_sym q1), (o_sym q2), (o_sym q3)]) O192 F187 hlat (nb rfl) n_b1_b188 (by simp)) rfl (w_16 hW) (w_17 hW) (w_15 hW) (w_18 hW) d0_102 pd_31 rfl (by decide) rfl (st := [.ref b188]) rfl (by decide) (nb rfl) (by decide) (by decide) (fm ⟨(mi 0 rfl), nx⟩) (fun _ h194 _ q196 K197 _ => ?_)
    obtain ⟨t199, rfl, rfl, F200⟩ := q196
    replace A10 := A10.keep K197 (ninS n_b6_b188 nin0)
    show Go k _ _ _ _ _ _ [.ref b188]
    have F200 : Str Z h194 b188 t199 [(o_sym q0), (o_sym q1), (o_sym q2), (o_sym q3)] := by
      have z := F200
      simp only [List.map, o_symB k0, o_symB k1, o_symB k2, o_symB k3] at z
      exact z
    have hB0 := o_b_B bb0
    have hB1 := o_b_B bb1
    have hB2 := o_b_B bb2
    refine Go.astore C d0_105 rfl (Ls' := #[.val (.long v), .second, vi sel, vi sc, vi 3, vr b1, vr b6, vi bb0, vi bb1, vi bb2, vi 0, vi 0, vi 0, vr b188, su, su, su, su]) rfl <| Go.goto C d0_107 <| Go.new C (w_42 hW) (w_43 hW) (w_44 hW) (fl_2 hW) dv_2 d0_150 (by decide) (by decide) (fun b201 h202 e203 K204 O205 => ?_)
    have n_b188_b201 : b188 ≠ b201 := ne_lt F200.lt (ge_of e203)
    have n_t199_b201 : t199 ≠ b201 := ne_lt F200.lt1 (ge_of e203)
    replace F200 := F200.k0 K204
    refine Go.dup C d0_153 rfl <| iN C d0_154 rfl <| Go.callI C (z := y_8) (a := b201) (argsL := [.int sc]) (rm10 hW h202 b201 sc O205) rfl (w_45 hW) (w_46 hW) (w_44 hW) (w_47 hW) d0_155 pd_32 rfl (by decide) rfl (st := [.ref b201]) rfl (by decide) (nb rfl) (by decide) (by decide) (fm ⟨(mi 0 rfl), nx⟩) (fun _ h207 _ q209 K210 _ => ?_)
    obtain ⟨rfl, rfl, F212⟩ := q209
    replace F200 := F200.keep K210 (ninS n_b188_b201 nin0) (ninS n_t199_b201 nin0)
    show Go k _ _ _ _ _ _ [.ref b201]
    refine al C d0_158 rfl <| Go.callVH C (z := y_42) (zr := y_42) (a := b201) (argsL := [.ref b188]) (rmR3 hW h207 b201 b188 t199 sc dec fb iso utf zz zm mr q0 q1 q2 q3 ((o_b bb0)) ((o_b bb1)) ((o_b bb2)) F212 F200 hSD hSC hSZ hMR hg0 hB0 hB1 hB2) F212.1 (w_51 hW) (w_52 hW) (fun hz => notFace_of_selects (args := #[]) (mvT hz (w_54 hW))) (w_54 hW) (w_53 hW) (w_44 hW) (w_55 hW) d0_160 pd_33 rfl (by decide) rfl (st := []) rfl (by decide) (nb rfl) (by decide) (by decide) nx (fun _ _ _ q216 _ _ => ?_)
    obtain ⟨bd219, o220, m221, s222, M223, r224, rfl, rfl, p225, p226, p227, F228, F229, F230⟩ := q216
    show Go k _ _ _ _ _ _ [.ref bd219]
    exact o_lp_W hW C F228 F229 F230 p225 p226 p227 (sh := (40 : Int32)) (by decide) (by subst eb0; subst eb1; subst eb2; exact o_fin3 v) (fun _ => ⟨rfl, rfl⟩)
  · have hL0 : o_L bb0 := eb0 ▸ o_byte_L v _ _
    have hL1 : o_L bb1 := eb1 ▸ o_byte_L v _ _
    have hL2 : o_L bb2 := eb2 ▸ o_byte_L v _ _
    have hL3 : o_L bb3 := eb3 ▸ o_byte_L v _ _
    obtain rfl : bb4 = 0 := eb4.symm.trans (o_byte_0 (by decide))
    obtain rfl : bb5 = 0 := eb5.symm.trans (o_byte_0 (by decide))
    refine icmpgtT C d0_79 (by decide) <| al C d0_110 rfl <| ic C 0 d0_112 rfl <| il C d0_113 rfl <| il C d0_115 rfl <| il C d0_117 rfl <| ic C 3 d0_119 rfl <| Go.callS C (z := y_7) (argsL := [.ref b6, .int 0, .int bb0, .int bb1, .int bb2, .int 3]) (rm2b hW h7 b6 bb0 bb1 bb2 ((3 : Int32)) A10) (w_7 hW) (w_8 hW) (w_4 hW) (w_9 hW) d0_120 pd_30 rfl (by decide) rfl (st := []) rfl (by decide) (nb rfl) (by decide) (by decide) (fm ⟨(mi 0 rfl), nx⟩) (fun _ h232 _ q234 _ _ => ?_)
    obtain ⟨rfl, rfl, F237⟩ := q234
    show Go k _ _ _ _ _ _ []
    rw [if_neg (show ¬ (3 : Int32) < 2 from by decide), if_neg (show ¬ (3 : Int32) < 3 from by decide)] at F237
    obtain ⟨q0, q1, q2, q3, hg0, F237⟩ : ∃ q0 q1 q2 q3 : Int32, o_g3 q0 q1 q2 q3 (o_b bb0) (o_b bb1) (o_b bb2) ∧ Av Z h232 b6 .char [.int (o_sym q0), .int (o_sym q1), .int (o_sym q2), .int (o_sym q3), .int 0, .int 0, .int 0, .int 0] := ⟨o_q18 (o_WW bb0 bb1 bb2), o_q12 (o_WW bb0 bb1 bb2), o_q6 (o_WW bb0 bb1 bb2), o_q0 (o_WW bb0 bb1 bb2), o_enc3 hL0 hL1 hL2, F237⟩
    refine al C d0_123 rfl <| ic C 4 d0_125 rfl <| il C d0_126 rfl <| il C d0_128 rfl <| il C d0_130 rfl <| il C d0_132 rfl <| ic C 3 d0_134 rfl <| Go.isub C d0_135 <| gq 1 rfl <| Go.callS C (z := y_7) (argsL := [.ref b6, .int 4, .int bb3, .int 0, .int 0, .int 1]) (rm2c hW h232 b6 ((o_sym q0)) ((o_sym q1)) ((o_sym q2)) ((o_sym q3)) bb3 ((0 : Int32)) ((0 : Int32)) ((1 : Int32)) F237) (w_7 hW) (w_8 hW) (w_4 hW) (w_9 hW) d0_136 pd_30 rfl (by decide) rfl (st := []) rfl (by decide) (nb rfl) (by decide) (by decide) (fm ⟨(mi 0 rfl), nx⟩) (fun _ h239 _ q241 _ _ => ?_)
    obtain ⟨rfl, rfl, F244⟩ := q241
    show Go k _ _ _ _ _ _ []
    rw [if_pos (show (1 : Int32) < 2 from by decide), if_pos (show (1 : Int32) < 3 from by decide)] at F244
    obtain ⟨q4, q5, hg1, F244⟩ : ∃ q4 q5 : Int32, o_g1 q4 q5 (o_b bb3) ∧ Av Z h239 b6 .char [.int (o_sym q0), .int (o_sym q1), .int (o_sym q2), .int (o_sym q3), .int (o_sym q4), .int (o_sym q5), .int 61, .int 61] := ⟨o_q18 (o_WW bb3 (0 : Int32) (0 : Int32)), o_q12 (o_WW bb3 (0 : Int32) (0 : Int32)), o_enc1 hL3, F244⟩
    refine Go.new C (w_13 hW) (w_14 hW) (w_15 hW) (fl_0 hW) dv_0 d0_139 (by decide) (by decide) (fun b245 h246 e247 K248 O249 => ?_)
    have n_b6_b245 : b6 ≠ b245 := ne_lt F244.lt (ge_of e247)
    replace F244 := F244.k0 K248
    refine Go.dup C d0_142 rfl <| al C d0_143 rfl ?_
    have F244 : Av Z h246 b6 .char (List.map Value.int ([(o_sym q0), (o_sym q1), (o_sym q2), (o_sym q3), (o_sym q4), (o_sym q5), (61 : Int32), (61 : Int32)] : List Int32)) := F244
    obtain ⟨k0, k1, k2, k3, -⟩ := id hg0
    obtain ⟨k4, k5, -⟩ := id hg1
    have hlat : o_lat [(o_sym q0), (o_sym q1), (o_sym q2), (o_sym q3), (o_sym q4), (o_sym q5), (61 : Int32), (61 : Int32)] := fun c hc => by
      simp only [List.mem_cons, List.not_mem_nil, or_false] at hc
      rcases hc with rfl | rfl | rfl | rfl | rfl | rfl | rfl | rfl
      · exact o_symL k0
      · exact o_symL k1
      · exact o_symL k2
      · exact o_symL k3
      · exact o_symL k4
      · exact o_symL k5
      · exact o_L61
      · exact o_L61
    refine Go.callI C (z := y_4) (a := b245) (argsL := [.ref b6]) (rm4 hW h246 (b245) (b6) ([(o_sym q0), (o_sym q1), (o_sym q2), (o_sym q3), (o_sym q4), (o_sym q5), (61 : Int32), (61 : Int32)]) O249 F244 hlat (nb rfl) n_b6_b245 (by simp)) rfl (w_16 hW) (w_17 hW) (w_15 hW) (w_18 hW) d0_145 pd_31 rfl (by decide) rfl (st := [.ref b245]) rfl (by decide) (nb rfl) (by decide) (by decide) (fm ⟨(mi 0 rfl), nx⟩) (fun _ h251 _ q253 _ _ => ?_)
    obtain ⟨t256, rfl, rfl, F257⟩ := q253
    show Go k _ _ _ _ _ _ [.ref b245]
    have F257 : Str Z h251 b245 t256 [(o_sym q0), (o_sym q1), (o_sym q2), (o_sym q3), (o_sym q4), (o_sym q5), (61 : Int32), (61 : Int32)] := by
      have z := F257
      simp only [List.map, o_b61, o_symB k0, o_symB k1, o_symB k2, o_symB k3, o_symB k4, o_symB k5] at z
      exact z
    have hB0 := o_b_B bb0
    have hB1 := o_b_B bb1
    have hB2 := o_b_B bb2
    have hB3 := o_b_B bb3
    refine Go.astore C d0_148 rfl (Ls' := #[.val (.long v), .second, vi sel, vi sc, vi 4, vr b1, vr b6, vi bb0, vi bb1, vi bb2, vi bb3, vi 0, vi 0, vr b245, su, su, su, su]) rfl <| Go.new C (w_42 hW) (w_43 hW) (w_44 hW) (fl_2 hW) dv_2 d0_150 (by decide) (by decide) (fun b258 h259 e260 K261 O262 => ?_)
    have n_b245_b258 : b245 ≠ b258 := ne_lt F257.lt (ge_of e260)
    have n_t256_b258 : t256 ≠ b258 := ne_lt F257.lt1 (ge_of e260)
    replace F257 := F257.k0 K261
    refine Go.dup C d0_153 rfl <| iN C d0_154 rfl <| Go.callI C (z := y_8) (a := b258) (argsL := [.int sc]) (rm10 hW h259 b258 sc O262) rfl (w_45 hW) (w_46 hW) (w_44 hW) (w_47 hW) d0_155 pd_32 rfl (by decide) rfl (st := [.ref b258]) rfl (by decide) (nb rfl) (by decide) (by decide) (fm ⟨(mi 0 rfl), nx⟩) (fun _ h264 _ q266 K267 _ => ?_)
    obtain ⟨rfl, rfl, F269⟩ := q266
    replace F257 := F257.keep K267 (ninS n_b245_b258 nin0) (ninS n_t256_b258 nin0)
    show Go k _ _ _ _ _ _ [.ref b258]
    refine al C d0_158 rfl <| Go.callVH C (z := y_42) (zr := y_42) (a := b258) (argsL := [.ref b245]) (rmR4 hW h264 b258 b245 t256 sc dec fb iso utf zz zm mr q0 q1 q2 q3 q4 q5 ((o_b bb0)) ((o_b bb1)) ((o_b bb2)) ((o_b bb3)) F269 F257 hSD hSC hSZ hMR hg0 hg1 hB0 hB1 hB2 hB3) F269.1 (w_51 hW) (w_52 hW) (fun hz => notFace_of_selects (args := #[]) (mvT hz (w_54 hW))) (w_54 hW) (w_53 hW) (w_44 hW) (w_55 hW) d0_160 pd_33 rfl (by decide) rfl (st := []) rfl (by decide) (nb rfl) (by decide) (by decide) nx (fun _ _ _ q273 _ _ => ?_)
    obtain ⟨bd276, o277, m278, s279, M280, r281, rfl, rfl, p282, p283, p284, F285, F286, F287⟩ := q273
    show Go k _ _ _ _ _ _ [.ref bd276]
    exact o_lp_W hW C F285 F286 F287 p282 p283 p284 (sh := (32 : Int32)) (by decide) (by subst eb0; subst eb1; subst eb2; subst eb3; exact o_fin4 v) (fun _ => ⟨rfl, rfl⟩)
  · have hL0 : o_L bb0 := eb0 ▸ o_byte_L v _ _
    have hL1 : o_L bb1 := eb1 ▸ o_byte_L v _ _
    have hL2 : o_L bb2 := eb2 ▸ o_byte_L v _ _
    have hL3 : o_L bb3 := eb3 ▸ o_byte_L v _ _
    have hL4 : o_L bb4 := eb4 ▸ o_byte_L v _ _
    obtain rfl : bb5 = 0 := eb5.symm.trans (o_byte_0 (by decide))
    refine icmpgtT C d0_79 (by decide) <| al C d0_110 rfl <| ic C 0 d0_112 rfl <| il C d0_113 rfl <| il C d0_115 rfl <| il C d0_117 rfl <| ic C 3 d0_119 rfl <| Go.callS C (z := y_7) (argsL := [.ref b6, .int 0, .int bb0, .int bb1, .int bb2, .int 3]) (rm2b hW h7 b6 bb0 bb1 bb2 ((3 : Int32)) A10) (w_7 hW) (w_8 hW) (w_4 hW) (w_9 hW) d0_120 pd_30 rfl (by decide) rfl (st := []) rfl (by decide) (nb rfl) (by decide) (by decide) (fm ⟨(mi 0 rfl), nx⟩) (fun _ h289 _ q291 _ _ => ?_)
    obtain ⟨rfl, rfl, F294⟩ := q291
    show Go k _ _ _ _ _ _ []
    rw [if_neg (show ¬ (3 : Int32) < 2 from by decide), if_neg (show ¬ (3 : Int32) < 3 from by decide)] at F294
    obtain ⟨q0, q1, q2, q3, hg0, F294⟩ : ∃ q0 q1 q2 q3 : Int32, o_g3 q0 q1 q2 q3 (o_b bb0) (o_b bb1) (o_b bb2) ∧ Av Z h289 b6 .char [.int (o_sym q0), .int (o_sym q1), .int (o_sym q2), .int (o_sym q3), .int 0, .int 0, .int 0, .int 0] := ⟨o_q18 (o_WW bb0 bb1 bb2), o_q12 (o_WW bb0 bb1 bb2), o_q6 (o_WW bb0 bb1 bb2), o_q0 (o_WW bb0 bb1 bb2), o_enc3 hL0 hL1 hL2, F294⟩
    refine al C d0_123 rfl <| ic C 4 d0_125 rfl <| il C d0_126 rfl <| il C d0_128 rfl <| il C d0_130 rfl <| il C d0_132 rfl <| ic C 3 d0_134 rfl <| Go.isub C d0_135 <| gq 2 rfl <| Go.callS C (z := y_7) (argsL := [.ref b6, .int 4, .int bb3, .int bb4, .int 0, .int 2]) (rm2c hW h289 b6 ((o_sym q0)) ((o_sym q1)) ((o_sym q2)) ((o_sym q3)) bb3 bb4 ((0 : Int32)) ((2 : Int32)) F294) (w_7 hW) (w_8 hW) (w_4 hW) (w_9 hW) d0_136 pd_30 rfl (by decide) rfl (st := []) rfl (by decide) (nb rfl) (by decide) (by decide) (fm ⟨(mi 0 rfl), nx⟩) (fun _ h296 _ q298 _ _ => ?_)
    obtain ⟨rfl, rfl, F301⟩ := q298
    show Go k _ _ _ _ _ _ []
    rw [if_neg (show ¬ (2 : Int32) < 2 from by decide), if_pos (show (2 : Int32) < 3 from by decide)] at F301
    obtain ⟨q4, q5, q6, hg1, F301⟩ : ∃ q4 q5 q6 : Int32, o_g2 q4 q5 q6 (o_b bb3) (o_b bb4) ∧ Av Z h296 b6 .char [.int (o_sym q0), .int (o_sym q1), .int (o_sym q2), .int (o_sym q3), .int (o_sym q4), .int (o_sym q5), .int (o_sym q6), .int 61] := ⟨o_q18 (o_WW bb3 bb4 (0 : Int32)), o_q12 (o_WW bb3 bb4 (0 : Int32)), o_q6 (o_WW bb3 bb4 (0 : Int32)), o_enc2 hL3 hL4, F301⟩
    refine Go.new C (w_13 hW) (w_14 hW) (w_15 hW) (fl_0 hW) dv_0 d0_139 (by decide) (by decide) (fun b302 h303 e304 K305 O306 => ?_)
    have n_b6_b302 : b6 ≠ b302 := ne_lt F301.lt (ge_of e304)
    replace F301 := F301.k0 K305
    refine Go.dup C d0_142 rfl <| al C d0_143 rfl ?_
    have F301 : Av Z h303 b6 .char (List.map Value.int ([(o_sym q0), (o_sym q1), (o_sym q2), (o_sym q3), (o_sym q4), (o_sym q5), (o_sym q6), (61 : Int32)] : List Int32)) := F301
    obtain ⟨k0, k1, k2, k3, -⟩ := id hg0
    obtain ⟨k4, k5, k6, -⟩ := id hg1
    have hlat : o_lat [(o_sym q0), (o_sym q1), (o_sym q2), (o_sym q3), (o_sym q4), (o_sym q5), (o_sym q6), (61 : Int32)] := fun c hc => by
      simp only [List.mem_cons, List.not_mem_nil, or_false] at hc
      rcases hc with rfl | rfl | rfl | rfl | rfl | rfl | rfl | rfl
      · exact o_symL k0
      · exact o_symL k1
      · exact o_symL k2
      · exact o_symL k3
      · exact o_symL k4
      · exact o_symL k5
      · exact o_symL k6
      · exact o_L61
    refine Go.callI C (z := y_4) (a := b302) (argsL := [.ref b6]) (rm4 hW h303 (b302) (b6) ([(o_sym q0), (o_sym q1), (o_sym q2), (o_sym q3), (o_sym q4), (o_sym q5), (o_sym q6), (61 : Int32)]) O306 F301 hlat (nb rfl) n_b6_b302 (by simp)) rfl (w_16 hW) (w_17 hW) (w_15 hW) (w_18 hW) d0_145 pd_31 rfl (by decide) rfl (st := [.ref b302]) rfl (by decide) (nb rfl) (by decide) (by decide) (fm ⟨(mi 0 rfl), nx⟩) (fun _ h308 _ q310 _ _ => ?_)
    obtain ⟨t313, rfl, rfl, F314⟩ := q310
    show Go k _ _ _ _ _ _ [.ref b302]
    have F314 : Str Z h308 b302 t313 [(o_sym q0), (o_sym q1), (o_sym q2), (o_sym q3), (o_sym q4), (o_sym q5), (o_sym q6), (61 : Int32)] := by
      have z := F314
      simp only [List.map, o_b61, o_symB k0, o_symB k1, o_symB k2, o_symB k3, o_symB k4, o_symB k5, o_symB k6] at z
      exact z
    have hB0 := o_b_B bb0
    have hB1 := o_b_B bb1
    have hB2 := o_b_B bb2
    have hB3 := o_b_B bb3
    have hB4 := o_b_B bb4
    refine Go.astore C d0_148 rfl (Ls' := #[.val (.long v), .second, vi sel, vi sc, vi 5, vr b1, vr b6, vi bb0, vi bb1, vi bb2, vi bb3, vi bb4, vi 0, vr b302, su, su, su, su]) rfl <| Go.new C (w_42 hW) (w_43 hW) (w_44 hW) (fl_2 hW) dv_2 d0_150 (by decide) (by decide) (fun b315 h316 e317 K318 O319 => ?_)
    have n_b302_b315 : b302 ≠ b315 := ne_lt F314.lt (ge_of e317)
    have n_t313_b315 : t313 ≠ b315 := ne_lt F314.lt1 (ge_of e317)
    replace F314 := F314.k0 K318
    refine Go.dup C d0_153 rfl <| iN C d0_154 rfl <| Go.callI C (z := y_8) (a := b315) (argsL := [.int sc]) (rm10 hW h316 b315 sc O319) rfl (w_45 hW) (w_46 hW) (w_44 hW) (w_47 hW) d0_155 pd_32 rfl (by decide) rfl (st := [.ref b315]) rfl (by decide) (nb rfl) (by decide) (by decide) (fm ⟨(mi 0 rfl), nx⟩) (fun _ h321 _ q323 K324 _ => ?_)
    obtain ⟨rfl, rfl, F326⟩ := q323
    replace F314 := F314.keep K324 (ninS n_b302_b315 nin0) (ninS n_t313_b315 nin0)
    show Go k _ _ _ _ _ _ [.ref b315]
    refine al C d0_158 rfl <| Go.callVH C (z := y_42) (zr := y_42) (a := b315) (argsL := [.ref b302]) (rmR5 hW h321 b315 b302 t313 sc dec fb iso utf zz zm mr q0 q1 q2 q3 q4 q5 q6 ((o_b bb0)) ((o_b bb1)) ((o_b bb2)) ((o_b bb3)) ((o_b bb4)) F326 F314 hSD hSC hSZ hMR hg0 hg1 hB0 hB1 hB2 hB3 hB4) F326.1 (w_51 hW) (w_52 hW) (fun hz => notFace_of_selects (args := #[]) (mvT hz (w_54 hW))) (w_54 hW) (w_53 hW) (w_44 hW) (w_55 hW) d0_160 pd_33 rfl (by decide) rfl (st := []) rfl (by decide) (nb rfl) (by decide) (by decide) nx (fun _ _ _ q330 _ _ => ?_)
    obtain ⟨bd333, o334, m335, s336, M337, r338, rfl, rfl, p339, p340, p341, F342, F343, F344⟩ := q330
    show Go k _ _ _ _ _ _ [.ref bd333]
    exact o_lp_W hW C F342 F343 F344 p339 p340 p341 (sh := (24 : Int32)) (by decide) (by subst eb0; subst eb1; subst eb2; subst eb3; subst eb4; exact o_fin5 v) (fun _ => ⟨rfl, rfl⟩)
  have hL0 : o_L bb0 := eb0 ▸ o_byte_L v _ _
  have hL1 : o_L bb1 := eb1 ▸ o_byte_L v _ _
  have hL2 : o_L bb2 := eb2 ▸ o_byte_L v _ _
  have hL3 : o_L bb3 := eb3 ▸ o_byte_L v _ _
  have hL4 : o_L bb4 := eb4 ▸ o_byte_L v _ _
  have hL5 : o_L bb5 := eb5 ▸ o_byte_L v _ _
  refine icmpgtT C d0_79 (by decide) <| al C d0_110 rfl <| ic C 0 d0_112 rfl <| il C d0_113 rfl <| il C d0_115 rfl <| il C d0_117 rfl <| ic C 3 d0_119 rfl <| Go.callS C (z := y_7) (argsL := [.ref b6, .int 0, .int bb0, .int bb1, .int bb2, .int 3]) (rm2b hW h7 b6 bb0 bb1 bb2 ((3 : Int32)) A10) (w_7 hW) (w_8 hW) (w_4 hW) (w_9 hW) d0_120 pd_30 rfl (by decide) rfl (st := []) rfl (by decide) (nb rfl) (by decide) (by decide) (fm ⟨(mi 0 rfl), nx⟩) (fun _ h346 _ q348 _ _ => ?_)
  obtain ⟨rfl, rfl, F351⟩ := q348
  show Go k _ _ _ _ _ _ []
  rw [if_neg (show ¬ (3 : Int32) < 2 from by decide), if_neg (show ¬ (3 : Int32) < 3 from by decide)] at F351
  obtain ⟨q0, q1, q2, q3, hg0, F351⟩ : ∃ q0 q1 q2 q3 : Int32, o_g3 q0 q1 q2 q3 (o_b bb0) (o_b bb1) (o_b bb2) ∧ Av Z h346 b6 .char [.int (o_sym q0), .int (o_sym q1), .int (o_sym q2), .int (o_sym q3), .int 0, .int 0, .int 0, .int 0] := ⟨o_q18 (o_WW bb0 bb1 bb2), o_q12 (o_WW bb0 bb1 bb2), o_q6 (o_WW bb0 bb1 bb2), o_q0 (o_WW bb0 bb1 bb2), o_enc3 hL0 hL1 hL2, F351⟩
  refine al C d0_123 rfl <| ic C 4 d0_125 rfl <| il C d0_126 rfl <| il C d0_128 rfl <| il C d0_130 rfl <| il C d0_132 rfl <| ic C 3 d0_134 rfl <| Go.isub C d0_135 <| gq 3 rfl <| Go.callS C (z := y_7) (argsL := [.ref b6, .int 4, .int bb3, .int bb4, .int bb5, .int 3]) (rm2c hW h346 b6 ((o_sym q0)) ((o_sym q1)) ((o_sym q2)) ((o_sym q3)) bb3 bb4 bb5 ((3 : Int32)) F351) (w_7 hW) (w_8 hW) (w_4 hW) (w_9 hW) d0_136 pd_30 rfl (by decide) rfl (st := []) rfl (by decide) (nb rfl) (by decide) (by decide) (fm ⟨(mi 0 rfl), nx⟩) (fun _ h353 _ q355 _ _ => ?_)
  obtain ⟨rfl, rfl, F358⟩ := q355
  show Go k _ _ _ _ _ _ []
  rw [if_neg (show ¬ (3 : Int32) < 2 from by decide), if_neg (show ¬ (3 : Int32) < 3 from by decide)] at F358
  obtain ⟨q4, q5, q6, q7, hg1, F358⟩ : ∃ q4 q5 q6 q7 : Int32, o_g3 q4 q5 q6 q7 (o_b bb3) (o_b bb4) (o_b bb5) ∧ Av Z h353 b6 .char [.int (o_sym q0), .int (o_sym q1), .int (o_sym q2), .int (o_sym q3), .int (o_sym q4), .int (o_sym q5), .int (o_sym q6), .int (o_sym q7)] := ⟨o_q18 (o_WW bb3 bb4 bb5), o_q12 (o_WW bb3 bb4 bb5), o_q6 (o_WW bb3 bb4 bb5), o_q0 (o_WW bb3 bb4 bb5), o_enc3 hL3 hL4 hL5, F358⟩
  refine Go.new C (w_13 hW) (w_14 hW) (w_15 hW) (fl_0 hW) dv_0 d0_139 (by decide) (by decide) (fun b359 h360 e361 K362 O363 => ?_)
  have n_b6_b359 : b6 ≠ b359 := ne_lt F358.lt (ge_of e361)
  replace F358 := F358.k0 K362
  refine Go.dup C d0_142 rfl <| al C d0_143 rfl ?_
  have F358 : Av Z h360 b6 .char (List.map Value.int ([(o_sym q0), (o_sym q1), (o_sym q2), (o_sym q3), (o_sym q4), (o_sym q5), (o_sym q6), (o_sym q7)] : List Int32)) := F358
  obtain ⟨k0, k1, k2, k3, -⟩ := id hg0
  obtain ⟨k4, k5, k6, k7, -⟩ := id hg1
  have hlat : o_lat [(o_sym q0), (o_sym q1), (o_sym q2), (o_sym q3), (o_sym q4), (o_sym q5), (o_sym q6), (o_sym q7)] := fun c hc => by
    simp only [List.mem_cons, List.not_mem_nil, or_false] at hc
    rcases hc with rfl | rfl | rfl | rfl | rfl | rfl | rfl | rfl
    · exact o_symL k0
    · exact o_symL k1
    · exact o_symL k2
    · exact o_symL k3
    · exact o_symL k4
    · exact o_symL k5
    · exact o_symL k6
    · exact o_symL k7
  refine Go.callI C (z := y_4) (a := b359) (argsL := [.ref b6]) (rm4 hW h360 (b359) (b6) ([(o_sym q0), (o_sym q1), (o_sym q2), (o_sym q3), (o_sym q4), (o_sym q5), (o_sym q6), (o_sym q7)]) O363 F358 hlat (nb rfl) n_b6_b359 (by simp)) rfl (w_16 hW) (w_17 hW) (w_15 hW) (w_18 hW) d0_145 pd_31 rfl (by decide) rfl (st := [.ref b359]) rfl (by decide) (nb rfl) (by decide) (by decide) (fm ⟨(mi 0 rfl), nx⟩) (fun _ h365 _ q367 _ _ => ?_)
  obtain ⟨t370, rfl, rfl, F371⟩ := q367
  show Go k _ _ _ _ _ _ [.ref b359]
  have F371 : Str Z h365 b359 t370 [(o_sym q0), (o_sym q1), (o_sym q2), (o_sym q3), (o_sym q4), (o_sym q5), (o_sym q6), (o_sym q7)] := by
    have z := F371
    simp only [List.map, o_symB k0, o_symB k1, o_symB k2, o_symB k3, o_symB k4, o_symB k5, o_symB k6, o_symB k7] at z
    exact z
  have hB0 := o_b_B bb0
  have hB1 := o_b_B bb1
  have hB2 := o_b_B bb2
  have hB3 := o_b_B bb3
  have hB4 := o_b_B bb4
  have hB5 := o_b_B bb5
  refine Go.astore C d0_148 rfl (Ls' := #[.val (.long v), .second, vi sel, vi sc, vi 6, vr b1, vr b6, vi bb0, vi bb1, vi bb2, vi bb3, vi bb4, vi bb5, vr b359, su, su, su, su]) rfl <| Go.new C (w_42 hW) (w_43 hW) (w_44 hW) (fl_2 hW) dv_2 d0_150 (by decide) (by decide) (fun b372 h373 e374 K375 O376 => ?_)
  have n_b359_b372 : b359 ≠ b372 := ne_lt F371.lt (ge_of e374)
  have n_t370_b372 : t370 ≠ b372 := ne_lt F371.lt1 (ge_of e374)
  replace F371 := F371.k0 K375
  refine Go.dup C d0_153 rfl <| iN C d0_154 rfl <| Go.callI C (z := y_8) (a := b372) (argsL := [.int sc]) (rm10 hW h373 b372 sc O376) rfl (w_45 hW) (w_46 hW) (w_44 hW) (w_47 hW) d0_155 pd_32 rfl (by decide) rfl (st := [.ref b372]) rfl (by decide) (nb rfl) (by decide) (by decide) (fm ⟨(mi 0 rfl), nx⟩) (fun _ h378 _ q380 K381 _ => ?_)
  obtain ⟨rfl, rfl, F383⟩ := q380
  replace F371 := F371.keep K381 (ninS n_b359_b372 nin0) (ninS n_t370_b372 nin0)
  show Go k _ _ _ _ _ _ [.ref b372]
  refine al C d0_158 rfl <| Go.callVH C (z := y_42) (zr := y_42) (a := b372) (argsL := [.ref b359]) (rmR6 hW h378 b372 b359 t370 sc dec fb iso utf zz zm mr q0 q1 q2 q3 q4 q5 q6 q7 ((o_b bb0)) ((o_b bb1)) ((o_b bb2)) ((o_b bb3)) ((o_b bb4)) ((o_b bb5)) F383 F371 hSD hSC hSZ hMR hg0 hg1 hB0 hB1 hB2 hB3 hB4 hB5) F383.1 (w_51 hW) (w_52 hW) (fun hz => notFace_of_selects (args := #[]) (mvT hz (w_54 hW))) (w_54 hW) (w_53 hW) (w_44 hW) (w_55 hW) d0_160 pd_33 rfl (by decide) rfl (st := []) rfl (by decide) (nb rfl) (by decide) (by decide) nx (fun _ _ _ q387 _ _ => ?_)
  obtain ⟨bd390, o391, m392, s393, M394, r395, rfl, rfl, p396, p397, p398, F399, F400, F401⟩ := q387
  show Go k _ _ _ _ _ _ [.ref bd390]
  exact o_lp_W hW C F399 F400 F401 p396 p397 p398 (sh := (16 : Int32)) (by decide) (by subst eb0; subst eb1; subst eb2; subst eb3; subst eb4; subst eb5; exact o_fin6 v) (fun _ => ⟨rfl, rfl⟩)
theorem comes_1 {Post : Tables → Env → Array Value → State → Outcome → State → Prop} (hpost : ∀ tb e args s v u, (limb_1_1.after args s (.returned v) u = true ∧ limb_1_2.after args s (.returned v) u = true ∧ True) → ReturnedEndW s (.returned v) u (Jvm.fieldLocs frame_1_writes args s ++ Jvm.arrayLocs frame_1_arrays args s ++ Jvm.staticLocs frame_1_statics s) 32 1216 → Post tb e args s (.returned v) u) :
    ArmFor flags0 classFile x code maxLocals ret World_1 tables_1 room_1 Calls_1 rest_1 Pre_1 Post := by
  intro l hfl _ _ p e ha hc hk s m args below hf hA hF happ hP
  obtain ⟨hcalls, hrest, hpre⟩ := hP
  obtain ⟨-, -, -, hnamed, -, -, -, hat⟩ := (Spec.applies_iff hf).mp happ
  obtain ⟨hg, hn⟩ := and_e (Cond.before_iff.mp (show (Jvm.Cond.and given_1 narrow_1).before args s = true from hpre))
  obtain ⟨g1, g2⟩ := and_e hg
  obtain ⟨g3, g4⟩ := and_e g2
  obtain ⟨g5, g6⟩ := and_e g4
  obtain ⟨w0, w1, w2, rfl⟩ : ∃ w0 w1 w2 : Value, args = #[w0, w1, w2] := by
    have hs : args.size = 3 := by simpa [Cond.value, given_1] using g1
    obtain ⟨L⟩ := args
    match L, hs with
    | [w0, w1, w2], _ => exact ⟨w0, w1, w2, rfl⟩
  have hw := fun d (hd : d ∈ tables_1) => atoms_spec (ws := Jvm.Cond.code x code maxLocals ret :: tables_1) hat d (List.mem_cons_of_mem _ hd)
  have hfit : Fit s := fun {y c} hc i hi => by
    obtain ⟨ha, rfl⟩ := Array.getElem?_eq_some_iff.mp hc
    have q := List.all_eq_true.mp ((Array.all_eq_true_iff_forall_mem.mp hF) _ (Array.getElem_mem ha)) i (List.mem_range.mpr hi)
    simpa [Array.getElem?_eq_getElem hi] using q
  obtain ⟨hsets, hown0⟩ := atoms_of _ (rest_1_c_eq ▸ (show rest_1_c.before _ s = true from hrest))
  have hW : W0 s _ := ⟨hw, hsets⟩
  obtain ⟨i0, ei0⟩ := isL_v g3
  obtain rfl : w0 = (.long i0) := Option.some.inj ei0
  obtain ⟨i1, ei1⟩ := is_v g5
  obtain rfl : w1 = (.int i1) := Option.some.inj ei1
  obtain ⟨i2, ei2⟩ := is_v g6
  obtain rfl : w2 = (.int i2) := Option.some.inj ei2
  obtain ⟨dec, fb, hSD⟩ := o_stD hfit hW
  obtain ⟨iso, utf, hSC⟩ := o_stC hW
  obtain ⟨zz, zm, hSZ⟩ := o_stZ hfit hW
  obtain ⟨mc, mk, mr, hm1, hm2, hm3⟩ := (show MirrorMade s "java/math/BigInteger" from hcalls.1)
  have hMR : Mr s "java/math/BigInteger" mr := ⟨mc, mk, hm1, hm2, hm3.1⟩
  obtain ⟨n, o, h1, h2, h3, v, L, os, rfl, hQ, -, -, N, -, hq, hq2⟩ := (rm0 (l := l) hW s.heap i0 i1 i2 dec fb iso utf zz zm mr hSD hSC hSZ hMR : Con l s o_EL true x code maxLocals ret room_1 tables_1 _ _ _ _) p e ha hc hk s m _ below hf ((Spec.applies_iff_loose hf).mp happ).1 ⟨rfl, State.Warmed39.refl s, rfl, (fun _ q => nomatch q), ⟨Nat.le_refl _, fun _ _ q => q⟩, (fun _ q => nomatch q)⟩ trivial
  obtain ⟨rfl, -⟩ := hQ
  refine ⟨n, _, h1, h2, h3, hpost _ _ _ _ _ _ ⟨Cond.after_iff.mpr rfl, Cond.after_iff.mpr (eq_i res_at (Term.int_eval (1)) rfl), trivial⟩ ⟨hq.1, hq.2.1, hq.2.2.1, (hq.2.2.2.sift fun y hy => Or.inr (N y hy)).mono (by decide) (by decide)⟩⟩
theorem main_1_1 : Claimed_1_1 := comes_1 fun _ _ _ _ _ _ h hF => ⟨h.1, hF⟩
theorem main_1_2 : Claimed_1_2 := comes_1 fun _ _ _ _ _ _ h hF => ⟨h.2.1, hF⟩
end Jvm.Pilot.@@N@@
namespace Jvm.Pilot.@@N@@
open Jvm Jvm.ClassFile Sem Op Lib Jvm.Free Jvm.Stand Jvm.Pilot.@@N@@.Jvm.D
/-! MADE BY PROGRAM (witnessworld.py) out of the Statement's table words and the real class files: 34 classes; the members and pool entries that the words name. The judged class is class 1, her method 1. -/
namespace start1
open Jvm.ClassFile
def u (s : String) : CpInfo := .utf8 (stringToUtf16 s)
/-- a pool by its gaps: so many unusable entries, then the entry; so many at the end -/
def gap : Nat → List CpInfo → List CpInfo
  | 0, r => r
  | n + 1, r => .unusable :: gap n r
def poolList (es : List (Nat × CpInfo)) (last : Nat) : List CpInfo := es.foldr (fun e r => gap e.1 (e.2 :: r)) (gap last [])
def pool (es : List (Nat × CpInfo)) (last : Nat) : Array CpInfo := ⟨poolList es last⟩
def fileOf (pool : Array CpInfo) (this : Nat) (attrs : Array Attribute := #[]) (ms : Array MethodInfo := #[]) (fl : Nat := 33) (sup : Nat := 0) (ifs : Array Nat := #[]) (fds : Array FieldInfo := #[]) : ClassFile where
  minorVersion := 0
  majorVersion := 65
  constantPool := pool
  accessFlags := fl
  thisClass := this
  superClass := sup
  interfaces := ifs
  fields := fds
  methods := ms
  attributes := attrs
def plain (name : String) (sup : Option ClassId) : Class where
  name := name
  kind := .ordinary
  loader := none
  accessFlags := 33
  super := sup
  interfaces := #[]
  cf := none
  fields := #[]
  methods := #[]
  instanceTypes := #[]
  staticTypes := #[]
  resolved := #[]
  callSites := []
  init := .initialized
  statics := none
  mirror := none

def pool0 : Array CpInfo := pool [(5, u "<init>"), (0, u "()V"), (1, .class_ 10), (1, u "java/lang/Object"), (0, u "getClass"), (0, u "()Ljava/lang/Class;"), (83, u "clone"), (0, u "()Ljava/lang/Object;")] 26

def k0c0 : Code := { maxStack := 0, maxLocals := 1, code := object_method_1_code, exceptionTable := #[], attributes := #[] }
def k0m0 : Method := { name := "<init>", desc := "()V", sig := { parameters := [], returnType := none }, accessFlags := 1, code := some k0c0 }
def k0m1 : Method := { name := "getClass", desc := "()Ljava/lang/Class;", sig := { parameters := [], returnType := some (.object "java/lang/Class") }, accessFlags := 273, code := none }
def k0m2 : Method := { name := "clone", desc := "()Ljava/lang/Object;", sig := { parameters := [], returnType := some (.object "java/lang/Object") }, accessFlags := 260, code := none }
/-- java/lang/Object -/
def k0 : Class := { plain "java/lang/Object" none with
  accessFlags := 33
  interfaces := #[]
  cf := some (fileOf pool0 8 #[] #[{ accessFlags := 1, nameIndex := 5, descriptorIndex := 6, attributes := #[] }, { accessFlags := 273, nameIndex := 11, descriptorIndex := 12, attributes := #[] }, { accessFlags := 260, nameIndex := 96, descriptorIndex := 97, attributes := #[] }] 33 0 #[] #[])
  fields := #[]
  methods := #[k0m0, k0m1, k0m2]
  instanceTypes := #[]
  staticTypes := #[]
  resolved := Array.replicate 124 none
  statics := none }

def pool1 : Array CpInfo := pool [(2, .class_ 4), (1, u "java/lang/Object"), (0, u "<init>"), (0, u "()V"), (0, .integer 2147483647), (0, .methodref 9 10), (0, .class_ 11), (0, .nameAndType 12 13), (0, u "com/example/atomicity/atomicity/cdc/DecimalReaderReadPinLaw"), (0, u "byteAt"), (0, u "(JII)I"), (0, .methodref 9 15), (0, .nameAndType 16 17), (0, u "group"), (0, u "([CIIIII)V"), (0, .class_ 19), (0, u "java/lang/String"), (0, .methodref 18 21), (0, .nameAndType 5 22), (0, u "([C)V"), (0, .class_ 24), (0, u "com/example/atomicity/atomicity/cdc/DecimalReader"), (0, .methodref 23 26), (0, .nameAndType 5 27), (0, u "(I)V"), (0, .methodref 23 29), (0, .nameAndType 30 31), (0, u "read"), (0, u "(Ljava/lang/String;)Ljava/math/BigDecimal;"), (0, .methodref 33 34), (0, .class_ 35), (0, .nameAndType 36 37), (0, u "java/math/BigDecimal"), (0, u "scale"), (0, u "()I"), (0, .methodref 33 39), (0, .nameAndType 40 41), (0, u "unscaledValue"), (0, u "()Ljava/math/BigInteger;"), (0, .methodref 43 44), (0, .class_ 45), (0, .nameAndType 46 37), (0, u "java/math/BigInteger"), (0, u "bitLength"), (0, .methodref 43 48), (0, .nameAndType 49 50), (0, u "longValue"), (0, u "()J"), (0, .long 255), (1, .methodref 9 54), (0, .nameAndType 55 56), (0, u "sym"), (0, u "(I)C"), (2, u "law"), (0, u "(JII)Z")] 5

def k1m0 : Method := { name := "<init>", desc := "()V", sig := { parameters := [], returnType := none }, accessFlags := 1, code := none }
def k1c1 : Code := { maxStack := 7, maxLocals := 18, code := code, exceptionTable := #[], attributes := #[] }
def k1m1 : Method := { name := "law", desc := "(JII)Z", sig := { parameters := [.long, .int, .int], returnType := some .boolean }, accessFlags := 9, code := some k1c1 }
def k1c2 : Code := { maxStack := 5, maxLocals := 4, code := method_3_code, exceptionTable := #[], attributes := #[] }
def k1m2 : Method := { name := "byteAt", desc := "(JII)I", sig := { parameters := [.long, .int, .int], returnType := some .int }, accessFlags := 10, code := some k1c2 }
def k1c3 : Code := { maxStack := 4, maxLocals := 7, code := method_4_code, exceptionTable := #[], attributes := #[] }
def k1m3 : Method := { name := "group", desc := "([CIIIII)V", sig := { parameters := [(.array .char), .int, .int, .int, .int, .int], returnType := none }, accessFlags := 10, code := some k1c3 }
def k1c4 : Code := { maxStack := 3, maxLocals := 1, code := method_5_code, exceptionTable := #[], attributes := #[] }
def k1m4 : Method := { name := "sym", desc := "(I)C", sig := { parameters := [.int], returnType := some .char }, accessFlags := 10, code := some k1c4 }
/-- com/example/atomicity/atomicity/cdc/DecimalReaderReadPinLaw -/
def k1 : Class := { plain "com/example/atomicity/atomicity/cdc/DecimalReaderReadPinLaw" (some 0) with
  accessFlags := 49
  interfaces := #[]
  cf := some (fileOf pool1 9 #[] #[{ accessFlags := 1, nameIndex := 5, descriptorIndex := 6, attributes := #[] }, { accessFlags := 9, nameIndex := 59, descriptorIndex := 60, attributes := #[] }, { accessFlags := 10, nameIndex := 12, descriptorIndex := 13, attributes := #[] }, { accessFlags := 10, nameIndex := 16, descriptorIndex := 17, attributes := #[] }, { accessFlags := 10, nameIndex := 55, descriptorIndex := 56, attributes := #[] }] 49 2 #[] #[])
  fields := #[]
  methods := #[k1m0, k1m1, k1m2, k1m3, k1m4]
  instanceTypes := #[]
  staticTypes := #[]
  resolved := Array.replicate 66 none
  statics := none }

def pool2 : Array CpInfo := pool [(1, .class_ 2), (0, u "java/io/Serializable"), (0, .class_ 4), (0, u "java/lang/Object")] 2

/-- java/io/Serializable -/
def k2 : Class := { plain "java/io/Serializable" (some 0) with
  accessFlags := 1537
  interfaces := #[]
  cf := some (fileOf pool2 1 #[] #[] 1537 3 #[] #[])
  fields := #[]
  methods := #[]
  instanceTypes := #[]
  staticTypes := #[]
  resolved := Array.replicate 7 none
  statics := none }

def pool3 : Array CpInfo := pool [(1, .class_ 2), (0, u "java/lang/Comparable"), (0, .class_ 4), (0, u "java/lang/Object")] 7

/-- java/lang/Comparable -/
def k3 : Class := { plain "java/lang/Comparable" (some 0) with
  accessFlags := 1537
  interfaces := #[]
  cf := some (fileOf pool3 1 #[] #[] 1537 3 #[] #[])
  fields := #[]
  methods := #[]
  instanceTypes := #[]
  staticTypes := #[]
  resolved := Array.replicate 12 none
  statics := none }

def pool4 : Array CpInfo := pool [(2, .class_ 4), (1, u "java/lang/CharSequence"), (42, .class_ 48), (0, u "java/lang/CharSequence$1CodePointIterator"), (10, .class_ 60), (0, u "java/lang/CharSequence$1CharIterator"), (5, .class_ 67), (0, u "java/lang/Object")] 63

/-- java/lang/CharSequence -/
def k4 : Class := { plain "java/lang/CharSequence" (some 0) with
  accessFlags := 1537
  interfaces := #[]
  cf := some (fileOf pool4 2 #[.nestMembers #[47, 59]] #[] 1537 66 #[] #[])
  fields := #[]
  methods := #[]
  instanceTypes := #[]
  staticTypes := #[]
  resolved := Array.replicate 131 none
  statics := none }

def pool5 : Array CpInfo := pool [(1, .class_ 2), (0, u "java/lang/constant/Constable"), (0, .class_ 4), (0, u "java/lang/Object")] 6

/-- java/lang/constant/Constable -/
def k5 : Class := { plain "java/lang/constant/Constable" (some 0) with
  accessFlags := 1537
  interfaces := #[]
  cf := some (fileOf pool5 1 #[] #[] 1537 3 #[] #[])
  fields := #[]
  methods := #[]
  instanceTypes := #[]
  staticTypes := #[]
  resolved := Array.replicate 11 none
  statics := none }

def pool6 : Array CpInfo := pool [(1, .class_ 2), (0, u "java/lang/constant/ConstantDesc"), (0, .class_ 4), (0, u "java/lang/Object")] 32

/-- java/lang/constant/ConstantDesc -/
def k6 : Class := { plain "java/lang/constant/ConstantDesc" (some 0) with
  accessFlags := 1537
  interfaces := #[]
  cf := some (fileOf pool6 1 #[] #[] 1537 3 #[] #[])
  fields := #[]
  methods := #[]
  instanceTypes := #[]
  staticTypes := #[]
  resolved := Array.replicate 37 none
  statics := none }

def pool7 : Array CpInfo := pool [(1, .methodref 2 3), (0, .class_ 4), (0, .nameAndType 5 6), (0, u "java/lang/Object"), (0, u "<init>"), (0, u "()V"), (2, .fieldref 10 11), (0, .class_ 12), (0, .nameAndType 13 14), (0, u "java/lang/String"), (0, u "value"), (0, u "[B"), (0, .fieldref 10 16), (0, .nameAndType 17 18), (0, u "coder"), (0, u "B"), (2, u "hash"), (0, u "I"), (2, u "hashIsZero"), (0, u "Z"), (0, .methodref 10 28), (0, .nameAndType 5 29), (0, u "([CIILjava/lang/Void;)V"), (8, .fieldref 10 39), (0, .nameAndType 40 26), (0, u "COMPACT_STRINGS"), (1, .class_ 44), (1, u "java/lang/StringUTF16"), (0, u "compress"), (1, .methodref 42 48), (0, .nameAndType 49 50), (0, u "coderFromArrayLen"), (0, u "([BI)B"), (35, .fieldref 87 88), (0, .class_ 89), (0, .nameAndType 90 91), (0, u "sun/nio/cs/UTF_8"), (0, u "INSTANCE"), (0, u "Lsun/nio/cs/UTF_8;"), (24, .fieldref 117 118), (0, .class_ 119), (0, .nameAndType 90 120), (0, u "sun/nio/cs/ISO_8859_1"), (0, u "Lsun/nio/cs/ISO_8859_1;"), (56, .methodref 42 178), (0, .nameAndType 45 179), (0, u "([CII)[B"), (75, u "(B[BZ)[B"), (0, .methodref 10 257), (0, .nameAndType 258 259), (0, u "encode8859_1"), (0, u "(B[B)[B"), (19, .methodref 280 281), (0, .class_ 14), (0, .nameAndType 282 283), (0, u "clone"), (0, u "()Ljava/lang/Object;"), (33, u "encode"), (17, .methodref 10 336), (0, .nameAndType 17 337), (0, u "()B"), (13, .methodref 10 352), (0, .nameAndType 258 255), (179, u "getBytes"), (2, .methodref 10 536), (0, .nameAndType 317 537), (0, u "(Ljava/nio/charset/Charset;B[B)[B"), (37, .class_ 576), (0, u "java/lang/CharSequence"), (22, u "CASE_INSENSITIVE_ORDER"), (0, u "Ljava/util/Comparator;"), (409, u "([C)V"), (90, u "serialPersistentFields"), (0, u "[Ljava/io/ObjectStreamField;"), (0, .class_ 1104), (0, u "java/lang/String$CaseInsensitiveComparator"), (1, .class_ 1107), (0, u "java/io/Serializable"), (0, .class_ 1109), (0, u "java/lang/Comparable"), (0, .class_ 1111), (0, u "java/lang/constant/Constable"), (0, .class_ 1113), (0, u "java/lang/constant/ConstantDesc"), (2, u "serialVersionUID"), (0, u "J"), (3, u "REPL"), (0, u "C"), (2, u "LATIN1"), (1, u "UTF16"), (117, u "(Ljava/nio/charset/Charset;)[B")] 205

def k7m0 : Method := { name := "<init>", desc := "()V", sig := { parameters := [], returnType := none }, accessFlags := 1, code := none }
def k7c1 : Code := { maxStack := 5, maxLocals := 2, code := jdk_42_method_3_code, exceptionTable := #[], attributes := #[] }
def k7m1 : Method := { name := "<init>", desc := "([C)V", sig := { parameters := [(.array .char)], returnType := none }, accessFlags := 1, code := some k7c1 }
def k7c2 : Code := { maxStack := 4, maxLocals := 3, code := jdk_42_method_18_code, exceptionTable := #[], attributes := #[] }
def k7m2 : Method := { name := "encode", desc := "(Ljava/nio/charset/Charset;B[B)[B", sig := { parameters := [(.object "java/nio/charset/Charset"), .byte, (.array .byte)], returnType := some (.array .byte) }, accessFlags := 10, code := some k7c2 }
def k7c3 : Code := { maxStack := 3, maxLocals := 2, code := jdk_42_method_26_code, exceptionTable := #[], attributes := #[] }
def k7m3 : Method := { name := "encode8859_1", desc := "(B[B)[B", sig := { parameters := [.byte, (.array .byte)], returnType := some (.array .byte) }, accessFlags := 10, code := some k7c3 }
def k7c4 : Code := { maxStack := 5, maxLocals := 10, code := jdk_42_method_27_code, exceptionTable := #[], attributes := #[] }
def k7m4 : Method := { name := "encode8859_1", desc := "(B[BZ)[B", sig := { parameters := [.byte, (.array .byte), .boolean], returnType := some (.array .byte) }, accessFlags := 10, code := some k7c4 }
def k7c5 : Code := { maxStack := 3, maxLocals := 2, code := jdk_42_method_64_code, exceptionTable := #[], attributes := #[] }
def k7m5 : Method := { name := "getBytes", desc := "(Ljava/nio/charset/Charset;)[B", sig := { parameters := [(.object "java/nio/charset/Charset")], returnType := some (.array .byte) }, accessFlags := 1, code := some k7c5 }
def k7c6 : Code := { maxStack := 4, maxLocals := 6, code := jdk_42_method_149_code, exceptionTable := #[], attributes := #[] }
def k7m6 : Method := { name := "<init>", desc := "([CIILjava/lang/Void;)V", sig := { parameters := [(.array .char), .int, .int, (.object "java/lang/Void")], returnType := none }, accessFlags := 2, code := some k7c6 }
def k7c7 : Code := { maxStack := 1, maxLocals := 1, code := jdk_42_method_152_code, exceptionTable := #[], attributes := #[] }
def k7m7 : Method := { name := "coder", desc := "()B", sig := { parameters := [], returnType := some .byte }, accessFlags := 0, code := some k7c7 }
/-- java/lang/String -/
def k7 : Class := { plain "java/lang/String" (some 0) with
  accessFlags := 49
  interfaces := #[2, 3, 4, 5, 6]
  cf := some (fileOf pool7 10 #[.nestMembers #[1103]] #[{ accessFlags := 1, nameIndex := 5, descriptorIndex := 6, attributes := #[] }, { accessFlags := 1, nameIndex := 5, descriptorIndex := 1010, attributes := #[] }, { accessFlags := 10, nameIndex := 317, descriptorIndex := 537, attributes := #[] }, { accessFlags := 10, nameIndex := 258, descriptorIndex := 259, attributes := #[] }, { accessFlags := 10, nameIndex := 258, descriptorIndex := 255, attributes := #[] }, { accessFlags := 1, nameIndex := 532, descriptorIndex := 1245, attributes := #[] }, { accessFlags := 2, nameIndex := 5, descriptorIndex := 29, attributes := #[] }, { accessFlags := 0, nameIndex := 17, descriptorIndex := 337, attributes := #[] }] 49 2 #[1106, 1108, 575, 1110, 1112] #[{ accessFlags := 18, nameIndex := 13, descriptorIndex := 14, attributes := #[] }, { accessFlags := 18, nameIndex := 17, descriptorIndex := 18, attributes := #[] }, { accessFlags := 2, nameIndex := 21, descriptorIndex := 22, attributes := #[] }, { accessFlags := 2, nameIndex := 25, descriptorIndex := 26, attributes := #[] }, { accessFlags := 26, nameIndex := 1116, descriptorIndex := 1117, attributes := #[] }, { accessFlags := 24, nameIndex := 40, descriptorIndex := 26, attributes := #[] }, { accessFlags := 26, nameIndex := 1101, descriptorIndex := 1102, attributes := #[] }, { accessFlags := 26, nameIndex := 1121, descriptorIndex := 1122, attributes := #[] }, { accessFlags := 25, nameIndex := 599, descriptorIndex := 600, attributes := #[] }, { accessFlags := 24, nameIndex := 1125, descriptorIndex := 18, attributes := #[] }, { accessFlags := 24, nameIndex := 1127, descriptorIndex := 18, attributes := #[] }])
  fields := #[{ name := "value", type := (.array .byte), accessFlags := 18, slot := 0, constantValue := 0 }, { name := "coder", type := .byte, accessFlags := 18, slot := 1, constantValue := 0 }, { name := "hash", type := .int, accessFlags := 2, slot := 2, constantValue := 0 }, { name := "hashIsZero", type := .boolean, accessFlags := 2, slot := 3, constantValue := 0 }, { name := "serialVersionUID", type := .long, accessFlags := 26, slot := 0, constantValue := 0 }, { name := "COMPACT_STRINGS", type := .boolean, accessFlags := 24, slot := 1, constantValue := 0 }, { name := "serialPersistentFields", type := (.array (.object "java/io/ObjectStreamField")), accessFlags := 26, slot := 2, constantValue := 0 }, { name := "REPL", type := .char, accessFlags := 26, slot := 3, constantValue := 0 }, { name := "CASE_INSENSITIVE_ORDER", type := (.object "java/util/Comparator"), accessFlags := 25, slot := 4, constantValue := 0 }, { name := "LATIN1", type := .byte, accessFlags := 24, slot := 5, constantValue := 0 }, { name := "UTF16", type := .byte, accessFlags := 24, slot := 6, constantValue := 0 }]
  methods := #[k7m0, k7m1, k7m2, k7m3, k7m4, k7m5, k7m6, k7m7]
  instanceTypes := #[(.array .byte), .byte, .int, .boolean]
  staticTypes := #[.long, .boolean, (.array (.object "java/io/ObjectStreamField")), .char, (.object "java/util/Comparator"), .byte, .byte]
  resolved := Array.replicate 1451 none
  statics := some 0 }

def pool8 : Array CpInfo := pool [(6, .class_ 8), (1, u "java/lang/Object"), (0, u "<init>"), (0, u "()V"), (1, .class_ 14), (1, u "java/lang/StringUTF16"), (31, u "$assertionsDisabled"), (0, u "Z"), (13, u "HI_BYTE_SHIFT"), (0, u "I"), (2, u "LO_BYTE_SHIFT"), (49, .methodref 12 116), (0, .nameAndType 117 118), (0, u "compress"), (0, u "([CI[BII)I"), (3, u "([CII)[B"), (138, u "coderFromArrayLen"), (0, u "([BI)B"), (106, .class_ 371), (1, u "java/lang/StringUTF16$LinesSpliterator"), (58, u "MAX_LENGTH"), (196, .class_ 628), (0, u "java/lang/StringUTF16$CodePointsSpliterator"), (0, .class_ 630), (0, u "java/lang/StringUTF16$CharsSpliterator")] 4

def k8m0 : Method := { name := "<init>", desc := "()V", sig := { parameters := [], returnType := none }, accessFlags := 0, code := none }
def k8c1 : Code := { maxStack := 2, maxLocals := 2, code := jdk_52_method_15_code, exceptionTable := #[], attributes := #[] }
def k8m1 : Method := { name := "coderFromArrayLen", desc := "([BI)B", sig := { parameters := [(.array .byte), .int], returnType := some .byte }, accessFlags := 8, code := some k8c1 }
def k8c2 : Code := { maxStack := 5, maxLocals := 6, code := jdk_52_method_16_code, exceptionTable := #[], attributes := #[] }
def k8m2 : Method := { name := "compress", desc := "([CII)[B", sig := { parameters := [(.array .char), .int, .int], returnType := some (.array .byte) }, accessFlags := 9, code := some k8c2 }
def k8c3 : Code := { maxStack := 3, maxLocals := 7, code := jdk_52_method_21_code, exceptionTable := #[], attributes := #[] }
def k8m3 : Method := { name := "compress", desc := "([CI[BII)I", sig := { parameters := [(.array .char), .int, (.array .byte), .int, .int], returnType := some .int }, accessFlags := 9, code := some k8c3 }
/-- java/lang/StringUTF16 -/
def k8 : Class := { plain "java/lang/StringUTF16" (some 0) with
  accessFlags := 48
  interfaces := #[]
  cf := some (fileOf pool8 12 #[.nestMembers #[627, 629, 369]] #[{ accessFlags := 0, nameIndex := 9, descriptorIndex := 10, attributes := #[] }, { accessFlags := 8, nameIndex := 261, descriptorIndex := 262, attributes := #[] }, { accessFlags := 9, nameIndex := 117, descriptorIndex := 122, attributes := #[] }, { accessFlags := 9, nameIndex := 117, descriptorIndex := 118, attributes := #[] }] 48 6 #[] #[{ accessFlags := 26, nameIndex := 61, descriptorIndex := 62, attributes := #[] }, { accessFlags := 26, nameIndex := 65, descriptorIndex := 62, attributes := #[] }, { accessFlags := 24, nameIndex := 430, descriptorIndex := 62, attributes := #[] }, { accessFlags := 4120, nameIndex := 46, descriptorIndex := 47, attributes := #[] }])
  fields := #[{ name := "HI_BYTE_SHIFT", type := .int, accessFlags := 26, slot := 0, constantValue := 0 }, { name := "LO_BYTE_SHIFT", type := .int, accessFlags := 26, slot := 1, constantValue := 0 }, { name := "MAX_LENGTH", type := .int, accessFlags := 24, slot := 2, constantValue := 0 }, { name := "$assertionsDisabled", type := .boolean, accessFlags := 4120, slot := 3, constantValue := 0 }]
  methods := #[k8m0, k8m1, k8m2, k8m3]
  instanceTypes := #[]
  staticTypes := #[.int, .int, .int, .boolean]
  resolved := Array.replicate 635 none
  statics := none }

def pool9 : Array CpInfo := pool [(1, .class_ 2), (0, u "com/example/atomicity/atomicity/cdc/ValueReader"), (0, .class_ 4), (0, u "java/lang/Object")] 9

/-- com/example/atomicity/atomicity/cdc/ValueReader -/
def k9 : Class := { plain "com/example/atomicity/atomicity/cdc/ValueReader" (some 0) with
  accessFlags := 1537
  interfaces := #[]
  cf := some (fileOf pool9 1 #[] #[] 1537 3 #[] #[])
  fields := #[]
  methods := #[]
  instanceTypes := #[]
  staticTypes := #[]
  resolved := Array.replicate 14 none
  statics := none }

def pool10 : Array CpInfo := pool [(1, .methodref 2 3), (0, .class_ 4), (0, .nameAndType 5 6), (0, u "java/lang/Object"), (0, u "<init>"), (0, u "()V"), (0, .fieldref 8 9), (0, .class_ 10), (0, .nameAndType 11 12), (0, u "com/example/atomicity/atomicity/cdc/DecimalReader"), (0, u "scale"), (0, u "I"), (0, .string 14), (0, u "text"), (0, .methodref 16 17), (0, .class_ 18), (0, .nameAndType 19 20), (0, u "java/util/Objects"), (0, u "requireNonNull"), (0, u "(Ljava/lang/Object;Ljava/lang/String;)Ljava/lang/Object;"), (0, .methodref 22 23), (0, .class_ 24), (0, .nameAndType 25 26), (0, u "java/util/Base64"), (0, u "getDecoder"), (0, u "()Ljava/util/Base64$Decoder;"), (0, .methodref 28 29), (0, .class_ 30), (0, .nameAndType 31 32), (0, u "java/util/Base64$Decoder"), (0, u "decode"), (0, u "(Ljava/lang/String;)[B"), (6, .class_ 40), (0, u "java/math/BigDecimal"), (0, .class_ 42), (0, u "java/math/BigInteger"), (0, .methodref 41 44), (0, .nameAndType 5 45), (0, u "([B)V"), (0, .methodref 39 47), (0, .nameAndType 5 48), (0, u "(Ljava/math/BigInteger;I)V"), (9, u "read"), (0, u "(Ljava/lang/String;)Ljava/math/BigDecimal;"), (0, .class_ 61), (0, u "com/example/atomicity/atomicity/cdc/ValueReader"), (0, u "(I)V")] 27

def k10c0 : Code := { maxStack := 2, maxLocals := 2, code := prog_3_method_1_code, exceptionTable := #[], attributes := #[] }
def k10m0 : Method := { name := "<init>", desc := "(I)V", sig := { parameters := [.int], returnType := none }, accessFlags := 1, code := some k10c0 }
def k10c1 : Code := { maxStack := 5, maxLocals := 4, code := prog_3_method_2_code, exceptionTable := #[{ startPc := 7, endPc := 15, handlerPc := 18, catchType := 33 }], attributes := #[] }
def k10m1 : Method := { name := "read", desc := "(Ljava/lang/String;)Ljava/math/BigDecimal;", sig := { parameters := [(.object "java/lang/String")], returnType := some (.object "java/math/BigDecimal") }, accessFlags := 1, code := some k10c1 }
/-- com/example/atomicity/atomicity/cdc/DecimalReader -/
def k10 : Class := { plain "com/example/atomicity/atomicity/cdc/DecimalReader" (some 0) with
  accessFlags := 49
  interfaces := #[9]
  cf := some (fileOf pool10 8 #[] #[{ accessFlags := 1, nameIndex := 5, descriptorIndex := 62, attributes := #[] }, { accessFlags := 1, nameIndex := 58, descriptorIndex := 59, attributes := #[] }] 49 2 #[60] #[{ accessFlags := 18, nameIndex := 11, descriptorIndex := 12, attributes := #[] }])
  fields := #[{ name := "scale", type := .int, accessFlags := 18, slot := 0, constantValue := 0 }]
  methods := #[k10m0, k10m1]
  instanceTypes := #[.int]
  staticTypes := #[]
  resolved := Array.replicate 90 none
  statics := none }

def pool11 : Array CpInfo := pool [(2, .class_ 4), (1, u "java/lang/Object"), (0, u "<init>"), (0, u "()V"), (35, .class_ 44), (1, u "java/util/Objects"), (0, u "requireNonNull"), (48, u "(Ljava/lang/Object;Ljava/lang/String;)Ljava/lang/Object;"), (11, .class_ 108), (1, u "jdk/internal/util/Preconditions"), (5, u "(IIILjava/util/function/BiFunction;)I"), (0, .methodref 106 116), (0, .nameAndType 117 114), (0, u "checkFromIndexSize"), (57, u "(III)I")] 8

def k11m0 : Method := { name := "<init>", desc := "()V", sig := { parameters := [], returnType := none }, accessFlags := 2, code := none }
def k11c1 : Code := { maxStack := 3, maxLocals := 2, code := jdk_31_method_11_code, exceptionTable := #[], attributes := #[] }
def k11m1 : Method := { name := "requireNonNull", desc := "(Ljava/lang/Object;Ljava/lang/String;)Ljava/lang/Object;", sig := { parameters := [(.object "java/lang/Object"), (.object "java/lang/String")], returnType := some (.object "java/lang/Object") }, accessFlags := 9, code := some k11c1 }
def k11c2 : Code := { maxStack := 4, maxLocals := 3, code := jdk_31_method_19_code, exceptionTable := #[], attributes := #[] }
def k11m2 : Method := { name := "checkFromIndexSize", desc := "(III)I", sig := { parameters := [.int, .int, .int], returnType := some .int }, accessFlags := 9, code := some k11c2 }
/-- java/util/Objects -/
def k11 : Class := { plain "java/util/Objects" (some 0) with
  accessFlags := 49
  interfaces := #[]
  cf := some (fileOf pool11 42 #[] #[{ accessFlags := 2, nameIndex := 5, descriptorIndex := 6, attributes := #[] }, { accessFlags := 9, nameIndex := 45, descriptorIndex := 94, attributes := #[] }, { accessFlags := 9, nameIndex := 117, descriptorIndex := 175, attributes := #[] }] 49 2 #[] #[])
  fields := #[]
  methods := #[k11m0, k11m1, k11m2]
  instanceTypes := #[]
  staticTypes := #[]
  resolved := Array.replicate 184 none
  statics := none }

def pool12 : Array CpInfo := pool [(2, .class_ 4), (1, u "java/lang/Object"), (0, u "<init>"), (0, u "()V"), (1, .class_ 10), (1, u "java/util/Base64$Encoder"), (0, u "RFC4648"), (14, .class_ 28), (1, u "java/util/Base64$Decoder"), (28, .fieldref 26 58), (0, .nameAndType 11 59), (0, u "Ljava/util/Base64$Decoder;"), (4, .class_ 65), (0, u "java/util/Base64"), (20, u "getDecoder"), (0, u "()Ljava/util/Base64$Decoder;"), (5, .class_ 94), (0, u "java/util/Base64$DecInputStream"), (0, .class_ 96), (0, u "java/util/Base64$EncOutputStream")] 5

def k12m0 : Method := { name := "<init>", desc := "()V", sig := { parameters := [], returnType := none }, accessFlags := 2, code := none }
def k12c1 : Code := { maxStack := 1, maxLocals := 0, code := jdk_2448_method_6_code, exceptionTable := #[], attributes := #[] }
def k12m1 : Method := { name := "getDecoder", desc := "()Ljava/util/Base64$Decoder;", sig := { parameters := [], returnType := some (.object "java/util/Base64$Decoder") }, accessFlags := 9, code := some k12c1 }
/-- java/util/Base64 -/
def k12 : Class := { plain "java/util/Base64" (some 0) with
  accessFlags := 33
  interfaces := #[]
  cf := some (fileOf pool12 64 #[.nestMembers #[93, 95, 26, 8]] #[{ accessFlags := 2, nameIndex := 5, descriptorIndex := 6, attributes := #[] }, { accessFlags := 9, nameIndex := 86, descriptorIndex := 87, attributes := #[] }] 33 2 #[] #[])
  fields := #[]
  methods := #[k12m0, k12m1]
  instanceTypes := #[]
  staticTypes := #[]
  resolved := Array.replicate 102 none
  statics := none }

def pool13 : Array CpInfo := pool [(2, .class_ 4), (1, u "java/lang/Object"), (2, .fieldref 8 9), (0, .class_ 10), (0, .nameAndType 11 12), (0, u "java/util/Base64$Decoder"), (0, u "isURL"), (0, u "Z"), (0, .fieldref 8 14), (0, .nameAndType 15 12), (0, u "isMIME"), (0, .methodref 8 17), (0, .nameAndType 18 19), (0, u "decodedOutLength"), (0, u "([BII)I"), (0, .methodref 8 21), (0, .nameAndType 22 23), (0, u "decode0"), (0, u "([BII[B)I"), (6, .fieldref 31 32), (0, .class_ 33), (0, .nameAndType 34 35), (0, u "sun/nio/cs/ISO_8859_1"), (0, u "INSTANCE"), (0, u "Lsun/nio/cs/ISO_8859_1;"), (0, .methodref 37 38), (0, .class_ 39), (0, .nameAndType 40 41), (0, u "java/lang/String"), (0, u "getBytes"), (0, u "(Ljava/nio/charset/Charset;)[B"), (0, .methodref 8 43), (0, .nameAndType 44 45), (0, u "decode"), (0, u "([B)[B"), (51, u "fromBase64URL"), (0, u "[I"), (0, .fieldref 8 100), (0, .nameAndType 101 98), (0, u "fromBase64"), (5, .long 3), (1, .long 4), (1, .methodref 8 112), (0, .nameAndType 113 114), (0, u "decodeBlock"), (0, u "([BII[BIZZ)I"), (45, u "RFC4648"), (0, u "Ljava/util/Base64$Decoder;"), (2, u "RFC4648_URLSAFE"), (2, u "RFC2045"), (11, u "(Ljava/lang/String;)[B"), (40, .class_ 221), (0, u "java/util/Base64")] 4

def k13c0 : Code := { maxStack := 5, maxLocals := 4, code := jdk_2450_method_2_code, exceptionTable := #[], attributes := #[] }
def k13m0 : Method := { name := "decode", desc := "([B)[B", sig := { parameters := [(.array .byte)], returnType := some (.array .byte) }, accessFlags := 1, code := some k13c0 }
def k13c1 : Code := { maxStack := 3, maxLocals := 2, code := jdk_2450_method_3_code, exceptionTable := #[], attributes := #[] }
def k13m1 : Method := { name := "decode", desc := "(Ljava/lang/String;)[B", sig := { parameters := [(.object "java/lang/String")], returnType := some (.array .byte) }, accessFlags := 1, code := some k13c1 }
def k13c2 : Code := { maxStack := 5, maxLocals := 9, code := jdk_2450_method_7_code, exceptionTable := #[], attributes := #[] }
def k13m2 : Method := { name := "decodedOutLength", desc := "([BII)I", sig := { parameters := [(.array .byte), .int, .int], returnType := some .int }, accessFlags := 2, code := some k13c2 }
def k13c3 : Code := { maxStack := 4, maxLocals := 16, code := jdk_2450_method_8_code, exceptionTable := #[], attributes := #[] }
def k13m3 : Method := { name := "decodeBlock", desc := "([BII[BIZZ)I", sig := { parameters := [(.array .byte), .int, .int, (.array .byte), .int, .boolean, .boolean], returnType := some .int }, accessFlags := 2, code := some k13c3 }
def k13c4 : Code := { maxStack := 8, maxLocals := 11, code := jdk_2450_method_9_code, exceptionTable := #[], attributes := #[] }
def k13m4 : Method := { name := "decode0", desc := "([BII[B)I", sig := { parameters := [(.array .byte), .int, .int, (.array .byte)], returnType := some .int }, accessFlags := 2, code := some k13c4 }
/-- java/util/Base64$Decoder -/
def k13 : Class := { plain "java/util/Base64$Decoder" (some 0) with
  accessFlags := 33
  interfaces := #[]
  cf := some (fileOf pool13 8 #[.nestHost 220] #[{ accessFlags := 1, nameIndex := 44, descriptorIndex := 45, attributes := #[] }, { accessFlags := 1, nameIndex := 44, descriptorIndex := 179, attributes := #[] }, { accessFlags := 2, nameIndex := 18, descriptorIndex := 19, attributes := #[] }, { accessFlags := 2, nameIndex := 113, descriptorIndex := 114, attributes := #[] }, { accessFlags := 2, nameIndex := 22, descriptorIndex := 23, attributes := #[] }] 33 2 #[] #[{ accessFlags := 18, nameIndex := 11, descriptorIndex := 12, attributes := #[] }, { accessFlags := 18, nameIndex := 15, descriptorIndex := 12, attributes := #[] }, { accessFlags := 26, nameIndex := 101, descriptorIndex := 98, attributes := #[] }, { accessFlags := 26, nameIndex := 97, descriptorIndex := 98, attributes := #[] }, { accessFlags := 24, nameIndex := 160, descriptorIndex := 161, attributes := #[] }, { accessFlags := 24, nameIndex := 164, descriptorIndex := 161, attributes := #[] }, { accessFlags := 24, nameIndex := 167, descriptorIndex := 161, attributes := #[] }])
  fields := #[{ name := "isURL", type := .boolean, accessFlags := 18, slot := 0, constantValue := 0 }, { name := "isMIME", type := .boolean, accessFlags := 18, slot := 1, constantValue := 0 }, { name := "fromBase64", type := (.array .int), accessFlags := 26, slot := 0, constantValue := 0 }, { name := "fromBase64URL", type := (.array .int), accessFlags := 26, slot := 1, constantValue := 0 }, { name := "RFC4648", type := (.object "java/util/Base64$Decoder"), accessFlags := 24, slot := 2, constantValue := 0 }, { name := "RFC4648_URLSAFE", type := (.object "java/util/Base64$Decoder"), accessFlags := 24, slot := 3, constantValue := 0 }, { name := "RFC2045", type := (.object "java/util/Base64$Decoder"), accessFlags := 24, slot := 4, constantValue := 0 }]
  methods := #[k13m0, k13m1, k13m2, k13m3, k13m4]
  instanceTypes := #[.boolean, .boolean]
  staticTypes := #[(.array .int), (.array .int), (.object "java/util/Base64$Decoder"), (.object "java/util/Base64$Decoder"), (.object "java/util/Base64$Decoder")]
  resolved := Array.replicate 226 none
  statics := some 1 }

def pool14 : Array CpInfo := pool [(18, .class_ 20), (1, u "java/nio/charset/Charset"), (0, u "cache1"), (0, u "[Ljava/lang/Object;"), (2, u "cache2"), (0, .class_ 27), (0, u "java/lang/Object"), (0, .class_ 29), (0, u "java/nio/charset/Charset$1"), (4, .class_ 36), (1, u "java/nio/charset/Charset$ThreadTrackHolder"), (21, .class_ 59), (0, u "java/nio/charset/Charset$2"), (11, .class_ 73), (1, u "java/nio/charset/Charset$ExtendedProviderHolder"), (22, u "standardProvider"), (0, u "Ljava/nio/charset/spi/CharsetProvider;"), (29, u "name"), (7, .class_ 136), (0, u "java/nio/charset/Charset$3"), (5, u "defaultCharset"), (0, u "Ljava/nio/charset/Charset;"), (14, u "zeroAliases"), (0, u "[Ljava/lang/String;"), (29, u "Ljava/lang/String;"), (2, u "aliases"), (2, u "aliasSet"), (0, u "Ljava/util/Set;"), (82, .class_ 280), (0, u "java/lang/Comparable"), (84, .class_ 366), (0, u "java/nio/charset/Charset$ExtendedProviderHolder$1")] 3

/-- java/nio/charset/Charset -/
def k14 : Class := { plain "java/nio/charset/Charset" (some 0) with
  accessFlags := 1057
  interfaces := #[3]
  cf := some (fileOf pool14 18 #[.nestMembers #[71, 365, 34, 135, 58, 28]] #[] 1057 26 #[279] #[{ accessFlags := 26, nameIndex := 96, descriptorIndex := 97, attributes := #[] }, { accessFlags := 26, nameIndex := 158, descriptorIndex := 159, attributes := #[] }, { accessFlags := 74, nameIndex := 21, descriptorIndex := 22, attributes := #[] }, { accessFlags := 74, nameIndex := 25, descriptorIndex := 22, attributes := #[] }, { accessFlags := 10, nameIndex := 142, descriptorIndex := 143, attributes := #[] }, { accessFlags := 18, nameIndex := 127, descriptorIndex := 189, attributes := #[] }, { accessFlags := 18, nameIndex := 192, descriptorIndex := 159, attributes := #[] }, { accessFlags := 2, nameIndex := 195, descriptorIndex := 196, attributes := #[] }])
  fields := #[{ name := "standardProvider", type := (.object "java/nio/charset/spi/CharsetProvider"), accessFlags := 26, slot := 0, constantValue := 0 }, { name := "zeroAliases", type := (.array (.object "java/lang/String")), accessFlags := 26, slot := 1, constantValue := 0 }, { name := "cache1", type := (.array (.object "java/lang/Object")), accessFlags := 74, slot := 2, constantValue := 0 }, { name := "cache2", type := (.array (.object "java/lang/Object")), accessFlags := 74, slot := 3, constantValue := 0 }, { name := "defaultCharset", type := (.object "java/nio/charset/Charset"), accessFlags := 10, slot := 4, constantValue := 0 }, { name := "name", type := (.object "java/lang/String"), accessFlags := 18, slot := 0, constantValue := 0 }, { name := "aliases", type := (.array (.object "java/lang/String")), accessFlags := 18, slot := 1, constantValue := 0 }, { name := "aliasSet", type := (.object "java/util/Set"), accessFlags := 2, slot := 2, constantValue := 0 }]
  methods := #[]
  instanceTypes := #[(.object "java/lang/String"), (.array (.object "java/lang/String")), (.object "java/util/Set")]
  staticTypes := #[(.object "java/nio/charset/spi/CharsetProvider"), (.array (.object "java/lang/String")), (.array (.object "java/lang/Object")), (.array (.object "java/lang/Object")), (.object "java/nio/charset/Charset")]
  resolved := Array.replicate 370 none
  statics := none }

def pool15 : Array CpInfo := pool [(1, .class_ 2), (0, u "sun/nio/cs/HistoricallyNamedCharset"), (0, .class_ 4), (0, u "java/lang/Object")] 4

/-- sun/nio/cs/HistoricallyNamedCharset -/
def k15 : Class := { plain "sun/nio/cs/HistoricallyNamedCharset" (some 0) with
  accessFlags := 1537
  interfaces := #[]
  cf := some (fileOf pool15 1 #[] #[] 1537 3 #[] #[])
  fields := #[]
  methods := #[]
  instanceTypes := #[]
  staticTypes := #[]
  resolved := Array.replicate 9 none
  statics := none }

def pool16 : Array CpInfo := pool [(10, .class_ 12), (1, u "java/nio/charset/Charset"), (0, u "<init>"), (5, .class_ 20), (0, u "sun/nio/cs/ISO_8859_1"), (0, .class_ 22), (0, u "sun/nio/cs/ISO_8859_1$Decoder"), (3, .class_ 27), (0, u "sun/nio/cs/ISO_8859_1$Encoder"), (3, u "()V"), (2, u "INSTANCE"), (0, u "Lsun/nio/cs/ISO_8859_1;"), (0, .class_ 37), (0, u "sun/nio/cs/HistoricallyNamedCharset")] 22

def k16m0 : Method := { name := "<init>", desc := "()V", sig := { parameters := [], returnType := none }, accessFlags := 1, code := none }
/-- sun/nio/cs/ISO_8859_1 -/
def k16 : Class := { plain "sun/nio/cs/ISO_8859_1" (some 14) with
  accessFlags := 33
  interfaces := #[15]
  cf := some (fileOf pool16 19 #[.nestMembers #[26, 21]] #[{ accessFlags := 1, nameIndex := 13, descriptorIndex := 31, attributes := #[] }] 33 10 #[36] #[{ accessFlags := 25, nameIndex := 34, descriptorIndex := 35, attributes := #[] }])
  fields := #[{ name := "INSTANCE", type := (.object "sun/nio/cs/ISO_8859_1"), accessFlags := 25, slot := 0, constantValue := 0 }]
  methods := #[k16m0]
  instanceTypes := #[(.object "java/lang/String"), (.array (.object "java/lang/String")), (.object "java/util/Set")]
  staticTypes := #[(.object "sun/nio/cs/ISO_8859_1")]
  resolved := Array.replicate 60 none
  statics := some 2 }

def pool17 : Array CpInfo := pool [(2, .class_ 4), (1, u "java/nio/charset/Charset"), (130, .class_ 136), (0, u "sun/nio/cs/Unicode"), (0, .class_ 138), (0, u "sun/nio/cs/HistoricallyNamedCharset")] 15

/-- sun/nio/cs/Unicode -/
def k17 : Class := { plain "sun/nio/cs/Unicode" (some 14) with
  accessFlags := 1056
  interfaces := #[15]
  cf := some (fileOf pool17 135 #[] #[] 1056 2 #[137] #[])
  fields := #[]
  methods := #[]
  instanceTypes := #[(.object "java/lang/String"), (.array (.object "java/lang/String")), (.object "java/util/Set")]
  staticTypes := #[]
  resolved := Array.replicate 154 none
  statics := none }

def pool18 : Array CpInfo := pool [(10, .class_ 12), (1, u "sun/nio/cs/Unicode"), (0, u "<init>"), (3, .class_ 18), (0, u "sun/nio/cs/UTF_8$Decoder"), (3, .class_ 23), (0, u "sun/nio/cs/UTF_8$Encoder"), (15, .class_ 40), (0, u "sun/nio/cs/UTF_8"), (2, u "()V"), (2, u "INSTANCE"), (0, u "Lsun/nio/cs/UTF_8;"), (8, u "JLA"), (0, u "Ljdk/internal/access/JavaLangAccess;")] 26

def k18m0 : Method := { name := "<init>", desc := "()V", sig := { parameters := [], returnType := none }, accessFlags := 1, code := none }
/-- sun/nio/cs/UTF_8 -/
def k18 : Class := { plain "sun/nio/cs/UTF_8" (some 17) with
  accessFlags := 49
  interfaces := #[]
  cf := some (fileOf pool18 39 #[.nestMembers #[22, 17]] #[{ accessFlags := 1, nameIndex := 13, descriptorIndex := 43, attributes := #[] }] 49 10 #[] #[{ accessFlags := 25, nameIndex := 46, descriptorIndex := 47, attributes := #[] }, { accessFlags := 26, nameIndex := 56, descriptorIndex := 57, attributes := #[] }])
  fields := #[{ name := "INSTANCE", type := (.object "sun/nio/cs/UTF_8"), accessFlags := 25, slot := 0, constantValue := 0 }, { name := "JLA", type := (.object "jdk/internal/access/JavaLangAccess"), accessFlags := 26, slot := 1, constantValue := 0 }]
  methods := #[k18m0]
  instanceTypes := #[(.object "java/lang/String"), (.array (.object "java/lang/String")), (.object "java/util/Set")]
  staticTypes := #[(.object "sun/nio/cs/UTF_8"), (.object "jdk/internal/access/JavaLangAccess")]
  resolved := Array.replicate 84 none
  statics := some 3 }

def pool19 : Array CpInfo := pool [(1, .class_ 2), (0, u "java/lang/Cloneable"), (0, .class_ 4), (0, u "java/lang/Object")] 2

/-- java/lang/Cloneable -/
def k19 : Class := { plain "java/lang/Cloneable" (some 0) with
  accessFlags := 1537
  interfaces := #[]
  cf := some (fileOf pool19 1 #[] #[] 1537 3 #[] #[])
  fields := #[]
  methods := #[]
  instanceTypes := #[]
  staticTypes := #[]
  resolved := Array.replicate 7 none
  statics := none }

def pool20 : Array CpInfo := pool [(1, .methodref 2 3), (0, .class_ 4), (0, .nameAndType 5 6), (0, u "java/lang/Object"), (0, u "<init>"), (0, u "()V"), (1, .class_ 10), (1, u "java/lang/Number"), (2, .class_ 14), (0, u "java/io/Serializable"), (0, u "serialVersionUID"), (0, u "J")] 20

def k20c0 : Code := { maxStack := 1, maxLocals := 1, code := jdk_18_method_1_code, exceptionTable := #[], attributes := #[] }
def k20m0 : Method := { name := "<init>", desc := "()V", sig := { parameters := [], returnType := none }, accessFlags := 1, code := some k20c0 }
/-- java/lang/Number -/
def k20 : Class := { plain "java/lang/Number" (some 0) with
  accessFlags := 1057
  interfaces := #[2]
  cf := some (fileOf pool20 8 #[] #[{ accessFlags := 1, nameIndex := 5, descriptorIndex := 6, attributes := #[] }] 1057 2 #[13] #[{ accessFlags := 26, nameIndex := 15, descriptorIndex := 16, attributes := #[] }])
  fields := #[{ name := "serialVersionUID", type := .long, accessFlags := 26, slot := 0, constantValue := 0 }]
  methods := #[k20m0]
  instanceTypes := #[]
  staticTypes := #[.long]
  resolved := Array.replicate 37 none
  statics := none }

def pool21 : Array CpInfo := pool [(3, .class_ 4), (0, u "java/math/BigDecimal"), (4, .class_ 10), (0, u "java/math/BigInteger"), (0, .methodref 12 13), (0, .class_ 14), (0, .nameAndType 15 16), (0, u "java/lang/Number"), (0, u "<init>"), (0, u "()V"), (0, .fieldref 3 18), (0, .nameAndType 19 20), (0, u "scale"), (0, u "I"), (2, u "precision"), (0, .fieldref 3 25), (0, .nameAndType 26 27), (0, u "intCompact"), (0, u "J"), (0, .fieldref 3 29), (0, .nameAndType 30 31), (0, u "intVal"), (0, u "Ljava/math/BigInteger;"), (65, u "LONG_TEN_POWERS_TABLE"), (0, u "[J"), (22, .methodref 3 122), (0, .nameAndType 123 124), (0, u "compactValFor"), (0, u "(Ljava/math/BigInteger;)J"), (37, u "()I"), (24, u "ZERO"), (2, u "INFLATED_BIGINT"), (15, u "TWO"), (3, .methodref 211 212), (0, .class_ 213), (0, .nameAndType 214 215), (0, u "java/lang/Object"), (0, u "getClass"), (0, u "()Ljava/lang/Class;"), (13, .methodref 3 230), (0, .nameAndType 231 232), (0, u "toStrictBigInteger"), (0, u "(Ljava/math/BigInteger;)Ljava/math/BigInteger;"), (15, u "ZERO_THROUGH_TEN"), (0, u "[Ljava/math/BigDecimal;"), (2, u "ZERO_SCALED_BY"), (19, u "signum"), (29, .methodref 3 303), (0, .nameAndType 304 305), (0, u "inflated"), (0, u "()Ljava/math/BigInteger;"), (7, u "$assertionsDisabled"), (0, u "Z"), (163, u "ONE_TENTH"), (0, u "Ljava/math/BigDecimal;"), (5, u "TEN"), (14, .class_ 502), (1, u "java/math/BigDecimal$1"), (1, u "[I"), (13, u "ONE_HALF"), (16, u "ONE"), (15, u "unscaledValue"), (27, u "(Ljava/math/BigInteger;I)V"), (56, .long 4294967295), (6, u "stringCache"), (0, u "Ljava/lang/String;"), (52, .class_ 699), (1, u "java/math/BigDecimal$LongOverflow"), (8, u "FLOAT_10_POW"), (0, u "[F"), (39, u "DOUBLE_10_POW"), (0, u "[D"), (19, .class_ 772), (1, u "java/math/BigDecimal$StringBuilderHelper"), (35, u "BIG_TEN_POWERS_TABLE_MAX"), (2, u "BIG_TEN_POWERS_TABLE"), (0, u "[Ljava/math/BigInteger;"), (14, u "THRESHOLDS_TABLE"), (23, .class_ 853), (1, u "java/math/BigDecimal$UnsafeHolder"), (16, .fieldref 9 871), (0, .nameAndType 272 20), (6, .fieldref 9 879), (0, .nameAndType 880 504), (0, u "mag"), (187, u "LONGLONG_TEN_POWERS_TABLE"), (0, u "[[J"), (112, u "BIG_TEN_POWERS_TABLE_INITLEN"), (113, .class_ 1297), (0, u "java/lang/Comparable"), (0, u "L"), (0, u "D"), (1, u "P_F"), (1, u "Q_MIN_F"), (1, u "Q_MAX_F"), (1, u "P_D"), (1, u "Q_MIN_D"), (1, u "Q_MAX_D"), (1, u "INFLATED"), (0, u "MAX_COMPACT_DIGITS"), (1, u "serialVersionUID"), (2, u "HALF_LONG_MAX_VALUE"), (0, u "HALF_LONG_MIN_VALUE"), (0, u "ROUND_UP"), (6, u "ROUND_DOWN"), (1, u "ROUND_CEILING"), (1, u "ROUND_FLOOR"), (1, u "ROUND_HALF_UP"), (1, u "ROUND_HALF_DOWN"), (1, u "ROUND_HALF_EVEN"), (1, u "ROUND_UNNECESSARY"), (1, u "DIV_NUM_BASE")] 294

def k21c0 : Code := { maxStack := 3, maxLocals := 1, code := jdk_17_method_11_code, exceptionTable := #[], attributes := #[] }
def k21m0 : Method := { name := "toStrictBigInteger", desc := "(Ljava/math/BigInteger;)Ljava/math/BigInteger;", sig := { parameters := [(.object "java/math/BigInteger")], returnType := some (.object "java/math/BigInteger") }, accessFlags := 10, code := some k21c0 }
def k21c1 : Code := { maxStack := 3, maxLocals := 3, code := jdk_17_method_14_code, exceptionTable := #[], attributes := #[] }
def k21m1 : Method := { name := "<init>", desc := "(Ljava/math/BigInteger;I)V", sig := { parameters := [(.object "java/math/BigInteger"), .int], returnType := none }, accessFlags := 1, code := some k21c1 }
def k21c2 : Code := { maxStack := 1, maxLocals := 1, code := jdk_17_method_59_code, exceptionTable := #[], attributes := #[] }
def k21m2 : Method := { name := "scale", desc := "()I", sig := { parameters := [], returnType := some .int }, accessFlags := 1, code := some k21c2 }
def k21c3 : Code := { maxStack := 1, maxLocals := 1, code := jdk_17_method_61_code, exceptionTable := #[], attributes := #[] }
def k21m3 : Method := { name := "unscaledValue", desc := "()Ljava/math/BigInteger;", sig := { parameters := [], returnType := some (.object "java/math/BigInteger") }, accessFlags := 1, code := some k21c3 }
def k21c4 : Code := { maxStack := 2, maxLocals := 1, code := jdk_17_method_99_code, exceptionTable := #[], attributes := #[] }
def k21m4 : Method := { name := "inflated", desc := "()Ljava/math/BigInteger;", sig := { parameters := [], returnType := some (.object "java/math/BigInteger") }, accessFlags := 2, code := some k21c4 }
def k21c5 : Code := { maxStack := 5, maxLocals := 6, code := jdk_17_method_107_code, exceptionTable := #[], attributes := #[] }
def k21m5 : Method := { name := "compactValFor", desc := "(Ljava/math/BigInteger;)J", sig := { parameters := [(.object "java/math/BigInteger")], returnType := some .long }, accessFlags := 10, code := some k21c5 }
/-- java/math/BigDecimal -/
def k21 : Class := { plain "java/math/BigDecimal" (some 20) with
  accessFlags := 33
  interfaces := #[3]
  cf := some (fileOf pool21 3 #[.nestMembers #[500, 851, 770, 697]] #[{ accessFlags := 10, nameIndex := 231, descriptorIndex := 232, attributes := #[] }, { accessFlags := 1, nameIndex := 15, descriptorIndex := 579, attributes := #[] }, { accessFlags := 1, nameIndex := 19, descriptorIndex := 162, attributes := #[] }, { accessFlags := 1, nameIndex := 551, descriptorIndex := 305, attributes := #[] }, { accessFlags := 2, nameIndex := 304, descriptorIndex := 305, attributes := #[] }, { accessFlags := 10, nameIndex := 123, descriptorIndex := 124, attributes := #[] }] 33 12 #[1296] #[{ accessFlags := 26, nameIndex := 1298, descriptorIndex := 1299, attributes := #[] }, { accessFlags := 26, nameIndex := 1301, descriptorIndex := 20, attributes := #[] }, { accessFlags := 26, nameIndex := 1303, descriptorIndex := 20, attributes := #[] }, { accessFlags := 26, nameIndex := 1305, descriptorIndex := 20, attributes := #[] }, { accessFlags := 26, nameIndex := 1307, descriptorIndex := 20, attributes := #[] }, { accessFlags := 26, nameIndex := 1309, descriptorIndex := 20, attributes := #[] }, { accessFlags := 26, nameIndex := 1311, descriptorIndex := 20, attributes := #[] }, { accessFlags := 18, nameIndex := 30, descriptorIndex := 31, attributes := #[] }, { accessFlags := 18, nameIndex := 19, descriptorIndex := 20, attributes := #[] }, { accessFlags := 130, nameIndex := 23, descriptorIndex := 20, attributes := #[] }, { accessFlags := 130, nameIndex := 643, descriptorIndex := 644, attributes := #[] }, { accessFlags := 24, nameIndex := 1313, descriptorIndex := 27, attributes := #[] }, { accessFlags := 26, nameIndex := 190, descriptorIndex := 31, attributes := #[] }, { accessFlags := 146, nameIndex := 26, descriptorIndex := 27, attributes := #[] }, { accessFlags := 26, nameIndex := 1314, descriptorIndex := 20, attributes := #[] }, { accessFlags := 26, nameIndex := 1316, descriptorIndex := 27, attributes := #[] }, { accessFlags := 26, nameIndex := 248, descriptorIndex := 249, attributes := #[] }, { accessFlags := 26, nameIndex := 252, descriptorIndex := 249, attributes := #[] }, { accessFlags := 26, nameIndex := 1319, descriptorIndex := 27, attributes := #[] }, { accessFlags := 26, nameIndex := 1320, descriptorIndex := 27, attributes := #[] }, { accessFlags := 25, nameIndex := 187, descriptorIndex := 479, attributes := #[] }, { accessFlags := 25, nameIndex := 535, descriptorIndex := 479, attributes := #[] }, { accessFlags := 25, nameIndex := 206, descriptorIndex := 479, attributes := #[] }, { accessFlags := 25, nameIndex := 485, descriptorIndex := 479, attributes := #[] }, { accessFlags := 26, nameIndex := 478, descriptorIndex := 479, attributes := #[] }, { accessFlags := 26, nameIndex := 518, descriptorIndex := 479, attributes := #[] }, { accessFlags := 25, nameIndex := 1321, descriptorIndex := 20, attributes := #[] }, { accessFlags := 25, nameIndex := 1328, descriptorIndex := 20, attributes := #[] }, { accessFlags := 25, nameIndex := 1330, descriptorIndex := 20, attributes := #[] }, { accessFlags := 25, nameIndex := 1332, descriptorIndex := 20, attributes := #[] }, { accessFlags := 25, nameIndex := 1334, descriptorIndex := 20, attributes := #[] }, { accessFlags := 25, nameIndex := 1336, descriptorIndex := 20, attributes := #[] }, { accessFlags := 25, nameIndex := 1338, descriptorIndex := 20, attributes := #[] }, { accessFlags := 25, nameIndex := 1340, descriptorIndex := 20, attributes := #[] }, { accessFlags := 26, nameIndex := 749, descriptorIndex := 750, attributes := #[] }, { accessFlags := 26, nameIndex := 708, descriptorIndex := 709, attributes := #[] }, { accessFlags := 26, nameIndex := 97, descriptorIndex := 98, attributes := #[] }, { accessFlags := 74, nameIndex := 811, descriptorIndex := 812, attributes := #[] }, { accessFlags := 26, nameIndex := 1182, descriptorIndex := 20, attributes := #[] }, { accessFlags := 26, nameIndex := 808, descriptorIndex := 20, attributes := #[] }, { accessFlags := 26, nameIndex := 827, descriptorIndex := 98, attributes := #[] }, { accessFlags := 26, nameIndex := 1342, descriptorIndex := 27, attributes := #[] }, { accessFlags := 26, nameIndex := 1068, descriptorIndex := 1069, attributes := #[] }, { accessFlags := 4120, nameIndex := 313, descriptorIndex := 314, attributes := #[] }])
  fields := #[{ name := "L", type := .double, accessFlags := 26, slot := 0, constantValue := 0 }, { name := "P_F", type := .int, accessFlags := 26, slot := 1, constantValue := 0 }, { name := "Q_MIN_F", type := .int, accessFlags := 26, slot := 2, constantValue := 0 }, { name := "Q_MAX_F", type := .int, accessFlags := 26, slot := 3, constantValue := 0 }, { name := "P_D", type := .int, accessFlags := 26, slot := 4, constantValue := 0 }, { name := "Q_MIN_D", type := .int, accessFlags := 26, slot := 5, constantValue := 0 }, { name := "Q_MAX_D", type := .int, accessFlags := 26, slot := 6, constantValue := 0 }, { name := "intVal", type := (.object "java/math/BigInteger"), accessFlags := 18, slot := 0, constantValue := 0 }, { name := "scale", type := .int, accessFlags := 18, slot := 1, constantValue := 0 }, { name := "precision", type := .int, accessFlags := 130, slot := 2, constantValue := 0 }, { name := "stringCache", type := (.object "java/lang/String"), accessFlags := 130, slot := 3, constantValue := 0 }, { name := "INFLATED", type := .long, accessFlags := 24, slot := 7, constantValue := 0 }, { name := "INFLATED_BIGINT", type := (.object "java/math/BigInteger"), accessFlags := 26, slot := 8, constantValue := 0 }, { name := "intCompact", type := .long, accessFlags := 146, slot := 4, constantValue := 0 }, { name := "MAX_COMPACT_DIGITS", type := .int, accessFlags := 26, slot := 9, constantValue := 0 }, { name := "serialVersionUID", type := .long, accessFlags := 26, slot := 10, constantValue := 0 }, { name := "ZERO_THROUGH_TEN", type := (.array (.object "java/math/BigDecimal")), accessFlags := 26, slot := 11, constantValue := 0 }, { name := "ZERO_SCALED_BY", type := (.array (.object "java/math/BigDecimal")), accessFlags := 26, slot := 12, constantValue := 0 }, { name := "HALF_LONG_MAX_VALUE", type := .long, accessFlags := 26, slot := 13, constantValue := 0 }, { name := "HALF_LONG_MIN_VALUE", type := .long, accessFlags := 26, slot := 14, constantValue := 0 }, { name := "ZERO", type := (.object "java/math/BigDecimal"), accessFlags := 25, slot := 15, constantValue := 0 }, { name := "ONE", type := (.object "java/math/BigDecimal"), accessFlags := 25, slot := 16, constantValue := 0 }, { name := "TWO", type := (.object "java/math/BigDecimal"), accessFlags := 25, slot := 17, constantValue := 0 }, { name := "TEN", type := (.object "java/math/BigDecimal"), accessFlags := 25, slot := 18, constantValue := 0 }, { name := "ONE_TENTH", type := (.object "java/math/BigDecimal"), accessFlags := 26, slot := 19, constantValue := 0 }, { name := "ONE_HALF", type := (.object "java/math/BigDecimal"), accessFlags := 26, slot := 20, constantValue := 0 }, { name := "ROUND_UP", type := .int, accessFlags := 25, slot := 21, constantValue := 0 }, { name := "ROUND_DOWN", type := .int, accessFlags := 25, slot := 22, constantValue := 0 }, { name := "ROUND_CEILING", type := .int, accessFlags := 25, slot := 23, constantValue := 0 }, { name := "ROUND_FLOOR", type := .int, accessFlags := 25, slot := 24, constantValue := 0 }, { name := "ROUND_HALF_UP", type := .int, accessFlags := 25, slot := 25, constantValue := 0 }, { name := "ROUND_HALF_DOWN", type := .int, accessFlags := 25, slot := 26, constantValue := 0 }, { name := "ROUND_HALF_EVEN", type := .int, accessFlags := 25, slot := 27, constantValue := 0 }, { name := "ROUND_UNNECESSARY", type := .int, accessFlags := 25, slot := 28, constantValue := 0 }, { name := "DOUBLE_10_POW", type := (.array .double), accessFlags := 26, slot := 29, constantValue := 0 }, { name := "FLOAT_10_POW", type := (.array .float), accessFlags := 26, slot := 30, constantValue := 0 }, { name := "LONG_TEN_POWERS_TABLE", type := (.array .long), accessFlags := 26, slot := 31, constantValue := 0 }, { name := "BIG_TEN_POWERS_TABLE", type := (.array (.object "java/math/BigInteger")), accessFlags := 74, slot := 32, constantValue := 0 }, { name := "BIG_TEN_POWERS_TABLE_INITLEN", type := .int, accessFlags := 26, slot := 33, constantValue := 0 }, { name := "BIG_TEN_POWERS_TABLE_MAX", type := .int, accessFlags := 26, slot := 34, constantValue := 0 }, { name := "THRESHOLDS_TABLE", type := (.array .long), accessFlags := 26, slot := 35, constantValue := 0 }, { name := "DIV_NUM_BASE", type := .long, accessFlags := 26, slot := 36, constantValue := 0 }, { name := "LONGLONG_TEN_POWERS_TABLE", type := (.array (.array .long)), accessFlags := 26, slot := 37, constantValue := 0 }, { name := "$assertionsDisabled", type := .boolean, accessFlags := 4120, slot := 38, constantValue := 0 }]
  methods := #[k21m0, k21m1, k21m2, k21m3, k21m4, k21m5]
  instanceTypes := #[(.object "java/math/BigInteger"), .int, .int, (.object "java/lang/String"), .long]
  staticTypes := #[.double, .int, .int, .int, .int, .int, .int, .long, (.object "java/math/BigInteger"), .int, .long, (.array (.object "java/math/BigDecimal")), (.array (.object "java/math/BigDecimal")), .long, .long, (.object "java/math/BigDecimal"), (.object "java/math/BigDecimal"), (.object "java/math/BigDecimal"), (.object "java/math/BigDecimal"), (.object "java/math/BigDecimal"), (.object "java/math/BigDecimal"), .int, .int, .int, .int, .int, .int, .int, .int, (.array .double), (.array .float), (.array .long), (.array (.object "java/math/BigInteger")), .int, .int, (.array .long), .long, (.array (.array .long)), .boolean]
  resolved := Array.replicate 1637 none
  statics := none }

def pool22 : Array CpInfo := pool [(1, .class_ 2), (0, u "java/lang/Integer"), (0, .methodref 4 5), (0, .class_ 6), (0, .nameAndType 7 8), (0, u "java/lang/Number"), (0, u "<init>"), (0, u "()V"), (7, .methodref 17 18), (0, .class_ 19), (0, .nameAndType 20 21), (0, u "java/util/Objects"), (0, u "checkFromIndexSize"), (0, u "(III)I"), (0, .fieldref 23 24), (0, .class_ 25), (0, .nameAndType 26 27), (0, u "java/math/BigInteger"), (0, u "ZERO"), (0, u "Ljava/math/BigInteger;"), (0, .fieldref 23 29), (0, .nameAndType 30 31), (0, u "mag"), (0, u "[I"), (0, .fieldref 23 33), (0, .nameAndType 34 35), (0, u "signum"), (0, u "I"), (0, .methodref 23 37), (0, .nameAndType 38 39), (0, u "makePositive"), (0, u "(I[BII)[I"), (0, .methodref 23 41), (0, .nameAndType 42 39), (0, u "stripLeadingZeroBytes"), (0, .integer 67108864), (3, .methodref 23 48), (0, .nameAndType 7 49), (0, u "([BII)V"), (24, u "()I"), (7, u "(I)I"), (12, u "bitsPerDigit"), (0, u "[J"), (9, u "digitsPerInt"), (12, u "intRadix"), (10, .long 4294967295), (28, u "([B)V"), (20, u "SMALL_PRIME_PRODUCT"), (6, u "longValue"), (0, u "()J"), (45, u "bitLength"), (25, u "ONE"), (6, u "TWO"), (43, u "$assertionsDisabled"), (0, u "Z"), (36, u "posConst"), (0, u "[Ljava/math/BigInteger;"), (4, u "negConst"), (67, .methodref 1 424), (0, .nameAndType 425 82), (0, u "bitCount"), (46, .class_ 474), (1, u "java/math/BigInteger$RecursiveOp"), (106, u "NEGATIVE_ONE"), (20, .methodref 1 603), (0, .nameAndType 604 82), (0, u "numberOfLeadingZeros"), (0, .methodref 23 606), (0, .nameAndType 607 82), (0, u "bitLengthForInt"), (65, u "bnExpModThreshTable"), (62, .methodref 23 737), (0, .nameAndType 738 82), (0, u "getInt"), (7, u "lowestSetBitPlusTwo"), (0, .fieldref 23 748), (0, .nameAndType 749 35), (0, u "bitLengthPlusOne"), (2, u "bitCountPlusOne"), (6, u "LOG_TWO"), (0, u "D"), (2, u "logCache"), (0, u "[D"), (13, u "NUM_ZEROS"), (2, u "ZEROS"), (0, u "Ljava/lang/String;"), (9, u "longRadix"), (5, u "digitsPerLong"), (22, u "powerCache"), (0, u "[[Ljava/math/BigInteger;"), (37, .methodref 23 861), (0, .nameAndType 862 74), (0, u "signInt"), (0, .methodref 23 864), (0, .nameAndType 865 74), (0, u "firstNonzeroIntNum"), (0, .fieldref 23 867), (0, .nameAndType 868 35), (0, u "firstNonzeroIntNumPlusTwo"), (38, .class_ 909), (1, u "java/math/BigInteger$UnsafeHolder"), (141, u "TEN"), (106, u "serialPersistentFields"), (0, u "[Ljava/io/ObjectStreamField;"), (0, .class_ 1161), (0, u "java/lang/Comparable"), (0, u "LONG_MASK"), (0, u "J"), (1, u "MAX_MAG_LENGTH"), (0, u "PRIME_SEARCH_BIT_LENGTH_LIMIT"), (1, u "KARATSUBA_THRESHOLD"), (1, u "TOOM_COOK_THRESHOLD"), (1, u "KARATSUBA_SQUARE_THRESHOLD"), (1, u "TOOM_COOK_SQUARE_THRESHOLD"), (1, u "BURNIKEL_ZIEGLER_THRESHOLD"), (0, u "BURNIKEL_ZIEGLER_OFFSET"), (1, u "SCHOENHAGE_BASE_CONVERSION_THRESHOLD"), (1, u "MULTIPLY_SQUARE_THRESHOLD"), (0, u "MONTGOMERY_INTRINSIC_THRESHOLD"), (1, u "SMALL_PRIME_THRESHOLD"), (1, u "DEFAULT_PRIME_CERTAINTY"), (1, u "MAX_CONSTANT"), (3, u "serialVersionUID"), (338, .class_ 1532), (0, u "java/math/BigInteger$RecursiveOp$RecursiveSquare"), (0, .class_ 1534), (0, u "java/math/BigInteger$RecursiveOp$RecursiveMultiply")] 7

def k22c0 : Code := { maxStack := 5, maxLocals := 5, code := jdk_2097_method_1_code, exceptionTable := #[], attributes := #[] }
def k22m0 : Method := { name := "<init>", desc := "([BII)V", sig := { parameters := [(.array .byte), .int, .int], returnType := none }, accessFlags := 1, code := some k22c0 }
def k22c1 : Code := { maxStack := 4, maxLocals := 2, code := jdk_2097_method_2_code, exceptionTable := #[], attributes := #[] }
def k22m1 : Method := { name := "<init>", desc := "([B)V", sig := { parameters := [(.array .byte)], returnType := none }, accessFlags := 1, code := some k22c1 }
def k22c2 : Code := { maxStack := 2, maxLocals := 1, code := jdk_2097_method_74_code, exceptionTable := #[], attributes := #[] }
def k22m2 : Method := { name := "bitLengthForInt", desc := "(I)I", sig := { parameters := [.int], returnType := some .int }, accessFlags := 8, code := some k22c2 }
def k22c3 : Code := { maxStack := 3, maxLocals := 7, code := jdk_2097_method_118_code, exceptionTable := #[], attributes := #[] }
def k22m3 : Method := { name := "bitLength", desc := "()I", sig := { parameters := [], returnType := some .int }, accessFlags := 1, code := some k22c3 }
def k22c4 : Code := { maxStack := 6, maxLocals := 4, code := jdk_2097_method_136_code, exceptionTable := #[], attributes := #[] }
def k22m4 : Method := { name := "longValue", desc := "()J", sig := { parameters := [], returnType := some .long }, accessFlags := 1, code := some k22c4 }
def k22c5 : Code := { maxStack := 5, maxLocals := 8, code := jdk_2097_method_142_code, exceptionTable := #[], attributes := #[] }
def k22m5 : Method := { name := "stripLeadingZeroBytes", desc := "(I[BII)[I", sig := { parameters := [.int, (.array .byte), .int, .int], returnType := some (.array .int) }, accessFlags := 10, code := some k22c5 }
def k22c6 : Code := { maxStack := 5, maxLocals := 11, code := jdk_2097_method_143_code, exceptionTable := #[], attributes := #[] }
def k22m6 : Method := { name := "makePositive", desc := "(I[BII)[I", sig := { parameters := [.int, (.array .byte), .int, .int], returnType := some (.array .int) }, accessFlags := 10, code := some k22c6 }
def k22c7 : Code := { maxStack := 1, maxLocals := 1, code := jdk_2097_method_147_code, exceptionTable := #[], attributes := #[] }
def k22m7 : Method := { name := "signInt", desc := "()I", sig := { parameters := [], returnType := some .int }, accessFlags := 2, code := some k22c7 }
def k22c8 : Code := { maxStack := 3, maxLocals := 3, code := jdk_2097_method_148_code, exceptionTable := #[], attributes := #[] }
def k22m8 : Method := { name := "getInt", desc := "(I)I", sig := { parameters := [.int], returnType := some .int }, accessFlags := 2, code := some k22c8 }
def k22c9 : Code := { maxStack := 3, maxLocals := 4, code := jdk_2097_method_149_code, exceptionTable := #[], attributes := #[] }
def k22m9 : Method := { name := "firstNonzeroIntNum", desc := "()I", sig := { parameters := [], returnType := some .int }, accessFlags := 2, code := some k22c9 }
/-- java/math/BigInteger -/
def k22 : Class := { plain "java/math/BigInteger" (some 20) with
  accessFlags := 33
  interfaces := #[3]
  cf := some (fileOf pool22 23 #[.nestMembers #[907, 472, 1531, 1533]] #[{ accessFlags := 1, nameIndex := 7, descriptorIndex := 49, attributes := #[] }, { accessFlags := 1, nameIndex := 7, descriptorIndex := 159, attributes := #[] }, { accessFlags := 8, nameIndex := 607, descriptorIndex := 82, attributes := #[] }, { accessFlags := 1, nameIndex := 234, descriptorIndex := 74, attributes := #[] }, { accessFlags := 1, nameIndex := 187, descriptorIndex := 188, attributes := #[] }, { accessFlags := 10, nameIndex := 42, descriptorIndex := 39, attributes := #[] }, { accessFlags := 10, nameIndex := 38, descriptorIndex := 39, attributes := #[] }, { accessFlags := 2, nameIndex := 862, descriptorIndex := 74, attributes := #[] }, { accessFlags := 2, nameIndex := 738, descriptorIndex := 82, attributes := #[] }, { accessFlags := 2, nameIndex := 865, descriptorIndex := 74, attributes := #[] }] 33 4 #[1160] #[{ accessFlags := 16, nameIndex := 34, descriptorIndex := 35, attributes := #[] }, { accessFlags := 16, nameIndex := 30, descriptorIndex := 31, attributes := #[] }, { accessFlags := 2, nameIndex := 752, descriptorIndex := 35, attributes := #[] }, { accessFlags := 2, nameIndex := 749, descriptorIndex := 35, attributes := #[] }, { accessFlags := 2, nameIndex := 746, descriptorIndex := 35, attributes := #[] }, { accessFlags := 2, nameIndex := 868, descriptorIndex := 35, attributes := #[] }, { accessFlags := 24, nameIndex := 1162, descriptorIndex := 1163, attributes := #[] }, { accessFlags := 26, nameIndex := 1165, descriptorIndex := 35, attributes := #[] }, { accessFlags := 26, nameIndex := 1166, descriptorIndex := 35, attributes := #[] }, { accessFlags := 26, nameIndex := 1168, descriptorIndex := 35, attributes := #[] }, { accessFlags := 26, nameIndex := 1170, descriptorIndex := 35, attributes := #[] }, { accessFlags := 26, nameIndex := 1172, descriptorIndex := 35, attributes := #[] }, { accessFlags := 26, nameIndex := 1174, descriptorIndex := 35, attributes := #[] }, { accessFlags := 24, nameIndex := 1176, descriptorIndex := 35, attributes := #[] }, { accessFlags := 24, nameIndex := 1177, descriptorIndex := 35, attributes := #[] }, { accessFlags := 26, nameIndex := 1179, descriptorIndex := 35, attributes := #[] }, { accessFlags := 26, nameIndex := 1181, descriptorIndex := 35, attributes := #[] }, { accessFlags := 26, nameIndex := 1182, descriptorIndex := 35, attributes := #[] }, { accessFlags := 10, nameIndex := 95, descriptorIndex := 96, attributes := #[] }, { accessFlags := 26, nameIndex := 1184, descriptorIndex := 35, attributes := #[] }, { accessFlags := 26, nameIndex := 1186, descriptorIndex := 35, attributes := #[] }, { accessFlags := 26, nameIndex := 180, descriptorIndex := 27, attributes := #[] }, { accessFlags := 26, nameIndex := 1188, descriptorIndex := 35, attributes := #[] }, { accessFlags := 26, nameIndex := 349, descriptorIndex := 350, attributes := #[] }, { accessFlags := 26, nameIndex := 355, descriptorIndex := 350, attributes := #[] }, { accessFlags := 74, nameIndex := 821, descriptorIndex := 822, attributes := #[] }, { accessFlags := 26, nameIndex := 763, descriptorIndex := 764, attributes := #[] }, { accessFlags := 26, nameIndex := 759, descriptorIndex := 760, attributes := #[] }, { accessFlags := 25, nameIndex := 26, descriptorIndex := 27, attributes := #[] }, { accessFlags := 25, nameIndex := 260, descriptorIndex := 27, attributes := #[] }, { accessFlags := 25, nameIndex := 267, descriptorIndex := 27, attributes := #[] }, { accessFlags := 26, nameIndex := 581, descriptorIndex := 27, attributes := #[] }, { accessFlags := 25, nameIndex := 1051, descriptorIndex := 27, attributes := #[] }, { accessFlags := 8, nameIndex := 673, descriptorIndex := 31, attributes := #[] }, { accessFlags := 10, nameIndex := 778, descriptorIndex := 35, attributes := #[] }, { accessFlags := 26, nameIndex := 781, descriptorIndex := 782, attributes := #[] }, { accessFlags := 10, nameIndex := 798, descriptorIndex := 31, attributes := #[] }, { accessFlags := 10, nameIndex := 792, descriptorIndex := 350, attributes := #[] }, { accessFlags := 10, nameIndex := 106, descriptorIndex := 31, attributes := #[] }, { accessFlags := 10, nameIndex := 119, descriptorIndex := 31, attributes := #[] }, { accessFlags := 26, nameIndex := 1192, descriptorIndex := 1163, attributes := #[] }, { accessFlags := 26, nameIndex := 1158, descriptorIndex := 1159, attributes := #[] }, { accessFlags := 4120, nameIndex := 311, descriptorIndex := 312, attributes := #[] }])
  fields := #[{ name := "signum", type := .int, accessFlags := 16, slot := 0, constantValue := 0 }, { name := "mag", type := (.array .int), accessFlags := 16, slot := 1, constantValue := 0 }, { name := "bitCountPlusOne", type := .int, accessFlags := 2, slot := 2, constantValue := 0 }, { name := "bitLengthPlusOne", type := .int, accessFlags := 2, slot := 3, constantValue := 0 }, { name := "lowestSetBitPlusTwo", type := .int, accessFlags := 2, slot := 4, constantValue := 0 }, { name := "firstNonzeroIntNumPlusTwo", type := .int, accessFlags := 2, slot := 5, constantValue := 0 }, { name := "LONG_MASK", type := .long, accessFlags := 24, slot := 0, constantValue := 0 }, { name := "MAX_MAG_LENGTH", type := .int, accessFlags := 26, slot := 1, constantValue := 0 }, { name := "PRIME_SEARCH_BIT_LENGTH_LIMIT", type := .int, accessFlags := 26, slot := 2, constantValue := 0 }, { name := "KARATSUBA_THRESHOLD", type := .int, accessFlags := 26, slot := 3, constantValue := 0 }, { name := "TOOM_COOK_THRESHOLD", type := .int, accessFlags := 26, slot := 4, constantValue := 0 }, { name := "KARATSUBA_SQUARE_THRESHOLD", type := .int, accessFlags := 26, slot := 5, constantValue := 0 }, { name := "TOOM_COOK_SQUARE_THRESHOLD", type := .int, accessFlags := 26, slot := 6, constantValue := 0 }, { name := "BURNIKEL_ZIEGLER_THRESHOLD", type := .int, accessFlags := 24, slot := 7, constantValue := 0 }, { name := "BURNIKEL_ZIEGLER_OFFSET", type := .int, accessFlags := 24, slot := 8, constantValue := 0 }, { name := "SCHOENHAGE_BASE_CONVERSION_THRESHOLD", type := .int, accessFlags := 26, slot := 9, constantValue := 0 }, { name := "MULTIPLY_SQUARE_THRESHOLD", type := .int, accessFlags := 26, slot := 10, constantValue := 0 }, { name := "MONTGOMERY_INTRINSIC_THRESHOLD", type := .int, accessFlags := 26, slot := 11, constantValue := 0 }, { name := "bitsPerDigit", type := (.array .long), accessFlags := 10, slot := 12, constantValue := 0 }, { name := "SMALL_PRIME_THRESHOLD", type := .int, accessFlags := 26, slot := 13, constantValue := 0 }, { name := "DEFAULT_PRIME_CERTAINTY", type := .int, accessFlags := 26, slot := 14, constantValue := 0 }, { name := "SMALL_PRIME_PRODUCT", type := (.object "java/math/BigInteger"), accessFlags := 26, slot := 15, constantValue := 0 }, { name := "MAX_CONSTANT", type := .int, accessFlags := 26, slot := 16, constantValue := 0 }, { name := "posConst", type := (.array (.object "java/math/BigInteger")), accessFlags := 26, slot := 17, constantValue := 0 }, { name := "negConst", type := (.array (.object "java/math/BigInteger")), accessFlags := 26, slot := 18, constantValue := 0 }, { name := "powerCache", type := (.array (.array (.object "java/math/BigInteger"))), accessFlags := 74, slot := 19, constantValue := 0 }, { name := "logCache", type := (.array .double), accessFlags := 26, slot := 20, constantValue := 0 }, { name := "LOG_TWO", type := .double, accessFlags := 26, slot := 21, constantValue := 0 }, { name := "ZERO", type := (.object "java/math/BigInteger"), accessFlags := 25, slot := 22, constantValue := 0 }, { name := "ONE", type := (.object "java/math/BigInteger"), accessFlags := 25, slot := 23, constantValue := 0 }, { name := "TWO", type := (.object "java/math/BigInteger"), accessFlags := 25, slot := 24, constantValue := 0 }, { name := "NEGATIVE_ONE", type := (.object "java/math/BigInteger"), accessFlags := 26, slot := 25, constantValue := 0 }, { name := "TEN", type := (.object "java/math/BigInteger"), accessFlags := 25, slot := 26, constantValue := 0 }, { name := "bnExpModThreshTable", type := (.array .int), accessFlags := 8, slot := 27, constantValue := 0 }, { name := "NUM_ZEROS", type := .int, accessFlags := 10, slot := 28, constantValue := 0 }, { name := "ZEROS", type := (.object "java/lang/String"), accessFlags := 26, slot := 29, constantValue := 0 }, { name := "digitsPerLong", type := (.array .int), accessFlags := 10, slot := 30, constantValue := 0 }, { name := "longRadix", type := (.array (.object "java/math/BigInteger")), accessFlags := 10, slot := 31, constantValue := 0 }, { name := "digitsPerInt", type := (.array .int), accessFlags := 10, slot := 32, constantValue := 0 }, { name := "intRadix", type := (.array .int), accessFlags := 10, slot := 33, constantValue := 0 }, { name := "serialVersionUID", type := .long, accessFlags := 26, slot := 34, constantValue := 0 }, { name := "serialPersistentFields", type := (.array (.object "java/io/ObjectStreamField")), accessFlags := 26, slot := 35, constantValue := 0 }, { name := "$assertionsDisabled", type := .boolean, accessFlags := 4120, slot := 36, constantValue := 0 }]
  methods := #[k22m0, k22m1, k22m2, k22m3, k22m4, k22m5, k22m6, k22m7, k22m8, k22m9]
  instanceTypes := #[.int, (.array .int), .int, .int, .int, .int]
  staticTypes := #[.long, .int, .int, .int, .int, .int, .int, .int, .int, .int, .int, .int, (.array .long), .int, .int, (.object "java/math/BigInteger"), .int, (.array (.object "java/math/BigInteger")), (.array (.object "java/math/BigInteger")), (.array (.array (.object "java/math/BigInteger"))), (.array .double), .double, (.object "java/math/BigInteger"), (.object "java/math/BigInteger"), (.object "java/math/BigInteger"), (.object "java/math/BigInteger"), (.object "java/math/BigInteger"), (.array .int), .int, (.object "java/lang/String"), (.array .int), (.array (.object "java/math/BigInteger")), (.array .int), (.array .int), .long, (.array (.object "java/io/ObjectStreamField")), .boolean]
  resolved := Array.replicate 1542 none
  mirror := some 6
  statics := some 4 }

def pool23 : Array CpInfo := pool [(2, .class_ 4), (1, u "java/lang/Object"), (0, u "<init>"), (0, u "()V"), (17, .class_ 26), (1, u "jdk/internal/util/Preconditions"), (22, u "checkFromIndexSize"), (5, .class_ 56), (0, u "jdk/internal/util/Preconditions$4"), (57, .class_ 115), (0, u "jdk/internal/util/Preconditions$1"), (7, u "SIOOBE_FORMATTER"), (0, u "Ljava/util/function/BiFunction;"), (0, .class_ 126), (0, u "jdk/internal/util/Preconditions$2"), (3, u "AIOOBE_FORMATTER"), (0, .class_ 132), (0, u "jdk/internal/util/Preconditions$3"), (3, u "IOOBE_FORMATTER"), (46, u "(IIILjava/util/function/BiFunction;)I")] 10

def k23m0 : Method := { name := "<init>", desc := "()V", sig := { parameters := [], returnType := none }, accessFlags := 1, code := none }
def k23c1 : Code := { maxStack := 4, maxLocals := 4, code := jdk_41_method_13_code, exceptionTable := #[], attributes := #[] }
def k23m1 : Method := { name := "checkFromIndexSize", desc := "(IIILjava/util/function/BiFunction;)I", sig := { parameters := [.int, .int, .int, (.object "java/util/function/BiFunction")], returnType := some .int }, accessFlags := 9, code := some k23c1 }
/-- jdk/internal/util/Preconditions -/
def k23 : Class := { plain "jdk/internal/util/Preconditions" (some 0) with
  accessFlags := 33
  interfaces := #[]
  cf := some (fileOf pool23 24 #[.nestMembers #[55, 131, 125, 114]] #[{ accessFlags := 1, nameIndex := 5, descriptorIndex := 6, attributes := #[] }, { accessFlags := 9, nameIndex := 49, descriptorIndex := 183, attributes := #[] }] 33 2 #[] #[{ accessFlags := 25, nameIndex := 123, descriptorIndex := 124, attributes := #[] }, { accessFlags := 25, nameIndex := 130, descriptorIndex := 124, attributes := #[] }, { accessFlags := 25, nameIndex := 136, descriptorIndex := 124, attributes := #[] }])
  fields := #[{ name := "SIOOBE_FORMATTER", type := (.object "java/util/function/BiFunction"), accessFlags := 25, slot := 0, constantValue := 0 }, { name := "AIOOBE_FORMATTER", type := (.object "java/util/function/BiFunction"), accessFlags := 25, slot := 1, constantValue := 0 }, { name := "IOOBE_FORMATTER", type := (.object "java/util/function/BiFunction"), accessFlags := 25, slot := 2, constantValue := 0 }]
  methods := #[k23m0, k23m1]
  instanceTypes := #[]
  staticTypes := #[(.object "java/util/function/BiFunction"), (.object "java/util/function/BiFunction"), (.object "java/util/function/BiFunction")]
  resolved := Array.replicate 194 none
  statics := some 5 }

def pool24 : Array CpInfo := pool [(1, .class_ 2), (0, u "java/lang/Integer"), (16, u "digits"), (0, u "[C"), (32, u "numberOfLeadingZeros"), (0, u "(I)I"), (30, u "DigitOnes"), (0, u "[B"), (2, u "DigitTens"), (99, .class_ 190), (0, u "java/lang/Integer$IntegerCache"), (3, u "I"), (8, .class_ 204), (0, u "java/lang/Number"), (2, u "value"), (56, .integer 65536), (0, .integer 1431655765), (0, .integer 858993459), (0, .integer 252645135), (34, u "TYPE"), (0, u "Ljava/lang/Class;"), (0, .class_ 305), (0, u "java/lang/Comparable"), (0, .class_ 307), (0, u "java/lang/constant/Constable"), (0, .class_ 309), (0, u "java/lang/constant/ConstantDesc"), (0, u "MIN_VALUE"), (1, u "MAX_VALUE"), (3, u "SIZE"), (1, u "BYTES"), (1, u "serialVersionUID"), (0, u "J"), (85, u "bitCount")] 45

def k24c0 : Code := { maxStack := 3, maxLocals := 2, code := jdk_33_method_47_code, exceptionTable := #[], attributes := #[] }
def k24m0 : Method := { name := "numberOfLeadingZeros", desc := "(I)I", sig := { parameters := [.int], returnType := some .int }, accessFlags := 9, code := some k24c0 }
def k24c1 : Code := { maxStack := 3, maxLocals := 1, code := jdk_33_method_49_code, exceptionTable := #[], attributes := #[] }
def k24m1 : Method := { name := "bitCount", desc := "(I)I", sig := { parameters := [.int], returnType := some .int }, accessFlags := 9, code := some k24c1 }
/-- java/lang/Integer -/
def k24 : Class := { plain "java/lang/Integer" (some 20) with
  accessFlags := 49
  interfaces := #[3, 5, 6]
  cf := some (fileOf pool24 1 #[.nestMembers #[189]] #[{ accessFlags := 9, nameIndex := 53, descriptorIndex := 54, attributes := #[] }, { accessFlags := 9, nameIndex := 407, descriptorIndex := 54, attributes := #[] }] 49 203 #[304, 306, 308] #[{ accessFlags := 25, nameIndex := 310, descriptorIndex := 194, attributes := #[] }, { accessFlags := 25, nameIndex := 312, descriptorIndex := 194, attributes := #[] }, { accessFlags := 25, nameIndex := 302, descriptorIndex := 303, attributes := #[] }, { accessFlags := 24, nameIndex := 19, descriptorIndex := 20, attributes := #[] }, { accessFlags := 24, nameIndex := 89, descriptorIndex := 86, attributes := #[] }, { accessFlags := 24, nameIndex := 85, descriptorIndex := 86, attributes := #[] }, { accessFlags := 18, nameIndex := 207, descriptorIndex := 194, attributes := #[] }, { accessFlags := 25, nameIndex := 316, descriptorIndex := 194, attributes := #[] }, { accessFlags := 25, nameIndex := 318, descriptorIndex := 194, attributes := #[] }, { accessFlags := 26, nameIndex := 320, descriptorIndex := 321, attributes := #[] }])
  fields := #[{ name := "MIN_VALUE", type := .int, accessFlags := 25, slot := 0, constantValue := 0 }, { name := "MAX_VALUE", type := .int, accessFlags := 25, slot := 1, constantValue := 0 }, { name := "TYPE", type := (.object "java/lang/Class"), accessFlags := 25, slot := 2, constantValue := 0 }, { name := "digits", type := (.array .char), accessFlags := 24, slot := 3, constantValue := 0 }, { name := "DigitTens", type := (.array .byte), accessFlags := 24, slot := 4, constantValue := 0 }, { name := "DigitOnes", type := (.array .byte), accessFlags := 24, slot := 5, constantValue := 0 }, { name := "value", type := .int, accessFlags := 18, slot := 0, constantValue := 0 }, { name := "SIZE", type := .int, accessFlags := 25, slot := 6, constantValue := 0 }, { name := "BYTES", type := .int, accessFlags := 25, slot := 7, constantValue := 0 }, { name := "serialVersionUID", type := .long, accessFlags := 26, slot := 8, constantValue := 0 }]
  methods := #[k24m0, k24m1]
  instanceTypes := #[.int]
  staticTypes := #[.int, .int, (.object "java/lang/Class"), (.array .char), (.array .byte), (.array .byte), .int, .int, .long]
  resolved := Array.replicate 453 none
  statics := none }

def pool25 : Array CpInfo := pool [(4, .class_ 6), (1, u "java/lang/Object"), (0, u "<init>"), (0, u "()V"), (5, .class_ 16), (1, u "java/lang/StringLatin1"), (104, u "$assertionsDisabled"), (0, u "Z"), (98, .class_ 223), (1, u "java/lang/StringLatin1$LinesSpliterator"), (166, .class_ 391), (0, u "java/lang/StringLatin1$CharsSpliterator")] 3

def k25m0 : Method := { name := "<init>", desc := "()V", sig := { parameters := [], returnType := none }, accessFlags := 0, code := none }
/-- java/lang/StringLatin1 -/
def k25 : Class := { plain "java/lang/StringLatin1" (some 0) with
  accessFlags := 48
  interfaces := #[]
  cf := some (fileOf pool25 14 #[.nestMembers #[390, 221]] #[{ accessFlags := 0, nameIndex := 7, descriptorIndex := 8, attributes := #[] }] 48 4 #[] #[{ accessFlags := 4120, nameIndex := 121, descriptorIndex := 122, attributes := #[] }])
  fields := #[{ name := "$assertionsDisabled", type := .boolean, accessFlags := 4120, slot := 0, constantValue := 0 }]
  methods := #[k25m0]
  instanceTypes := #[]
  staticTypes := #[.boolean]
  resolved := Array.replicate 395 none
  statics := none }

def pool26 : Array CpInfo := pool [(9, u "<init>"), (6, .class_ 18), (1, u "java/lang/Object"), (0, u "()V"), (1, .class_ 23), (1, u "jdk/internal/util/ArraysSupport"), (0, u "LOG2_ARRAY_LONG_INDEX_SCALE"), (0, u "I"), (2, u "U"), (0, u "Ljdk/internal/misc/Unsafe;"), (8, u "BIG_ENDIAN"), (0, u "Z"), (8, u "LOG2_BYTE_BIT_SIZE"), (4, u "LOG2_ARRAY_INT_INDEX_SCALE"), (54, u "JLA"), (0, u "Ljdk/internal/access/JavaLangAccess;"), (11, u "LOG2_ARRAY_BOOLEAN_INDEX_SCALE"), (9, u "LOG2_ARRAY_BYTE_INDEX_SCALE"), (5, u "LOG2_ARRAY_CHAR_INDEX_SCALE"), (5, u "LOG2_ARRAY_SHORT_INDEX_SCALE"), (18, u "LOG2_ARRAY_FLOAT_INDEX_SCALE"), (24, u "LOG2_ARRAY_DOUBLE_INDEX_SCALE"), (89, u "T_BOOLEAN"), (2, u "T_CHAR"), (1, u "T_FLOAT"), (1, u "T_DOUBLE"), (1, u "T_BYTE"), (1, u "T_SHORT"), (1, u "T_INT"), (1, u "T_LONG"), (1, u "SOFT_MAX_ARRAY_LENGTH")] 83

def k26m0 : Method := { name := "<init>", desc := "()V", sig := { parameters := [], returnType := none }, accessFlags := 2, code := none }
/-- jdk/internal/util/ArraysSupport -/
def k26 : Class := { plain "jdk/internal/util/ArraysSupport" (some 0) with
  accessFlags := 33
  interfaces := #[]
  cf := some (fileOf pool26 21 #[] #[{ accessFlags := 2, nameIndex := 9, descriptorIndex := 19, attributes := #[] }] 33 16 #[] #[{ accessFlags := 24, nameIndex := 28, descriptorIndex := 29, attributes := #[] }, { accessFlags := 26, nameIndex := 38, descriptorIndex := 39, attributes := #[] }, { accessFlags := 25, nameIndex := 121, descriptorIndex := 25, attributes := #[] }, { accessFlags := 25, nameIndex := 131, descriptorIndex := 25, attributes := #[] }, { accessFlags := 25, nameIndex := 137, descriptorIndex := 25, attributes := #[] }, { accessFlags := 25, nameIndex := 143, descriptorIndex := 25, attributes := #[] }, { accessFlags := 25, nameIndex := 53, descriptorIndex := 25, attributes := #[] }, { accessFlags := 25, nameIndex := 24, descriptorIndex := 25, attributes := #[] }, { accessFlags := 25, nameIndex := 162, descriptorIndex := 25, attributes := #[] }, { accessFlags := 25, nameIndex := 187, descriptorIndex := 25, attributes := #[] }, { accessFlags := 26, nameIndex := 48, descriptorIndex := 25, attributes := #[] }, { accessFlags := 25, nameIndex := 277, descriptorIndex := 25, attributes := #[] }, { accessFlags := 25, nameIndex := 280, descriptorIndex := 25, attributes := #[] }, { accessFlags := 25, nameIndex := 282, descriptorIndex := 25, attributes := #[] }, { accessFlags := 25, nameIndex := 284, descriptorIndex := 25, attributes := #[] }, { accessFlags := 25, nameIndex := 286, descriptorIndex := 25, attributes := #[] }, { accessFlags := 25, nameIndex := 288, descriptorIndex := 25, attributes := #[] }, { accessFlags := 25, nameIndex := 290, descriptorIndex := 25, attributes := #[] }, { accessFlags := 25, nameIndex := 292, descriptorIndex := 25, attributes := #[] }, { accessFlags := 26, nameIndex := 108, descriptorIndex := 109, attributes := #[] }, { accessFlags := 25, nameIndex := 294, descriptorIndex := 25, attributes := #[] }])
  fields := #[{ name := "U", type := (.object "jdk/internal/misc/Unsafe"), accessFlags := 24, slot := 0, constantValue := 0 }, { name := "BIG_ENDIAN", type := .boolean, accessFlags := 26, slot := 1, constantValue := 0 }, { name := "LOG2_ARRAY_BOOLEAN_INDEX_SCALE", type := .int, accessFlags := 25, slot := 2, constantValue := 0 }, { name := "LOG2_ARRAY_BYTE_INDEX_SCALE", type := .int, accessFlags := 25, slot := 3, constantValue := 0 }, { name := "LOG2_ARRAY_CHAR_INDEX_SCALE", type := .int, accessFlags := 25, slot := 4, constantValue := 0 }, { name := "LOG2_ARRAY_SHORT_INDEX_SCALE", type := .int, accessFlags := 25, slot := 5, constantValue := 0 }, { name := "LOG2_ARRAY_INT_INDEX_SCALE", type := .int, accessFlags := 25, slot := 6, constantValue := 0 }, { name := "LOG2_ARRAY_LONG_INDEX_SCALE", type := .int, accessFlags := 25, slot := 7, constantValue := 0 }, { name := "LOG2_ARRAY_FLOAT_INDEX_SCALE", type := .int, accessFlags := 25, slot := 8, constantValue := 0 }, { name := "LOG2_ARRAY_DOUBLE_INDEX_SCALE", type := .int, accessFlags := 25, slot := 9, constantValue := 0 }, { name := "LOG2_BYTE_BIT_SIZE", type := .int, accessFlags := 26, slot := 10, constantValue := 0 }, { name := "T_BOOLEAN", type := .int, accessFlags := 25, slot := 11, constantValue := 0 }, { name := "T_CHAR", type := .int, accessFlags := 25, slot := 12, constantValue := 0 }, { name := "T_FLOAT", type := .int, accessFlags := 25, slot := 13, constantValue := 0 }, { name := "T_DOUBLE", type := .int, accessFlags := 25, slot := 14, constantValue := 0 }, { name := "T_BYTE", type := .int, accessFlags := 25, slot := 15, constantValue := 0 }, { name := "T_SHORT", type := .int, accessFlags := 25, slot := 16, constantValue := 0 }, { name := "T_INT", type := .int, accessFlags := 25, slot := 17, constantValue := 0 }, { name := "T_LONG", type := .int, accessFlags := 25, slot := 18, constantValue := 0 }, { name := "JLA", type := (.object "jdk/internal/access/JavaLangAccess"), accessFlags := 26, slot := 19, constantValue := 0 }, { name := "SOFT_MAX_ARRAY_LENGTH", type := .int, accessFlags := 25, slot := 20, constantValue := 0 }]
  methods := #[k26m0]
  instanceTypes := #[]
  staticTypes := #[(.object "jdk/internal/misc/Unsafe"), .boolean, .int, .int, .int, .int, .int, .int, .int, .int, .int, .int, .int, .int, .int, .int, .int, .int, .int, (.object "jdk/internal/access/JavaLangAccess"), .int]
  resolved := Array.replicate 378 none
  statics := none }

def pool27 : Array CpInfo := pool [(1, u "java/lang/Class"), (0, .class_ 1), (0, u "java/lang/Object"), (0, .class_ 3)] 0

/-- java/lang/Class -/
def k27 : Class := { plain "java/lang/Class" (some 0) with
  accessFlags := 49
  interfaces := #[]
  cf := some (fileOf pool27 2 #[] #[] 49 4 #[] #[])
  fields := #[]
  methods := #[]
  instanceTypes := #[]
  staticTypes := #[]
  resolved := Array.replicate 5 none
  statics := none }

/-- the primitive byte -/
def k28 : Class := { plain "byte" none with kind := .primitive 'B', accessFlags := 0x411 }
/-- [B -/
def k29 : Class := { plain "[B" (some 0) with kind := .array 28 .byte, interfaces := #[19, 2], accessFlags := 1041 }

/-- the primitive char -/
def k30 : Class := { plain "char" none with kind := .primitive 'C', accessFlags := 0x411 }
/-- [C -/
def k31 : Class := { plain "[C" (some 0) with kind := .array 30 .char, interfaces := #[19, 2], accessFlags := 1041 }

/-- the primitive int -/
def k32 : Class := { plain "int" none with kind := .primitive 'I', accessFlags := 0x411 }
/-- [I -/
def k33 : Class := { plain "[I" (some 0) with kind := .array 32 .int, interfaces := #[19, 2], accessFlags := 1041 }

def heap : Heap := #[{ cls := 7, slots := #[.long 0, .int 1, .null, .int 0, .null, .int 0, .int 0], vm := .statics 7 },
  { cls := 13, slots := #[.ref 14, .null, .ref 11, .null, .null], vm := .statics 13 },
  { cls := 16, slots := #[.ref 12], vm := .statics 16 },
  { cls := 18, slots := #[.ref 13, .null], vm := .statics 18 },
  { cls := 22, slots := #[.long 0, .int 0, .int 0, .int 0, .int 0, .int 0, .int 0, .int 0, .int 0, .int 0, .int 0, .int 0, .null, .int 0, .int 0, .null, .int 0, .null, .null, .null, .null, .double 0, .ref 8, .null, .null, .null, .null, .null, .int 0, .null, .null, .null, .null, .null, .long 0, .null, .int 0], vm := .statics 22 },
  { cls := 23, slots := #[.null, .null, .null], vm := .statics 23 },
  { cls := 27, slots := #[], vm := .mirror 22 },
  { cls := 33, slots := #[], vm := .none },
  { cls := 22, slots := #[.int 0, .ref 7, .int 0, .int 0, .int 0, .int 0], vm := .none },
  { cls := 25, slots := #[], vm := .none },
  { cls := 26, slots := #[], vm := .none },
  { cls := 13, slots := #[.int 0, .int 0], vm := .none },
  { cls := 16, slots := #[.null, .null, .null], vm := .none },
  { cls := 18, slots := #[.null, .null, .null], vm := .none },
  { cls := 33, slots := #[.int (-1), .int (-1), .int (-1), .int (-1), .int (-1), .int (-1), .int (-1), .int (-1), .int (-1), .int (-1), .int (-1), .int (-1), .int (-1), .int (-1), .int (-1), .int (-1), .int (-1), .int (-1), .int (-1), .int (-1), .int (-1), .int (-1), .int (-1), .int (-1), .int (-1), .int (-1), .int (-1), .int (-1), .int (-1), .int (-1), .int (-1), .int (-1), .int (-1), .int (-1), .int (-1), .int (-1), .int (-1), .int (-1), .int (-1), .int (-1), .int (-1), .int (-1), .int (-1), .int 62, .int (-1), .int (-1), .int (-1), .int 63, .int 52, .int 53, .int 54, .int 55, .int 56, .int 57, .int 58, .int 59, .int 60, .int 61, .int (-1), .int (-1), .int (-1), .int (-2), .int (-1), .int (-1), .int (-1), .int 0, .int 1, .int 2, .int 3, .int 4, .int 5, .int 6, .int 7, .int 8, .int 9, .int 10, .int 11, .int 12, .int 13, .int 14, .int 15, .int 16, .int 17, .int 18, .int 19, .int 20, .int 21, .int 22, .int 23, .int 24, .int 25, .int (-1), .int (-1), .int (-1), .int (-1), .int (-1), .int (-1), .int 26, .int 27, .int 28, .int 29, .int 30, .int 31, .int 32, .int 33, .int 34, .int 35, .int 36, .int 37, .int 38, .int 39, .int 40, .int 41, .int 42, .int 43, .int 44, .int 45, .int 46, .int 47, .int 48, .int 49, .int 50, .int 51, .int (-1), .int (-1), .int (-1), .int (-1), .int (-1), .int (-1), .int (-1), .int (-1), .int (-1), .int (-1), .int (-1), .int (-1), .int (-1), .int (-1), .int (-1), .int (-1), .int (-1), .int (-1), .int (-1), .int (-1), .int (-1), .int (-1), .int (-1), .int (-1), .int (-1), .int (-1), .int (-1), .int (-1), .int (-1), .int (-1), .int (-1), .int (-1), .int (-1), .int (-1), .int (-1), .int (-1), .int (-1), .int (-1), .int (-1), .int (-1), .int (-1), .int (-1), .int (-1), .int (-1), .int (-1), .int (-1), .int (-1), .int (-1), .int (-1), .int (-1), .int (-1), .int (-1), .int (-1), .int (-1), .int (-1), .int (-1), .int (-1), .int (-1), .int (-1), .int (-1), .int (-1), .int (-1), .int (-1), .int (-1), .int (-1), .int (-1), .int (-1), .int (-1), .int (-1), .int (-1), .int (-1), .int (-1), .int (-1), .int (-1), .int (-1), .int (-1), .int (-1), .int (-1), .int (-1), .int (-1), .int (-1), .int (-1), .int (-1), .int (-1), .int (-1), .int (-1), .int (-1), .int (-1), .int (-1), .int (-1), .int (-1), .int (-1), .int (-1), .int (-1), .int (-1), .int (-1), .int (-1), .int (-1), .int (-1), .int (-1), .int (-1), .int (-1), .int (-1), .int (-1), .int (-1), .int (-1), .int (-1), .int (-1), .int (-1), .int (-1), .int (-1), .int (-1), .int (-1), .int (-1), .int (-1), .int (-1), .int (-1), .int (-1), .int (-1), .int (-1), .int (-1), .int (-1), .int (-1), .int (-1), .int (-1), .int (-1), .int (-1), .int (-1), .int (-1), .int (-1), .int (-1), .int (-1), .int (-1)], vm := .none }]
def classes : Array Class := #[k0, k1, k2, k3, k4, k5, k6, k7, k8, k9, k10, k11, k12, k13, k14, k15, k16, k17, k18, k19, k20, k21, k22, k23, k24, k25, k26, k27, k28, k29, k30, k31, k32, k33]
def interned : List (Array UInt16 × Addr) := []
def slotsUsed : Nat := 325
def theMethod : MethodId := ⟨1, 1⟩
def args0 : Array Value := #[.long 5, .int 7, .int 9]
def aboutOver (below : List Frame) : State where
  vm := { classes := classes, interned := interned.toArray }
  heap := heap
  slotsUsed := slotsUsed
  threads := #[{ frames := .invoking theMethod args0 :: below }]
def below0 : List Frame := [.native { method := ⟨0, 0⟩, args := #[] }]
def about1 : State := aboutOver below0
def p0 : Program := .bare "" "" ""
def e0 : Env := launch0.env 0 0 0
theorem w_frames : about1.frames = Frame.invoking theMethod args0 :: below0 := rfl
set_option maxRecDepth 65536 in
theorem w_args : argsFit about1.vm theMethod args0 = true := by decide +kernel
set_option maxRecDepth 65536 in
theorem w_heap : heapFits about1 = true := by decide +kernel
set_option maxRecDepth 65536 in
theorem w_runnable : about1.curStatus? = some .runnable := by decide +kernel
set_option maxRecDepth 65536 in
theorem w_alone : about1.alone = true := by decide +kernel
set_option maxRecDepth 65536 in
theorem w_named : about1.methodNamed? x = some theMethod := by decide +kernel
set_option maxRecDepth 65536 in
theorem w_hears : about1.hears theMethod below0 = true := by decide +kernel
set_option maxRecDepth 65536 in
theorem w_ripe : about1.ripe theMethod args0 below0 = true := by decide +kernel
theorem w_running : about1.status = .running := rfl
set_option maxRecDepth 65536 in
theorem w_room : about1.hasRoom e0.platform room_1 = true :=
  launch0.hasRoom_least _ room_1 (by decide +kernel) (by decide +kernel) (by decide +kernel) (by decide +kernel) (by decide +kernel) (by decide +kernel)
theorem allAtoms_all (ts : List Jvm.Cond) (a : Array Jvm.Value) (st : Jvm.State) : (allAtoms ts).before a st = ts.all (fun c => c.before a st) := by
  induction ts with
  | nil => rfl
  | cons c t ih =>
    show (Jvm.Cond.and c (allAtoms t)).before a st = _
    rw [Jvm.Cond.before_and, ih, List.all_cons]
def words1 : List Jvm.Cond := Jvm.Cond.code x code maxLocals ret :: tables_1
/-- a 'code' word, met by the world's own term for the bytes: nothing is compared byte by byte -/
theorem code_word {y : MethodName} {bytes : ByteArray} {mx : Nat} {rt : Option FieldType} {a : Array Value} {s : State} {m : MethodId} {meth : Method} {c : Code} (h1 : s.methodNamed? y = some m) (h2 : s.vm.method? m = some meth) (h3 : meth.code = some c) (h4 : c.code = bytes)
    (h5 : (c.maxLocals == mx && c.exceptionTable.isEmpty && decide (c.maxStack ≤ mostOperands) && decide (meth.sig.returnType = rt) && !meth.locks && decide (parseMethodDescriptor y.desc = some meth.sig)) = true) : (Jvm.Cond.code y bytes mx rt).before a s = true := by
  simp only [Bool.and_eq_true, beq_iff_eq, Bool.not_eq_true', decide_eq_true_eq] at h5
  obtain ⟨⟨⟨⟨⟨g1, g2⟩, g3⟩, g4⟩, g5⟩, g6⟩ := h5
  simp [Cond.before, Cond.holds, Cond.value, h1, h2, h3, h4, g1, g2, g3, g4, g5, g6]
def isCode : Jvm.Cond → Bool
  | .code _ _ _ _ => true
  | _ => false
theorem all_split {L : List Jvm.Cond} {P : Jvm.Cond → Bool} (h1 : L.all (fun c => isCode c || P c) = true) (h2 : ∀ c ∈ L.filter isCode, P c = true) : L.all P = true := by
  refine List.all_eq_true.mpr fun c hc => ?_
  have h := List.all_eq_true.mp h1 c hc
  rcases Bool.eq_false_or_eq_true (isCode c) with hi | hi
  · exact h2 c (List.mem_filter.mpr ⟨hc, hi⟩)
  · simpa [hi] using h
set_option maxRecDepth 65536 in
theorem w_c0 : (Jvm.Cond.code x code maxLocals ret).before args0 about1 = true := code_word (m := ⟨1, 1⟩) (meth := k1m1) (c := k1c1) (by decide +kernel) rfl rfl rfl (by decide +kernel)
set_option maxRecDepth 65536 in
theorem w_c1 : (Jvm.Cond.code ({ cls := "com/example/atomicity/atomicity/cdc/DecimalReaderReadPinLaw", name := "byteAt", desc := "(JII)I" } : Jvm.MethodName) method_3_code (4 : Nat) (Option.some Jvm.ClassFile.FieldType.int)).before args0 about1 = true := code_word (m := ⟨1, 2⟩) (meth := k1m2) (c := k1c2) (by decide +kernel) rfl rfl rfl (by decide +kernel)
set_option maxRecDepth 65536 in
theorem w_c2 : (Jvm.Cond.code ({ cls := "com/example/atomicity/atomicity/cdc/DecimalReaderReadPinLaw", name := "group", desc := "([CIIIII)V" } : Jvm.MethodName) method_4_code (7 : Nat) (Option.none : Option Jvm.ClassFile.FieldType)).before args0 about1 = true := code_word (m := ⟨1, 3⟩) (meth := k1m3) (c := k1c3) (by decide +kernel) rfl rfl rfl (by decide +kernel)
set_option maxRecDepth 65536 in
theorem w_c3 : (Jvm.Cond.code ({ cls := "com/example/atomicity/atomicity/cdc/DecimalReaderReadPinLaw", name := "sym", desc := "(I)C" } : Jvm.MethodName) method_5_code (1 : Nat) (Option.some Jvm.ClassFile.FieldType.char)).before args0 about1 = true := code_word (m := ⟨1, 4⟩) (meth := k1m4) (c := k1c4) (by decide +kernel) rfl rfl rfl (by decide +kernel)
set_option maxRecDepth 65536 in
theorem w_c4 : (Jvm.Cond.code ({ cls := "java/lang/String", name := "<init>", desc := "([C)V" } : Jvm.MethodName) jdk_42_method_3_code (2 : Nat) (Option.none : Option Jvm.ClassFile.FieldType)).before args0 about1 = true := code_word (m := ⟨7, 1⟩) (meth := k7m1) (c := k7c1) (by decide +kernel) rfl rfl rfl (by decide +kernel)
set_option maxRecDepth 65536 in
theorem w_c5 : (Jvm.Cond.code ({ cls := "java/lang/String", name := "<init>", desc := "([CIILjava/lang/Void;)V" } : Jvm.MethodName) jdk_42_method_149_code (6 : Nat) (Option.none : Option Jvm.ClassFile.FieldType)).before args0 about1 = true := code_word (m := ⟨7, 6⟩) (meth := k7m6) (c := k7c6) (by decide +kernel) rfl rfl rfl (by decide +kernel)
set_option maxRecDepth 65536 in
theorem w_c6 : (Jvm.Cond.code ({ cls := "java/lang/Object", name := "<init>", desc := "()V" } : Jvm.MethodName) object_method_1_code (1 : Nat) (Option.none : Option Jvm.ClassFile.FieldType)).before args0 about1 = true := code_word (m := ⟨0, 0⟩) (meth := k0m0) (c := k0c0) (by decide +kernel) rfl rfl rfl (by decide +kernel)
set_option maxRecDepth 65536 in
theorem w_c7 : (Jvm.Cond.code ({ cls := "java/lang/StringUTF16", name := "compress", desc := "([CII)[B" } : Jvm.MethodName) jdk_52_method_16_code (6 : Nat) (Option.some (Jvm.ClassFile.FieldType.array Jvm.ClassFile.FieldType.byte))).before args0 about1 = true := code_word (m := ⟨8, 2⟩) (meth := k8m2) (c := k8c2) (by decide +kernel) rfl rfl rfl (by decide +kernel)
set_option maxRecDepth 65536 in
theorem w_c8 : (Jvm.Cond.code ({ cls := "java/lang/StringUTF16", name := "compress", desc := "([CI[BII)I" } : Jvm.MethodName) jdk_52_method_21_code (7 : Nat) (Option.some Jvm.ClassFile.FieldType.int)).before args0 about1 = true := code_word (m := ⟨8, 3⟩) (meth := k8m3) (c := k8c3) (by decide +kernel) rfl rfl rfl (by decide +kernel)
set_option maxRecDepth 65536 in
theorem w_c9 : (Jvm.Cond.code ({ cls := "java/lang/StringUTF16", name := "coderFromArrayLen", desc := "([BI)B" } : Jvm.MethodName) jdk_52_method_15_code (2 : Nat) (Option.some Jvm.ClassFile.FieldType.byte)).before args0 about1 = true := code_word (m := ⟨8, 1⟩) (meth := k8m1) (c := k8c1) (by decide +kernel) rfl rfl rfl (by decide +kernel)
set_option maxRecDepth 65536 in
theorem w_c10 : (Jvm.Cond.code ({ cls := "com/example/atomicity/atomicity/cdc/DecimalReader", name := "<init>", desc := "(I)V" } : Jvm.MethodName) prog_3_method_1_code (2 : Nat) (Option.none : Option Jvm.ClassFile.FieldType)).before args0 about1 = true := code_word (m := ⟨10, 0⟩) (meth := k10m0) (c := k10c0) (by decide +kernel) rfl rfl rfl (by decide +kernel)
set_option maxRecDepth 65536 in
theorem w_c11 : (Jvm.Cond.code ({ cls := "java/util/Objects", name := "requireNonNull", desc := "(Ljava/lang/Object;Ljava/lang/String;)Ljava/lang/Object;" } : Jvm.MethodName) jdk_31_method_11_code (2 : Nat) (Option.some (Jvm.ClassFile.FieldType.object "java/lang/Object"))).before args0 about1 = true := code_word (m := ⟨11, 1⟩) (meth := k11m1) (c := k11c1) (by decide +kernel) rfl rfl rfl (by decide +kernel)
set_option maxRecDepth 65536 in
theorem w_c12 : (Jvm.Cond.code ({ cls := "java/util/Base64", name := "getDecoder", desc := "()Ljava/util/Base64$Decoder;" } : Jvm.MethodName) jdk_2448_method_6_code (0 : Nat) (Option.some (Jvm.ClassFile.FieldType.object "java/util/Base64$Decoder"))).before args0 about1 = true := code_word (m := ⟨12, 1⟩) (meth := k12m1) (c := k12c1) (by decide +kernel) rfl rfl rfl (by decide +kernel)
set_option maxRecDepth 65536 in
theorem w_c13 : (Jvm.Cond.code ({ cls := "java/util/Base64$Decoder", name := "decode", desc := "(Ljava/lang/String;)[B" } : Jvm.MethodName) jdk_2450_method_3_code (2 : Nat) (Option.some (Jvm.ClassFile.FieldType.array Jvm.ClassFile.FieldType.byte))).before args0 about1 = true := code_word (m := ⟨13, 1⟩) (meth := k13m1) (c := k13c1) (by decide +kernel) rfl rfl rfl (by decide +kernel)
set_option maxRecDepth 65536 in
theorem w_c14 : (Jvm.Cond.code ({ cls := "java/lang/String", name := "getBytes", desc := "(Ljava/nio/charset/Charset;)[B" } : Jvm.MethodName) jdk_42_method_64_code (2 : Nat) (Option.some (Jvm.ClassFile.FieldType.array Jvm.ClassFile.FieldType.byte))).before args0 about1 = true := code_word (m := ⟨7, 5⟩) (meth := k7m5) (c := k7c5) (by decide +kernel) rfl rfl rfl (by decide +kernel)
set_option maxRecDepth 65536 in
theorem w_c15 : (Jvm.Cond.code ({ cls := "java/lang/String", name := "coder", desc := "()B" } : Jvm.MethodName) jdk_42_method_152_code (1 : Nat) (Option.some Jvm.ClassFile.FieldType.byte)).before args0 about1 = true := code_word (m := ⟨7, 7⟩) (meth := k7m7) (c := k7c7) (by decide +kernel) rfl rfl rfl (by decide +kernel)
set_option maxRecDepth 65536 in
theorem w_c16 : (Jvm.Cond.code ({ cls := "java/lang/String", name := "encode", desc := "(Ljava/nio/charset/Charset;B[B)[B" } : Jvm.MethodName) jdk_42_method_18_code (3 : Nat) (Option.some (Jvm.ClassFile.FieldType.array Jvm.ClassFile.FieldType.byte))).before args0 about1 = true := code_word (m := ⟨7, 2⟩) (meth := k7m2) (c := k7c2) (by decide +kernel) rfl rfl rfl (by decide +kernel)
set_option maxRecDepth 65536 in
theorem w_c17 : (Jvm.Cond.code ({ cls := "java/lang/String", name := "encode8859_1", desc := "(B[B)[B" } : Jvm.MethodName) jdk_42_method_26_code (2 : Nat) (Option.some (Jvm.ClassFile.FieldType.array Jvm.ClassFile.FieldType.byte))).before args0 about1 = true := code_word (m := ⟨7, 3⟩) (meth := k7m3) (c := k7c3) (by decide +kernel) rfl rfl rfl (by decide +kernel)
set_option maxRecDepth 65536 in
theorem w_c18 : (Jvm.Cond.code ({ cls := "java/lang/String", name := "encode8859_1", desc := "(B[BZ)[B" } : Jvm.MethodName) jdk_42_method_27_code (10 : Nat) (Option.some (Jvm.ClassFile.FieldType.array Jvm.ClassFile.FieldType.byte))).before args0 about1 = true := code_word (m := ⟨7, 4⟩) (meth := k7m4) (c := k7c4) (by decide +kernel) rfl rfl rfl (by decide +kernel)
set_option maxRecDepth 65536 in
theorem w_c19 : (Jvm.Cond.code ({ cls := "java/util/Base64$Decoder", name := "decode", desc := "([B)[B" } : Jvm.MethodName) jdk_2450_method_2_code (4 : Nat) (Option.some (Jvm.ClassFile.FieldType.array Jvm.ClassFile.FieldType.byte))).before args0 about1 = true := code_word (m := ⟨13, 0⟩) (meth := k13m0) (c := k13c0) (by decide +kernel) rfl rfl rfl (by decide +kernel)
set_option maxRecDepth 65536 in
theorem w_c20 : (Jvm.Cond.code ({ cls := "java/util/Base64$Decoder", name := "decodedOutLength", desc := "([BII)I" } : Jvm.MethodName) jdk_2450_method_7_code (9 : Nat) (Option.some Jvm.ClassFile.FieldType.int)).before args0 about1 = true := code_word (m := ⟨13, 2⟩) (meth := k13m2) (c := k13c2) (by decide +kernel) rfl rfl rfl (by decide +kernel)
set_option maxRecDepth 65536 in
theorem w_c21 : (Jvm.Cond.code ({ cls := "java/util/Base64$Decoder", name := "decode0", desc := "([BII[B)I" } : Jvm.MethodName) jdk_2450_method_9_code (11 : Nat) (Option.some Jvm.ClassFile.FieldType.int)).before args0 about1 = true := code_word (m := ⟨13, 4⟩) (meth := k13m4) (c := k13c4) (by decide +kernel) rfl rfl rfl (by decide +kernel)
set_option maxRecDepth 65536 in
theorem w_c22 : (Jvm.Cond.code ({ cls := "java/math/BigInteger", name := "<init>", desc := "([B)V" } : Jvm.MethodName) jdk_2097_method_2_code (2 : Nat) (Option.none : Option Jvm.ClassFile.FieldType)).before args0 about1 = true := code_word (m := ⟨22, 1⟩) (meth := k22m1) (c := k22c1) (by decide +kernel) rfl rfl rfl (by decide +kernel)
set_option maxRecDepth 65536 in
theorem w_c23 : (Jvm.Cond.code ({ cls := "java/math/BigInteger", name := "<init>", desc := "([BII)V" } : Jvm.MethodName) jdk_2097_method_1_code (5 : Nat) (Option.none : Option Jvm.ClassFile.FieldType)).before args0 about1 = true := code_word (m := ⟨22, 0⟩) (meth := k22m0) (c := k22c0) (by decide +kernel) rfl rfl rfl (by decide +kernel)
set_option maxRecDepth 65536 in
theorem w_c24 : (Jvm.Cond.code ({ cls := "java/lang/Number", name := "<init>", desc := "()V" } : Jvm.MethodName) jdk_18_method_1_code (1 : Nat) (Option.none : Option Jvm.ClassFile.FieldType)).before args0 about1 = true := code_word (m := ⟨20, 0⟩) (meth := k20m0) (c := k20c0) (by decide +kernel) rfl rfl rfl (by decide +kernel)
set_option maxRecDepth 65536 in
theorem w_c25 : (Jvm.Cond.code ({ cls := "java/util/Objects", name := "checkFromIndexSize", desc := "(III)I" } : Jvm.MethodName) jdk_31_method_19_code (3 : Nat) (Option.some Jvm.ClassFile.FieldType.int)).before args0 about1 = true := code_word (m := ⟨11, 2⟩) (meth := k11m2) (c := k11c2) (by decide +kernel) rfl rfl rfl (by decide +kernel)
set_option maxRecDepth 65536 in
theorem w_c26 : (Jvm.Cond.code ({ cls := "jdk/internal/util/Preconditions", name := "checkFromIndexSize", desc := "(IIILjava/util/function/BiFunction;)I" } : Jvm.MethodName) jdk_41_method_13_code (4 : Nat) (Option.some Jvm.ClassFile.FieldType.int)).before args0 about1 = true := code_word (m := ⟨23, 1⟩) (meth := k23m1) (c := k23c1) (by decide +kernel) rfl rfl rfl (by decide +kernel)
set_option maxRecDepth 65536 in
theorem w_c27 : (Jvm.Cond.code ({ cls := "java/math/BigInteger", name := "stripLeadingZeroBytes", desc := "(I[BII)[I" } : Jvm.MethodName) jdk_2097_method_142_code (8 : Nat) (Option.some (Jvm.ClassFile.FieldType.array Jvm.ClassFile.FieldType.int))).before args0 about1 = true := code_word (m := ⟨22, 5⟩) (meth := k22m5) (c := k22c5) (by decide +kernel) rfl rfl rfl (by decide +kernel)
set_option maxRecDepth 65536 in
theorem w_c28 : (Jvm.Cond.code ({ cls := "java/math/BigDecimal", name := "<init>", desc := "(Ljava/math/BigInteger;I)V" } : Jvm.MethodName) jdk_17_method_14_code (3 : Nat) (Option.none : Option Jvm.ClassFile.FieldType)).before args0 about1 = true := code_word (m := ⟨21, 1⟩) (meth := k21m1) (c := k21c1) (by decide +kernel) rfl rfl rfl (by decide +kernel)
set_option maxRecDepth 65536 in
theorem w_c29 : (Jvm.Cond.code ({ cls := "java/math/BigDecimal", name := "toStrictBigInteger", desc := "(Ljava/math/BigInteger;)Ljava/math/BigInteger;" } : Jvm.MethodName) jdk_17_method_11_code (1 : Nat) (Option.some (Jvm.ClassFile.FieldType.object "java/math/BigInteger"))).before args0 about1 = true := code_word (m := ⟨21, 0⟩) (meth := k21m0) (c := k21c0) (by decide +kernel) rfl rfl rfl (by decide +kernel)
set_option maxRecDepth 65536 in
theorem w_c30 : (Jvm.Cond.code ({ cls := "java/math/BigDecimal", name := "compactValFor", desc := "(Ljava/math/BigInteger;)J" } : Jvm.MethodName) jdk_17_method_107_code (6 : Nat) (Option.some Jvm.ClassFile.FieldType.long)).before args0 about1 = true := code_word (m := ⟨21, 5⟩) (meth := k21m5) (c := k21c5) (by decide +kernel) rfl rfl rfl (by decide +kernel)
set_option maxRecDepth 65536 in
theorem w_c31 : (Jvm.Cond.code ({ cls := "java/math/BigDecimal", name := "scale", desc := "()I" } : Jvm.MethodName) jdk_17_method_59_code (1 : Nat) (Option.some Jvm.ClassFile.FieldType.int)).before args0 about1 = true := code_word (m := ⟨21, 2⟩) (meth := k21m2) (c := k21c2) (by decide +kernel) rfl rfl rfl (by decide +kernel)
set_option maxRecDepth 65536 in
theorem w_c32 : (Jvm.Cond.code ({ cls := "java/math/BigDecimal", name := "unscaledValue", desc := "()Ljava/math/BigInteger;" } : Jvm.MethodName) jdk_17_method_61_code (1 : Nat) (Option.some (Jvm.ClassFile.FieldType.object "java/math/BigInteger"))).before args0 about1 = true := code_word (m := ⟨21, 3⟩) (meth := k21m3) (c := k21c3) (by decide +kernel) rfl rfl rfl (by decide +kernel)
set_option maxRecDepth 65536 in
theorem w_c33 : (Jvm.Cond.code ({ cls := "java/math/BigDecimal", name := "inflated", desc := "()Ljava/math/BigInteger;" } : Jvm.MethodName) jdk_17_method_99_code (1 : Nat) (Option.some (Jvm.ClassFile.FieldType.object "java/math/BigInteger"))).before args0 about1 = true := code_word (m := ⟨21, 4⟩) (meth := k21m4) (c := k21c4) (by decide +kernel) rfl rfl rfl (by decide +kernel)
set_option maxRecDepth 65536 in
theorem w_c34 : (Jvm.Cond.code ({ cls := "java/math/BigInteger", name := "bitLength", desc := "()I" } : Jvm.MethodName) jdk_2097_method_118_code (7 : Nat) (Option.some Jvm.ClassFile.FieldType.int)).before args0 about1 = true := code_word (m := ⟨22, 3⟩) (meth := k22m3) (c := k22c3) (by decide +kernel) rfl rfl rfl (by decide +kernel)
set_option maxRecDepth 65536 in
theorem w_c35 : (Jvm.Cond.code ({ cls := "java/math/BigInteger", name := "bitLengthForInt", desc := "(I)I" } : Jvm.MethodName) jdk_2097_method_74_code (1 : Nat) (Option.some Jvm.ClassFile.FieldType.int)).before args0 about1 = true := code_word (m := ⟨22, 2⟩) (meth := k22m2) (c := k22c2) (by decide +kernel) rfl rfl rfl (by decide +kernel)
set_option maxRecDepth 65536 in
theorem w_c36 : (Jvm.Cond.code ({ cls := "java/lang/Integer", name := "numberOfLeadingZeros", desc := "(I)I" } : Jvm.MethodName) jdk_33_method_47_code (2 : Nat) (Option.some Jvm.ClassFile.FieldType.int)).before args0 about1 = true := code_word (m := ⟨24, 0⟩) (meth := k24m0) (c := k24c0) (by decide +kernel) rfl rfl rfl (by decide +kernel)
set_option maxRecDepth 65536 in
theorem w_c37 : (Jvm.Cond.code ({ cls := "java/math/BigInteger", name := "longValue", desc := "()J" } : Jvm.MethodName) jdk_2097_method_136_code (4 : Nat) (Option.some Jvm.ClassFile.FieldType.long)).before args0 about1 = true := code_word (m := ⟨22, 4⟩) (meth := k22m4) (c := k22c4) (by decide +kernel) rfl rfl rfl (by decide +kernel)
set_option maxRecDepth 65536 in
theorem w_c38 : (Jvm.Cond.code ({ cls := "java/math/BigInteger", name := "getInt", desc := "(I)I" } : Jvm.MethodName) jdk_2097_method_148_code (3 : Nat) (Option.some Jvm.ClassFile.FieldType.int)).before args0 about1 = true := code_word (m := ⟨22, 8⟩) (meth := k22m8) (c := k22c8) (by decide +kernel) rfl rfl rfl (by decide +kernel)
set_option maxRecDepth 65536 in
theorem w_c39 : (Jvm.Cond.code ({ cls := "java/math/BigInteger", name := "signInt", desc := "()I" } : Jvm.MethodName) jdk_2097_method_147_code (1 : Nat) (Option.some Jvm.ClassFile.FieldType.int)).before args0 about1 = true := code_word (m := ⟨22, 7⟩) (meth := k22m7) (c := k22c7) (by decide +kernel) rfl rfl rfl (by decide +kernel)
set_option maxRecDepth 65536 in
theorem w_c40 : (Jvm.Cond.code ({ cls := "java/util/Base64$Decoder", name := "decodeBlock", desc := "([BII[BIZZ)I" } : Jvm.MethodName) jdk_2450_method_8_code (16 : Nat) (Option.some Jvm.ClassFile.FieldType.int)).before args0 about1 = true := code_word (m := ⟨13, 3⟩) (meth := k13m3) (c := k13c3) (by decide +kernel) rfl rfl rfl (by decide +kernel)
set_option maxRecDepth 65536 in
theorem w_c41 : (Jvm.Cond.code ({ cls := "java/math/BigInteger", name := "makePositive", desc := "(I[BII)[I" } : Jvm.MethodName) jdk_2097_method_143_code (11 : Nat) (Option.some (Jvm.ClassFile.FieldType.array Jvm.ClassFile.FieldType.int))).before args0 about1 = true := code_word (m := ⟨22, 6⟩) (meth := k22m6) (c := k22c6) (by decide +kernel) rfl rfl rfl (by decide +kernel)
set_option maxRecDepth 65536 in
theorem w_c42 : (Jvm.Cond.code ({ cls := "java/lang/Integer", name := "bitCount", desc := "(I)I" } : Jvm.MethodName) jdk_33_method_49_code (1 : Nat) (Option.some Jvm.ClassFile.FieldType.int)).before args0 about1 = true := code_word (m := ⟨24, 1⟩) (meth := k24m1) (c := k24c1) (by decide +kernel) rfl rfl rfl (by decide +kernel)
set_option maxRecDepth 65536 in
theorem w_c43 : (Jvm.Cond.code ({ cls := "java/math/BigInteger", name := "firstNonzeroIntNum", desc := "()I" } : Jvm.MethodName) jdk_2097_method_149_code (4 : Nat) (Option.some Jvm.ClassFile.FieldType.int)).before args0 about1 = true := code_word (m := ⟨22, 9⟩) (meth := k22m9) (c := k22c9) (by decide +kernel) rfl rfl rfl (by decide +kernel)
def codes1 : List Jvm.Cond := [Jvm.Cond.code x code maxLocals ret, Jvm.Cond.code ({ cls := "com/example/atomicity/atomicity/cdc/DecimalReaderReadPinLaw", name := "byteAt", desc := "(JII)I" } : Jvm.MethodName) method_3_code (4 : Nat) (Option.some Jvm.ClassFile.FieldType.int), Jvm.Cond.code ({ cls := "com/example/atomicity/atomicity/cdc/DecimalReaderReadPinLaw", name := "group", desc := "([CIIIII)V" } : Jvm.MethodName) method_4_code (7 : Nat) (Option.none : Option Jvm.ClassFile.FieldType), Jvm.Cond.code ({ cls := "com/example/atomicity/atomicity/cdc/DecimalReaderReadPinLaw", name := "sym", desc := "(I)C" } : Jvm.MethodName) method_5_code (1 : Nat) (Option.some Jvm.ClassFile.FieldType.char), Jvm.Cond.code ({ cls := "java/lang/String", name := "<init>", desc := "([C)V" } : Jvm.MethodName) jdk_42_method_3_code (2 : Nat) (Option.none : Option Jvm.ClassFile.FieldType), Jvm.Cond.code ({ cls := "java/lang/String", name := "<init>", desc := "([CIILjava/lang/Void;)V" } : Jvm.MethodName) jdk_42_method_149_code (6 : Nat) (Option.none : Option Jvm.ClassFile.FieldType), Jvm.Cond.code ({ cls := "java/lang/Object", name := "<init>", desc := "()V" } : Jvm.MethodName) object_method_1_code (1 : Nat) (Option.none : Option Jvm.ClassFile.FieldType), Jvm.Cond.code ({ cls := "java/lang/StringUTF16", name := "compress", desc := "([CII)[B" } : Jvm.MethodName) jdk_52_method_16_code (6 : Nat) (Option.some (Jvm.ClassFile.FieldType.array Jvm.ClassFile.FieldType.byte)), Jvm.Cond.code ({ cls := "java/lang/StringUTF16", name := "compress", desc := "([CI[BII)I" } : Jvm.MethodName) jdk_52_method_21_code (7 : Nat) (Option.some Jvm.ClassFile.FieldType.int), Jvm.Cond.code ({ cls := "java/lang/StringUTF16", name := "coderFromArrayLen", desc := "([BI)B" } : Jvm.MethodName) jdk_52_method_15_code (2 : Nat) (Option.some Jvm.ClassFile.FieldType.byte), Jvm.Cond.code ({ cls := "com/example/atomicity/atomicity/cdc/DecimalReader", name := "<init>", desc := "(I)V" } : Jvm.MethodName) prog_3_method_1_code (2 : Nat) (Option.none : Option Jvm.ClassFile.FieldType), Jvm.Cond.code ({ cls := "java/util/Objects", name := "requireNonNull", desc := "(Ljava/lang/Object;Ljava/lang/String;)Ljava/lang/Object;" } : Jvm.MethodName) jdk_31_method_11_code (2 : Nat) (Option.some (Jvm.ClassFile.FieldType.object "java/lang/Object")), Jvm.Cond.code ({ cls := "java/util/Base64", name := "getDecoder", desc := "()Ljava/util/Base64$Decoder;" } : Jvm.MethodName) jdk_2448_method_6_code (0 : Nat) (Option.some (Jvm.ClassFile.FieldType.object "java/util/Base64$Decoder")), Jvm.Cond.code ({ cls := "java/util/Base64$Decoder", name := "decode", desc := "(Ljava/lang/String;)[B" } : Jvm.MethodName) jdk_2450_method_3_code (2 : Nat) (Option.some (Jvm.ClassFile.FieldType.array Jvm.ClassFile.FieldType.byte)), Jvm.Cond.code ({ cls := "java/lang/String", name := "getBytes", desc := "(Ljava/nio/charset/Charset;)[B" } : Jvm.MethodName) jdk_42_method_64_code (2 : Nat) (Option.some (Jvm.ClassFile.FieldType.array Jvm.ClassFile.FieldType.byte)), Jvm.Cond.code ({ cls := "java/lang/String", name := "coder", desc := "()B" } : Jvm.MethodName) jdk_42_method_152_code (1 : Nat) (Option.some Jvm.ClassFile.FieldType.byte), Jvm.Cond.code ({ cls := "java/lang/String", name := "encode", desc := "(Ljava/nio/charset/Charset;B[B)[B" } : Jvm.MethodName) jdk_42_method_18_code (3 : Nat) (Option.some (Jvm.ClassFile.FieldType.array Jvm.ClassFile.FieldType.byte)), Jvm.Cond.code ({ cls := "java/lang/String", name := "encode8859_1", desc := "(B[B)[B" } : Jvm.MethodName) jdk_42_method_26_code (2 : Nat) (Option.some (Jvm.ClassFile.FieldType.array Jvm.ClassFile.FieldType.byte)), Jvm.Cond.code ({ cls := "java/lang/String", name := "encode8859_1", desc := "(B[BZ)[B" } : Jvm.MethodName) jdk_42_method_27_code (10 : Nat) (Option.some (Jvm.ClassFile.FieldType.array Jvm.ClassFile.FieldType.byte)), Jvm.Cond.code ({ cls := "java/util/Base64$Decoder", name := "decode", desc := "([B)[B" } : Jvm.MethodName) jdk_2450_method_2_code (4 : Nat) (Option.some (Jvm.ClassFile.FieldType.array Jvm.ClassFile.FieldType.byte)), Jvm.Cond.code ({ cls := "java/util/Base64$Decoder", name := "decodedOutLength", desc := "([BII)I" } : Jvm.MethodName) jdk_2450_method_7_code (9 : Nat) (Option.some Jvm.ClassFile.FieldType.int), Jvm.Cond.code ({ cls := "java/util/Base64$Decoder", name := "decode0", desc := "([BII[B)I" } : Jvm.MethodName) jdk_2450_method_9_code (11 : Nat) (Option.some Jvm.ClassFile.FieldType.int), Jvm.Cond.code ({ cls := "java/math/BigInteger", name := "<init>", desc := "([B)V" } : Jvm.MethodName) jdk_2097_method_2_code (2 : Nat) (Option.none : Option Jvm.ClassFile.FieldType), Jvm.Cond.code ({ cls := "java/math/BigInteger", name := "<init>", desc := "([BII)V" } : Jvm.MethodName) jdk_2097_method_1_code (5 : Nat) (Option.none : Option Jvm.ClassFile.FieldType), Jvm.Cond.code ({ cls := "java/lang/Number", name := "<init>", desc := "()V" } : Jvm.MethodName) jdk_18_method_1_code (1 : Nat) (Option.none : Option Jvm.ClassFile.FieldType), Jvm.Cond.code ({ cls := "java/util/Objects", name := "checkFromIndexSize", desc := "(III)I" } : Jvm.MethodName) jdk_31_method_19_code (3 : Nat) (Option.some Jvm.ClassFile.FieldType.int), Jvm.Cond.code ({ cls := "jdk/internal/util/Preconditions", name := "checkFromIndexSize", desc := "(IIILjava/util/function/BiFunction;)I" } : Jvm.MethodName) jdk_41_method_13_code (4 : Nat) (Option.some Jvm.ClassFile.FieldType.int), Jvm.Cond.code ({ cls := "java/math/BigInteger", name := "stripLeadingZeroBytes", desc := "(I[BII)[I" } : Jvm.MethodName) jdk_2097_method_142_code (8 : Nat) (Option.some (Jvm.ClassFile.FieldType.array Jvm.ClassFile.FieldType.int)), Jvm.Cond.code ({ cls := "java/math/BigDecimal", name := "<init>", desc := "(Ljava/math/BigInteger;I)V" } : Jvm.MethodName) jdk_17_method_14_code (3 : Nat) (Option.none : Option Jvm.ClassFile.FieldType), Jvm.Cond.code ({ cls := "java/math/BigDecimal", name := "toStrictBigInteger", desc := "(Ljava/math/BigInteger;)Ljava/math/BigInteger;" } : Jvm.MethodName) jdk_17_method_11_code (1 : Nat) (Option.some (Jvm.ClassFile.FieldType.object "java/math/BigInteger")), Jvm.Cond.code ({ cls := "java/math/BigDecimal", name := "compactValFor", desc := "(Ljava/math/BigInteger;)J" } : Jvm.MethodName) jdk_17_method_107_code (6 : Nat) (Option.some Jvm.ClassFile.FieldType.long), Jvm.Cond.code ({ cls := "java/math/BigDecimal", name := "scale", desc := "()I" } : Jvm.MethodName) jdk_17_method_59_code (1 : Nat) (Option.some Jvm.ClassFile.FieldType.int), Jvm.Cond.code ({ cls := "java/math/BigDecimal", name := "unscaledValue", desc := "()Ljava/math/BigInteger;" } : Jvm.MethodName) jdk_17_method_61_code (1 : Nat) (Option.some (Jvm.ClassFile.FieldType.object "java/math/BigInteger")), Jvm.Cond.code ({ cls := "java/math/BigDecimal", name := "inflated", desc := "()Ljava/math/BigInteger;" } : Jvm.MethodName) jdk_17_method_99_code (1 : Nat) (Option.some (Jvm.ClassFile.FieldType.object "java/math/BigInteger")), Jvm.Cond.code ({ cls := "java/math/BigInteger", name := "bitLength", desc := "()I" } : Jvm.MethodName) jdk_2097_method_118_code (7 : Nat) (Option.some Jvm.ClassFile.FieldType.int), Jvm.Cond.code ({ cls := "java/math/BigInteger", name := "bitLengthForInt", desc := "(I)I" } : Jvm.MethodName) jdk_2097_method_74_code (1 : Nat) (Option.some Jvm.ClassFile.FieldType.int), Jvm.Cond.code ({ cls := "java/lang/Integer", name := "numberOfLeadingZeros", desc := "(I)I" } : Jvm.MethodName) jdk_33_method_47_code (2 : Nat) (Option.some Jvm.ClassFile.FieldType.int), Jvm.Cond.code ({ cls := "java/math/BigInteger", name := "longValue", desc := "()J" } : Jvm.MethodName) jdk_2097_method_136_code (4 : Nat) (Option.some Jvm.ClassFile.FieldType.long), Jvm.Cond.code ({ cls := "java/math/BigInteger", name := "getInt", desc := "(I)I" } : Jvm.MethodName) jdk_2097_method_148_code (3 : Nat) (Option.some Jvm.ClassFile.FieldType.int), Jvm.Cond.code ({ cls := "java/math/BigInteger", name := "signInt", desc := "()I" } : Jvm.MethodName) jdk_2097_method_147_code (1 : Nat) (Option.some Jvm.ClassFile.FieldType.int), Jvm.Cond.code ({ cls := "java/util/Base64$Decoder", name := "decodeBlock", desc := "([BII[BIZZ)I" } : Jvm.MethodName) jdk_2450_method_8_code (16 : Nat) (Option.some Jvm.ClassFile.FieldType.int), Jvm.Cond.code ({ cls := "java/math/BigInteger", name := "makePositive", desc := "(I[BII)[I" } : Jvm.MethodName) jdk_2097_method_143_code (11 : Nat) (Option.some (Jvm.ClassFile.FieldType.array Jvm.ClassFile.FieldType.int)), Jvm.Cond.code ({ cls := "java/lang/Integer", name := "bitCount", desc := "(I)I" } : Jvm.MethodName) jdk_33_method_49_code (1 : Nat) (Option.some Jvm.ClassFile.FieldType.int), Jvm.Cond.code ({ cls := "java/math/BigInteger", name := "firstNonzeroIntNum", desc := "()I" } : Jvm.MethodName) jdk_2097_method_149_code (4 : Nat) (Option.some Jvm.ClassFile.FieldType.int)]
set_option maxRecDepth 65536 in
theorem codes_eq : words1.filter isCode = codes1 := rfl
theorem w_codes : ∀ c ∈ words1.filter isCode, c.before args0 about1 = true := by
  rw [codes_eq]
  intro c hc
  simp only [codes1, List.mem_cons, List.not_mem_nil, or_false] at hc
  rcases hc with rfl | rfl | rfl | rfl | rfl | rfl | rfl | rfl | rfl | rfl | rfl | rfl | rfl | rfl | rfl | rfl | rfl | rfl | rfl | rfl | rfl | rfl | rfl | rfl | rfl | rfl | rfl | rfl | rfl | rfl | rfl | rfl | rfl | rfl | rfl | rfl | rfl | rfl | rfl | rfl | rfl | rfl | rfl | rfl
  · exact w_c0
  · exact w_c1
  · exact w_c2
  · exact w_c3
  · exact w_c4
  · exact w_c5
  · exact w_c6
  · exact w_c7
  · exact w_c8
  · exact w_c9
  · exact w_c10
  · exact w_c11
  · exact w_c12
  · exact w_c13
  · exact w_c14
  · exact w_c15
  · exact w_c16
  · exact w_c17
  · exact w_c18
  · exact w_c19
  · exact w_c20
  · exact w_c21
  · exact w_c22
  · exact w_c23
  · exact w_c24
  · exact w_c25
  · exact w_c26
  · exact w_c27
  · exact w_c28
  · exact w_c29
  · exact w_c30
  · exact w_c31
  · exact w_c32
  · exact w_c33
  · exact w_c34
  · exact w_c35
  · exact w_c36
  · exact w_c37
  · exact w_c38
  · exact w_c39
  · exact w_c40
  · exact w_c41
  · exact w_c42
  · exact w_c43
set_option maxRecDepth 65536 in
theorem w_t1 : (words1.take 24).all (fun c => isCode c || c.before args0 about1) = true := by decide +kernel
set_option maxRecDepth 65536 in
theorem w_t2 : ((words1.drop 24).take 24).all (fun c => isCode c || c.before args0 about1) = true := by decide +kernel
set_option maxRecDepth 65536 in
theorem w_t3 : (((words1.drop 24).drop 24).take 24).all (fun c => isCode c || c.before args0 about1) = true := by decide +kernel
set_option maxRecDepth 65536 in
theorem w_t4 : ((((words1.drop 24).drop 24).drop 24).take 24).all (fun c => isCode c || c.before args0 about1) = true := by decide +kernel
set_option maxRecDepth 65536 in
theorem w_t5 : (((((words1.drop 24).drop 24).drop 24).drop 24).take 24).all (fun c => isCode c || c.before args0 about1) = true := by decide +kernel
set_option maxRecDepth 65536 in
theorem w_t6 : ((((((words1.drop 24).drop 24).drop 24).drop 24).drop 24).take 24).all (fun c => isCode c || c.before args0 about1) = true := by decide +kernel
set_option maxRecDepth 65536 in
theorem w_t7 : (((((((words1.drop 24).drop 24).drop 24).drop 24).drop 24).drop 24).take 24).all (fun c => isCode c || c.before args0 about1) = true := by decide +kernel
set_option maxRecDepth 65536 in
theorem w_t8 : ((((((((words1.drop 24).drop 24).drop 24).drop 24).drop 24).drop 24).drop 24).take 24).all (fun c => isCode c || c.before args0 about1) = true := by decide +kernel
set_option maxRecDepth 65536 in
theorem w_t9 : (((((((((words1.drop 24).drop 24).drop 24).drop 24).drop 24).drop 24).drop 24).drop 24).take 24).all (fun c => isCode c || c.before args0 about1) = true := by decide +kernel
set_option maxRecDepth 65536 in
theorem w_t10 : ((((((((((words1.drop 24).drop 24).drop 24).drop 24).drop 24).drop 24).drop 24).drop 24).drop 24).take 24).all (fun c => isCode c || c.before args0 about1) = true := by decide +kernel
set_option maxRecDepth 65536 in
theorem w_t11 : ((((((((((words1.drop 24).drop 24).drop 24).drop 24).drop 24).drop 24).drop 24).drop 24).drop 24).drop 24).all (fun c => isCode c || c.before args0 about1) = true := by decide +kernel
theorem w_tables : (allAtoms (Jvm.Cond.code x code maxLocals ret :: tables_1)).before args0 about1 = true := by
  rw [allAtoms_all]
  show words1.all (fun c => c.before args0 about1) = true
  refine all_split ?_ w_codes
  rw [← List.take_append_drop 24 words1, List.all_append, w_t1, ← List.take_append_drop 24 (words1.drop 24), List.all_append, w_t2, ← List.take_append_drop 24 ((words1.drop 24).drop 24), List.all_append, w_t3, ← List.take_append_drop 24 (((words1.drop 24).drop 24).drop 24), List.all_append, w_t4, ← List.take_append_drop 24 ((((words1.drop 24).drop 24).drop 24).drop 24), List.all_append, w_t5, ← List.take_append_drop 24 (((((words1.drop 24).drop 24).drop 24).drop 24).drop 24), List.all_append, w_t6, ← List.take_append_drop 24 ((((((words1.drop 24).drop 24).drop 24).drop 24).drop 24).drop 24), List.all_append, w_t7, ← List.take_append_drop 24 (((((((words1.drop 24).drop 24).drop 24).drop 24).drop 24).drop 24).drop 24), List.all_append, w_t8, ← List.take_append_drop 24 ((((((((words1.drop 24).drop 24).drop 24).drop 24).drop 24).drop 24).drop 24).drop 24), List.all_append, w_t9, ← List.take_append_drop 24 (((((((((words1.drop 24).drop 24).drop 24).drop 24).drop 24).drop 24).drop 24).drop 24).drop 24), List.all_append, w_t10, w_t11]
  rfl
set_option maxRecDepth 65536 in
theorem w_rest : rest_1_c.before args0 about1 = true := by decide +kernel
set_option maxRecDepth 65536 in
theorem w_case : (Jvm.Cond.and given_1 narrow_1).before args0 about1 = true := by decide +kernel
theorem w_applies : (headSpec (Jvm.Cond.code x code maxLocals ret :: tables_1) room_1).applies x e0.platform about1 = true :=
  (Spec.applies_iff w_frames).mpr ⟨w_running, w_runnable, w_alone, w_named, w_hears, w_ripe, w_room, w_tables⟩
theorem atStart : AtStart classFile x code maxLocals ret World_1 tables_1 room_1 Calls_1 rest_1 Pre_1 launch0 p0 e0 about1 theMethod args0 below0 :=
  ⟨lists_1, trivial, launch0.admits_env _ _ _, launch0.least_env, fairChoices_fair.cas, fairChoices_fair.clock, w_frames, w_args, w_heap, w_applies, ⟨⟨22, k22, 6, by decide +kernel, rfl, rfl, _, rfl, rfl⟩, trivial⟩, w_rest, w_case⟩
end start1
theorem witness_1 : WitnessClaimed_1 := ⟨start1.p0, start1.e0, start1.about1, start1.theMethod, start1.args0, start1.below0, start1.atStart⟩
end Jvm.Pilot.@@N@@
