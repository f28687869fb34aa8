import JvmDerived
import JvmDerived.Pilot.@@N@@Statement
import JvmDerived.Pilot.@@N@@Code
set_option linter.unusedVariables false
set_option linter.unusedSimpArgs false
namespace Jvm.Own
open Jvm Jvm.ClassFile Sem Op Lib Jvm.Free Jvm.Stand Jvm.LawKit Jvm.RoadKit Bundle
section Walk
/-- from this frame the body comes to its end, and the end is as F says -/
def Endw (p : Program) (e : Env) (below : List Frame) (T : State) (g : JFrame) (F : Outcome → State → Prop) : Prop :=
  ∃ s₂ o, Steps p.tables e below (T.setTop g) s₂ ∧ s₂.status = .running ∧ Ended s₂ below o ∧ F o s₂
/-- where a walk stands: its surroundings, its state, the heap at hand, what it has spent -/
def Core (p : Program) (l : Launch) (e : Env) (R : Room) (s : State) (m : MethodId) (args : Array Value) (below : List Frame) (meth : Method) (c : Code) (bs : ByteArray) (ml : Nat) (ret : Option FieldType) (nm own : String) (Z : State) (a0 : Array Value) (EL : List (String × Nat)) (nw : Bool) (vm : Vm) (T : State) (h : Heap) (k n : Nat) : Prop :=
  (p.tables.exec = Jvm.exec ∧ c.code = bs ∧ c.maxLocals = ml ∧ meth.sig.returnType = ret ∧ meth.locks = false ∧ meth.name = nm ∧ EW Z a0 EL) ∧
  (∃ L, Stand p l e R (s.setVm vm) m args below meth c T L k n ∧ Fr Z.heap.size L) ∧ T.heap = h ∧ Z.Warmed39 vm ∧ vm.findClass own = some m.cls ∧ (∃ k0, s.Since vm k0 ∧ k0 ≤ h.size) ∧ CHr Z EL s.vm s.heap vm h ∧ Ext Z.heap h ∧ (nw = true → s.WarmedH vm)
/-- what a body leaves behind -/
def Fin (s : State) (Z : State) (EL : List (String × Nat)) (nw : Bool) (Q : Option Value → Heap → Prop) (K N : Nat) (o : Outcome) (U : State) : Prop :=
  ∃ v L, o = .returned v ∧ (Q v U.heap ∧ Fr Z.heap.size L ∧ Ext Z.heap U.heap) ∧ (CHr Z EL s.vm s.heap U.vm U.heap ∧ (nw = true → s.WarmedH U.vm)) ∧ ReturnedEndW s o U L K N
/-- the contract of a body: the arguments, the heap at the call, the places that it may write though they be Strings or byte arrays, what comes back -/
def Met (l : Launch) (Z : State) (EL : List (String × Nat)) (nw : Bool) (y : MethodName) (bs : ByteArray) (ml : Nat) (ret : Option FieldType) (ws : List Jvm.Cond) (rm : Room) (as' : Array Value) (h : Heap) (xs : List Addr) (Q : Option Value → Heap → Prop) : Prop :=
  MetFree l y (head1 (Jvm.Cond.code y bs ml ret :: ws) rm) (fun a U => a = as' ∧ Z.Warmed39 U.vm ∧ U.heap = h ∧ CHv Z EL U.vm h ∧ ∀ x ∈ xs, Safe Z EL U.vm h x) (fun _ _ _ _ _ => True)
    (fun _ U o U' => Fin U Z EL nw Q rm.cells rm.slots o U')
variable {p : Program} {l : Launch} {e : Env} {R : Room} {s : State} {m : MethodId} {args : Array Value} {below : List Frame} {meth : Method} {c : Code}
variable {bs : ByteArray} {ml : Nat} {ret : Option FieldType} {nm own : String} {Z : State} {a0 : Array Value} {EL : List (String × Nat)} {nw : Bool} {vm : Vm} {T T' : State} {h h' : Heap} {k n k' n' : Nat} {F : Outcome → State → Prop} {pc pc' : Nat} {Ls : Array Slot} {rest : List Value} {g g' : JFrame} {Q : Option Value → Heap → Prop}
theorem Endw.st (q : ∀ t, Steps p.tables e below (T'.setTop g') t → Steps p.tables e below (T.setTop g) t) (E : Endw p e below T' g' F) : Endw p e below T g F := by
  obtain ⟨s₂, o, h1, h2⟩ := E; exact ⟨s₂, o, q _ h1, h2⟩
theorem Endw.ste (q : Steps p.tables e below (T.setTop g) (T'.setTop g')) (E : Endw p e below T' g' F) : Endw p e below T g F := Endw.st (fun _ r => q.trans r) E
theorem Endw.eq (q : g = g') (E : Endw p e below T g' F) : Endw p e below T g F := q ▸ E
section Reads
theorem Core.hx (C : Core p l e R s m args below meth c bs ml ret nm own Z a0 EL nw vm T h k n) : p.tables.exec = Jvm.exec := C.1.1
theorem Core.dec (C : Core p l e R s m args below meth c bs ml ret nm own Z a0 EL nw vm T h k n) {r : Except DecodeError (Instr × Nat)} (hd : decode bs pc = r) : decode c.code pc = r := hb C.1.2.1 hd
theorem Core.mlq (C : Core p l e R s m args below meth c bs ml ret nm own Z a0 EL nw vm T h k n) : c.maxLocals = ml := C.1.2.2.1
theorem Core.rtq (C : Core p l e R s m args below meth c bs ml ret nm own Z a0 EL nw vm T h k n) : meth.sig.returnType = ret := C.1.2.2.2.1
theorem Core.locks (C : Core p l e R s m args below meth c bs ml ret nm own Z a0 EL nw vm T h k n) : meth.locks = false := C.1.2.2.2.2.1
theorem Core.nam (C : Core p l e R s m args below meth c bs ml ret nm own Z a0 EL nw vm T h k n) : meth.name = nm := C.1.2.2.2.2.2.1
theorem Core.ew (C : Core p l e R s m args below meth c bs ml ret nm own Z a0 EL nw vm T h k n) : EW Z a0 EL := C.1.2.2.2.2.2.2
theorem Core.here (C : Core p l e R s m args below meth c bs ml ret nm own Z a0 EL nw vm T h k n) : At T m c below := by obtain ⟨-, ⟨_, X, -⟩, -⟩ := C; exact X.here
theorem Core.heq (C : Core p l e R s m args below meth c bs ml ret nm own Z a0 EL nw vm T h k n) : T.heap = h := C.2.2.1
theorem Core.warm (C : Core p l e R s m args below meth c bs ml ret nm own Z a0 EL nw vm T h k n) : Z.Warmed39 vm := C.2.2.2.1
theorem Core.hown (C : Core p l e R s m args below meth c bs ml ret nm own Z a0 EL nw vm T h k n) : vm.findClass own = some m.cls := C.2.2.2.2.1
theorem Core.since (C : Core p l e R s m args below meth c bs ml ret nm own Z a0 EL nw vm T h k n) : ∃ k0, s.Since vm k0 ∧ k0 ≤ h.size := C.2.2.2.2.2.1
theorem Core.chr (C : Core p l e R s m args below meth c bs ml ret nm own Z a0 EL nw vm T h k n) : CHr Z EL s.vm s.heap vm h := C.2.2.2.2.2.2.1
theorem Core.chv (C : Core p l e R s m args below meth c bs ml ret nm own Z a0 EL nw vm T h k n) : CHv Z EL vm h := C.chr.1
theorem Core.old (C : Core p l e R s m args below meth c bs ml ret nm own Z a0 EL nw vm T h k n) : Ext Z.heap h := C.2.2.2.2.2.2.2.1
theorem Core.nwm (C : Core p l e R s m args below meth c bs ml ret nm own Z a0 EL nw vm T h k n) : nw = true → s.WarmedH vm := C.2.2.2.2.2.2.2.2
theorem Core.le (C : Core p l e R s m args below meth c bs ml ret nm own Z a0 EL nw vm T h k n) : Z.heap.size ≤ h.size := C.old.1
end Reads
theorem CHr.step (A : CHr Z EL s.vm s.heap vm h) (B : CHr Z EL vm h vm h') : CHr Z EL s.vm s.heap vm h' := A.trans B
theorem old_keep {ws : List Addr} (O : Ext Z.heap h) (K : Keep h h' ws) (q : ∀ x ∈ ws, Z.heap.size ≤ x) : Ext Z.heap h' :=
  ⟨Nat.le_trans O.1 K.1, fun x c r => K.2.1 x c (O.2 x c r) fun z => absurd (Array.getElem?_eq_some_iff.mp r).1 (Nat.not_lt.mpr (q x z))⟩
theorem keep_of_ext (E : Ext h h') : Keep h h' [] := (Keep.refl h []).ext E
/-- the walk goes on with the same tables behind a step that keeps all but ws -/
theorem Core.on (C : Core p l e R s m args below meth c bs ml ret nm own Z a0 EL nw vm T h k n) {ws : List Addr} {L' : List Loc} (X' : Stand p l e R (s.setVm vm) m args below meth c T' L' k' n') (N : Fr Z.heap.size L') (e' : T'.heap = h') (K : Keep h h' ws) (q : ∀ x ∈ ws, Z.heap.size ≤ x) (S : ∀ x ∈ ws, Safe Z EL vm h x) :
    Core p l e R s m args below meth c bs ml ret nm own Z a0 EL nw vm T' h' k' n' :=
  ⟨C.1, ⟨L', X', N⟩, e', C.warm, C.hown, by obtain ⟨k0, h1, h2⟩ := C.since; exact ⟨k0, h1, Nat.le_trans h2 K.1⟩, CHr.step C.chr (CHr.keep K S C.chv), old_keep C.old K q, C.nwm⟩
theorem Core.same (C : Core p l e R s m args below meth c bs ml ret nm own Z a0 EL nw vm T h k n) {L' : List Loc} (X' : Stand p l e R (s.setVm vm) m args below meth c T' L' k' n') (N : Fr Z.heap.size L') (e' : T'.heap = h) :
    Core p l e R s m args below meth c bs ml ret nm own Z a0 EL nw vm T' h k' n' :=
  C.on (ws := []) X' N e' (Keep.refl _ _) all0 sf0
theorem Core.more (C : Core p l e R s m args below meth c bs ml ret nm own Z a0 EL nw vm T h k n) (hk : k ≤ k') (hn : n ≤ n') : Core p l e R s m args below meth c bs ml ret nm own Z a0 EL nw vm T h k' n' := by
  obtain ⟨h1, ⟨L, X, N⟩, r⟩ := C; exact ⟨h1, ⟨L, X.more hk hn, N⟩, r⟩
/-! ## steps -/
theorem Core.getF (C : Core p l e R s m args below meth c bs ml ret nm own Z a0 EL nw vm T h k n) {O nm' d : String} {ix : Nat} {a : Addr} {v : Value} (w : (Jvm.Cond.fieldLink own ix O nm' d).before a0 Z = true) (f : Fld Z h a O nm' d v) (hd : decode bs pc = .ok (.getfield ix, 3)) (hp : pc + 3 = pc')
    (K : ∀ T', Core p l e R s m args below meth c bs ml ret nm own Z a0 EL nw vm T' h k n → Endw p e below T' (mkF m pc' Ls (v :: rest)) F) : Endw p e below T (mkF m pc Ls (.ref a :: rest)) F := by
  subst hp
  obtain ⟨-, ⟨L, X, N⟩, -⟩ := id C
  obtain ⟨T', X', e', st⟩ := RoadKit.getF X C.hx C.warm C.hown (host := "") (Or.inl w) Via.refl C.heq f (g := mkF m pc Ls (.ref a :: rest)) rfl rfl (C.dec hd)
  exact Endw.st st (K T' (C.same X' N e'))
theorem Core.getFN (C : Core p l e R s m args below meth c bs ml ret nm own Z a0 EL nw vm T h k n) {O nm' d host : String} {ix : Nat} {a : Addr} {v : Value} (w : (Jvm.Cond.fieldLinkNest own ix O nm' d host).before a0 Z = true) (f : Fld Z h a O nm' d v) (hd : decode bs pc = .ok (.getfield ix, 3)) (hp : pc + 3 = pc')
    (K : ∀ T', Core p l e R s m args below meth c bs ml ret nm own Z a0 EL nw vm T' h k n → Endw p e below T' (mkF m pc' Ls (v :: rest)) F) : Endw p e below T (mkF m pc Ls (.ref a :: rest)) F := by
  subst hp
  obtain ⟨-, ⟨L, X, N⟩, -⟩ := id C
  obtain ⟨T', X', e', st⟩ := RoadKit.getF X C.hx C.warm C.hown (Or.inr w) Via.refl C.heq f (g := mkF m pc Ls (.ref a :: rest)) rfl rfl (C.dec hd)
  exact Endw.st st (K T' (C.same X' N e'))
theorem Core.getFV (C : Core p l e R s m args below meth c bs ml ret nm own Z a0 EL nw vm T h k n) {R0 O nm' d : String} {ix : Nat} {a : Addr} {v : Value} (w : (Jvm.Cond.fieldLink own ix R0 nm' d).before a0 Z = true) (via : Via Z R0 O nm' d) (f : Fld Z h a O nm' d v) (hd : decode bs pc = .ok (.getfield ix, 3)) (hp : pc + 3 = pc')
    (K : ∀ T', Core p l e R s m args below meth c bs ml ret nm own Z a0 EL nw vm T' h k n → Endw p e below T' (mkF m pc' Ls (v :: rest)) F) : Endw p e below T (mkF m pc Ls (.ref a :: rest)) F := by
  subst hp
  obtain ⟨-, ⟨L, X, N⟩, -⟩ := id C
  obtain ⟨T', X', e', st⟩ := RoadKit.getF X C.hx C.warm C.hown (host := "") (Or.inl w) via C.heq f (g := mkF m pc Ls (.ref a :: rest)) rfl rfl (C.dec hd)
  exact Endw.st st (K T' (C.same X' N e'))
theorem Core.getS (C : Core p l e R s m args below meth c bs ml ret nm own Z a0 EL nw vm T h k n) {O nm' d : String} {ix : Nat} {v : Value} (w : (Jvm.Cond.fieldLink own ix O nm' d).before a0 Z = true) (f : Sta Z Z.heap O nm' d v) (hd : decode bs pc = .ok (.getstatic ix, 3)) (hp : pc + 3 = pc')
    (K : ∀ T', Core p l e R s m args below meth c bs ml ret nm own Z a0 EL nw vm T' h k n → Endw p e below T' (mkF m pc' Ls (v :: rest)) F) : Endw p e below T (mkF m pc Ls rest) F := by
  subst hp
  obtain ⟨-, ⟨L, X, N⟩, -⟩ := id C
  obtain ⟨T', X', e', st⟩ := RoadKit.getS X C.hx C.warm C.hown (host := "") w Via.refl C.heq (f.ext C.old) (g := mkF m pc Ls rest) rfl (C.dec hd)
  exact Endw.st st (K T' (C.same X' N e'))
theorem Core.putF (C : Core p l e R s m args below meth c bs ml ret nm own Z a0 EL nw vm T h k n) {O nm' d Cl : String} {ix kk : Nat} {a : Addr} {v old : Value} {ty : FieldType} (w : (Jvm.Cond.fieldLink own ix O nm' d).before a0 Z = true) (f : Fld Z h a O nm' d old) (E : Exa Z h a Cl) (la : (Jvm.Cond.lays Cl O nm' d).before a0 Z = true ∨ ((Jvm.Cond.laysFinal Cl O nm' d).before a0 Z = true ∧ own = O ∧ nm = "<init>")) (wi : (Jvm.Cond.instantiable Cl kk).before a0 Z = true)
    (hty : parseFieldDescriptor d = some ty) (hn : narrow ty v = v) (hf : fits ty v = true) (ge : Z.heap.size ≤ a) (sf : Safe Z EL vm h a) (hd : decode bs pc = .ok (.putfield ix, 3)) (hp : pc + 3 = pc')
    (K : ∀ T' h', Core p l e R s m args below meth c bs ml ret nm own Z a0 EL nw vm T' h' k n → Keep h h' [a] → CHr Z EL vm h vm h' → Wr h h' a (RoadKit.slotOf Z O nm' d) v → Endw p e below T' (mkF m pc' Ls rest) F) : Endw p e below T (mkF m pc Ls (v :: .ref a :: rest)) F := by
  subst hp
  obtain ⟨-, ⟨L, X, N⟩, -⟩ := id C
  obtain ⟨T', h', X', e', W, st⟩ := RoadKit.putF X C.hx C.warm C.hown (host := "") (Or.inl w) Via.refl C.heq f E (la.imp id fun q => ⟨q.1, q.2.1, C.nam.trans q.2.2⟩) wi hty hn hf (g := mkF m pc Ls (v :: .ref a :: rest)) rfl rfl (C.dec hd)
  exact Endw.st st (K T' h' (C.on (ws := [a]) X' (N.app fun y hy => by cases List.mem_singleton.mp hy; exact ge) e' (Keep.of_wr W) (allS ge all0) (sfS sf sf0)) (Keep.of_wr W) (CHr.keep (Keep.of_wr W) (sfS sf sf0) C.chv) W)
theorem Core.new (C : Core p l e R s m args below meth c bs ml ret nm own Z a0 EL nw vm T h k n) {Cl : String} {ix nn : Nat} (w : (Jvm.Cond.classLink own ix Cl).before a0 Z = true) (wi : (Jvm.Cond.instantiable Cl nn).before a0 Z = true) (wz : (Jvm.Cond.initialized Cl).before a0 Z = true) (hd : decode bs pc = .ok (.new ix, 3)) (hp : pc + 3 = pc') (hk : k + 1 ≤ R.cells) (hn : n + nn ≤ R.slots)
    (K : ∀ T' h' x, Core p l e R s m args below meth c bs ml ret nm own Z a0 EL nw vm T' h' (k + 1) (n + nn) → Keep h h' [] → CHr Z EL vm h vm h' → h.size ≤ x → Z.heap.size ≤ x → Exa Z h' x Cl → (∀ {O nm d : String} {ty : FieldType}, Laid Z a0 Cl O nm d → parseFieldDescriptor d = some ty → Fld Z h' x O nm d (defaultValue ty)) → Safe Z EL vm h' x → Endw p e below T' (mkF m pc' Ls (.ref x :: rest)) F) : Endw p e below T (mkF m pc Ls rest) F := by
  subst hp
  obtain ⟨-, ⟨L, X, N⟩, -⟩ := id C
  obtain ⟨T', h', X', e', E, A, D, -, st⟩ := RoadKit.newO X C.hx C.warm C.hown w wi wz C.heq (g := mkF m pc Ls rest) rfl (C.dec hd) hk hn
  exact Endw.st st (K T' h' h.size (C.on (ws := []) X' N e' (keep_of_ext E) all0 sf0) (keep_of_ext E) (CHr.keep (keep_of_ext E) sf0 C.chv) (Nat.le_refl _) C.le A D (Safe.ext E C.chv (Safe.new (Nat.le_refl _))))
theorem Core.newA (C : Core p l e R s m args below meth c bs ml ret nm own Z a0 EL nw vm T h k n) {aty : ArrayType} {z : Int32} {cap : Nat} {vs : List Value} (w : (Jvm.Cond.arrayClass (newarray.typeOf aty)).before a0 Z = true) (hd : decode bs pc = .ok (.newarray aty, 2)) (hp : pc + 2 = pc') (hz : ¬ z < 0) (hcap : z.toNatClampNeg ≤ cap) (hb : cap * 8 ≤ 536870912) (hk : k + 1 ≤ R.cells) (hn : n + cap ≤ R.slots) (hvs : vs = List.replicate vs.length (defaultValue (newarray.typeOf aty)))
    (K : ∀ T' h' x kA, Core p l e R s m args below meth c bs ml ret nm own Z a0 EL nw vm T' h' (k + 1) (n + cap) → Keep h h' [] → CHr Z EL vm h vm h' → h.size ≤ x → Z.heap.size ≤ x → Arv Z h' x kA (newarray.typeOf aty) z vs (defaultValue (newarray.typeOf aty)) → Safe Z EL vm h' x → Endw p e below T' (mkF m pc' Ls (.ref x :: rest)) F) : Endw p e below T (mkF m pc Ls (.int z :: rest)) F := by
  subst hp
  obtain ⟨-, ⟨L, X, N⟩, -⟩ := id C
  obtain ⟨T', h', cA, X', e', E, A, st⟩ := RoadKit.newP X C.hx C.warm w C.heq (g := mkF m pc Ls (.int z :: rest)) rfl (C.dec hd) rfl hz hcap hb hk hn
  have q := (Arv.new A hz).pad (vs' := [] ++ List.replicate vs.length (defaultValue (newarray.typeOf aty))) (pad_rep _ _ _)
  rw [List.nil_append, ← hvs] at q
  exact Endw.st st (K T' h' h.size cA (C.on (ws := []) X' N e' (keep_of_ext E) all0 sf0) (keep_of_ext E) (CHr.keep (keep_of_ext E) sf0 C.chv) (Nat.le_refl _) C.le q (Safe.ext E C.chv (Safe.new (Nat.le_refl _))))
theorem Core.len (C : Core p l e R s m args below meth c bs ml ret nm own Z a0 EL nw vm T h k n) {a : Addr} {kA : ClassId} {ty : FieldType} {z : Int32} {vs : List Value} {dv : Value} (A : Arv Z h a kA ty z vs dv) (hd : decode bs pc = .ok (.arraylength, 1)) (hp : pc + 1 = pc')
    (K : Endw p e below T (mkF m pc' Ls (.int z :: rest)) F) : Endw p e below T (mkF m pc Ls (.ref a :: rest)) F := by
  subst hp
  obtain ⟨-, ⟨L, X, N⟩, -⟩ := id C
  obtain ⟨cl, Ar, -, S, hz, -⟩ := A
  refine Endw.st (fun t r => X.arraylength C.hx (by rw [C.heq]; exact Ar.1) (State.isArrayOf_alike C.warm.alike Ar.2.1) (g := mkF m pc Ls (.ref a :: rest)) rfl rfl (C.dec hd) t r) ?_
  rw [len_of S hz]; exact K
theorem Core.caload (C : Core p l e R s m args below meth c bs ml ret nm own Z a0 EL nw vm T h k n) {a : Addr} {kA : ClassId} {z j : Int32} {vs : List Value} {dv v : Value} (A : Arv Z h a kA .char z vs dv) (hj : ¬ j < 0 ∧ j < z) (hv : vs.getD j.toNatClampNeg dv = v) (hd : decode bs pc = .ok (.caload, 1)) (hp : pc + 1 = pc')
    (K : Endw p e below T (mkF m pc' Ls (v :: rest)) F) : Endw p e below T (mkF m pc Ls (.int j :: .ref a :: rest)) F := by
  subst hp
  obtain ⟨-, ⟨L, X, N⟩, -⟩ := id C
  obtain ⟨cl, Ar, -, S, hz, H, -⟩ := A
  exact Endw.st (fun t r => X.caload C.hx (by rw [C.heq]; exact Ar.1) (State.isArrayOf_alike C.warm.alike Ar.2.1) Ar.2.2 (inb_of S hj) (H.at (inb_of S hj) hv) (g := mkF m pc Ls (.int j :: .ref a :: rest)) rfl rfl (C.dec hd) t r) K
theorem Core.baload (C : Core p l e R s m args below meth c bs ml ret nm own Z a0 EL nw vm T h k n) {a : Addr} {kA : ClassId} {z j : Int32} {vs : List Value} {dv v : Value} (A : Arv Z h a kA .byte z vs dv) (hj : ¬ j < 0 ∧ j < z) (hv : vs.getD j.toNatClampNeg dv = v) (hd : decode bs pc = .ok (.baload, 1)) (hp : pc + 1 = pc')
    (K : Endw p e below T (mkF m pc' Ls (v :: rest)) F) : Endw p e below T (mkF m pc Ls (.int j :: .ref a :: rest)) F := by
  subst hp
  obtain ⟨-, ⟨L, X, N⟩, -⟩ := id C
  obtain ⟨cl, Ar, -, S, hz, H, -⟩ := A
  exact Endw.st (fun t r => X.baloadBytes C.hx (by rw [C.heq]; exact Ar.1) (State.isArrayOf_alike C.warm.alike Ar.2.1) Ar.2.2 (inb_of S hj) (H.at (inb_of S hj) hv) (g := mkF m pc Ls (.int j :: .ref a :: rest)) rfl rfl (C.dec hd) t r) K
theorem Core.aaload (C : Core p l e R s m args below meth c bs ml ret nm own Z a0 EL nw vm T h k n) {a : Addr} {kA : ClassId} {ty : FieldType} {z j : Int32} {vs : List Value} {dv v : Value} (A : Arv Z h a kA ty z vs dv) (hty : ty.isReference = true) (hj : ¬ j < 0 ∧ j < z) (hv : vs.getD j.toNatClampNeg dv = v) (hd : decode bs pc = .ok (.aaload, 1)) (hp : pc + 1 = pc')
    (K : Endw p e below T (mkF m pc' Ls (v :: rest)) F) : Endw p e below T (mkF m pc Ls (.int j :: .ref a :: rest)) F := by
  subst hp
  obtain ⟨-, ⟨L, X, N⟩, -⟩ := id C
  obtain ⟨cl, Ar, -, S, hz, H, -⟩ := A
  exact Endw.st (fun t r => X.aaload C.hx (by rw [C.heq]; exact Ar.1) (State.isArrayOf_alike C.warm.alike Ar.2.1) hty Ar.2.2 (inb_of S hj) (H.at (inb_of S hj) hv) (g := mkF m pc Ls (.int j :: .ref a :: rest)) rfl rfl (C.dec hd) t r) K
theorem Core.castore (C : Core p l e R s m args below meth c bs ml ret nm own Z a0 EL nw vm T h k n) {a : Addr} {kA : ClassId} {z j x x' : Int32} {vs : List Value} {dv : Value} (A : Arv Z h a kA .char z vs dv) (hj : ¬ j < 0 ∧ j < z) (i : Nat) (hi : j.toNatClampNeg = i) (hl : i < vs.length) (hx' : nar .char x = x') (ge : Z.heap.size ≤ a) (hd : decode bs pc = .ok (.castore, 1)) (hp : pc + 1 = pc')
    (K : ∀ T' h', Core p l e R s m args below meth c bs ml ret nm own Z a0 EL nw vm T' h' k n → Keep h h' [a] → CHr Z EL vm h vm h' → Arv Z h' a kA .char z (vs.set i (.int x')) dv → Endw p e below T' (mkF m pc' Ls rest) F) : Endw p e below T (mkF m pc Ls (.int x :: .int j :: .ref a :: rest)) F := by
  subst hp hx'
  obtain ⟨-, ⟨L, X, N⟩, -⟩ := id C
  have sf : Safe Z EL vm h a := Safe.arv C.warm.alike A (by decide)
  obtain ⟨cl, Ar, q1, S, hz, H, G⟩ := A
  obtain ⟨T', h', X', e', W, st⟩ := RoadKit.stC X C.hx C.warm C.heq Ar (inb_of S hj) (g := mkF m pc Ls (.int x :: .int j :: .ref a :: rest)) rfl rfl (C.dec hd)
  exact Endw.st st (K T' h' (C.on (ws := [a]) X' (N.app fun y hy => by cases List.mem_singleton.mp hy; exact ge) e' (Keep.of_wr W) (allS ge all0) (sfS sf sf0)) (Keep.of_wr W) (CHr.keep (Keep.of_wr W) (sfS sf sf0) C.chv) (Arv.set Ar q1 S hz H G (fits_nar_char _) W i hi hl))
theorem Core.bastore (C : Core p l e R s m args below meth c bs ml ret nm own Z a0 EL nw vm T h k n) {a : Addr} {kA : ClassId} {z j x x' : Int32} {vs : List Value} {dv : Value} (A : Arv Z h a kA .byte z vs dv) (hj : ¬ j < 0 ∧ j < z) (i : Nat) (hi : j.toNatClampNeg = i) (hl : i < vs.length) (hx' : nar .byte x = x') (ge : Z.heap.size ≤ a) (sf : Safe Z EL vm h a) (hd : decode bs pc = .ok (.bastore, 1)) (hp : pc + 1 = pc')
    (K : ∀ T' h', Core p l e R s m args below meth c bs ml ret nm own Z a0 EL nw vm T' h' k n → Keep h h' [a] → CHr Z EL vm h vm h' → Arv Z h' a kA .byte z (vs.set i (.int x')) dv → Endw p e below T' (mkF m pc' Ls rest) F) : Endw p e below T (mkF m pc Ls (.int x :: .int j :: .ref a :: rest)) F := by
  subst hp hx'
  obtain ⟨-, ⟨L, X, N⟩, -⟩ := id C
  obtain ⟨cl, Ar, q1, S, hz, H, G⟩ := A
  obtain ⟨T', h', X', e', W, st⟩ := RoadKit.stB X C.hx C.warm C.heq Ar (inb_of S hj) (g := mkF m pc Ls (.int x :: .int j :: .ref a :: rest)) rfl rfl (C.dec hd)
  exact Endw.st st (K T' h' (C.on (ws := [a]) X' (N.app fun y hy => by cases List.mem_singleton.mp hy; exact ge) e' (Keep.of_wr W) (allS ge all0) (sfS sf sf0)) (Keep.of_wr W) (CHr.keep (Keep.of_wr W) (sfS sf sf0) C.chv) (Arv.set Ar q1 S hz H G (fits_nar_byte _) W i hi hl))
/-- Object.<init> -/
theorem Core.initO (C : Core p l e R s m args below meth c bs ml ret nm own Z a0 EL nw vm T h k n) {ix : Nat} {a : Addr} (w1 : (Jvm.Cond.methodLink own ix Lib.objectInit).before a0 Z = true) (w2 : (Jvm.Cond.instanceMethod Lib.objectInit).before a0 Z = true) (w3 : (Jvm.Cond.code Lib.objectInit ⟨#[0xb1]⟩ 1 none).before a0 Z = true) (hsz : Ls.size = ml) (hd : decode bs pc = .ok (.invokespecial ix, 3)) (hp : pc + 3 = pc') (hf : 1 ≤ R.frames) {W : Nat} (hW : (rest.map fun v => v.category).sum ≤ W) (hl : W + 12 ≤ R.locals)
    (K : ∀ T', Core p l e R s m args below meth c bs ml ret nm own Z a0 EL nw vm T' h k n → Endw p e below T' (mkF m pc' Ls rest) F) : Endw p e below T (mkF m pc Ls (.ref a :: rest)) F := by
  subst hp
  obtain ⟨-, ⟨L, X, N⟩, -⟩ := id C
  obtain ⟨T', X', e', st⟩ := RoadKit.initO X C.hx C.warm C.hown w1 w2 w3 C.heq (g := mkF m pc Ls (.ref a :: rest)) rfl (hsz.trans C.mlq.symm) rfl (C.dec hd) hf (W := W) (by show 2 * 0 + _ ≤ _; omega) hl
  exact Endw.st st (K T' (C.same X' N e'))
/-! ## calls by a contract of ours -/
theorem backOwn {y : MethodName} {bytes : ByteArray} {mx : Nat} {rt : Option FieldType} {rm : Room} {len W : Nat} {as' : Array Value} {xs : List Addr} (hM : Met l Z EL nw y bytes mx rt [] rm as' h xs Q) (hZ : Z.Warmed39 vm) (wc : (Jvm.Cond.code y bytes mx rt).before a0 Z = true) (wz : (Jvm.Cond.initialized y.cls).before a0 Z = true) (hf : rm.frames + 1 ≤ R.frames) (hl : W + (mx + 11) + rm.locals ≤ R.locals) (hEL : EW Z a0 EL) (H : CHv Z EL vm h) (hs : ∀ x ∈ xs, x < h.size ∧ Safe Z EL vm h x) :
    BackS l R p e below (s.setVm vm) args y len W (fun A a => a = as' ∧ A.U.heap = h ∧ A.cells + rm.cells ≤ R.cells ∧ A.slots + rm.slots ≤ R.slots)
      (fun A _ v B => ∃ L, (Q v B.U.heap ∧ Fr Z.heap.size L ∧ Ext Z.heap B.U.heap) ∧ B.locs = A.locs ++ L ∧ B.cells = A.cells + rm.cells ∧ B.slots = A.slots + rm.slots ∧ CHr Z EL vm h B.U.vm B.U.heap ∧ (nw = true → (s.setVm vm).WarmedH B.U.vm)) := by
  refine BackS.of_freeW (bytes := bytes) (maxL := mx) (ret := rt) (E := fun _ f o t L i j => i = rm.cells ∧ j = rm.slots ∧ (∃ v, o = .returned v ∧ Q v t.heap ∧ Fr Z.heap.size L ∧ Ext Z.heap t.heap) ∧ CHr Z EL f.vm f.heap t.vm t.heap ∧ (nw = true → f.WarmedH t.vm)) hM hf hl ?_ ?_ (fun _ _ _ _ _ _ _ _ _ => trivial) ?_ ?_
  · intro m' meth' c' A a Y hp
    have hU : Z.Warmed39 A.U.vm := wtrans (s := s.setVm vm) hZ Y.warmed
    refine ⟨?_, mv hU wc, mv hU wz, hp.2.2.1, hp.2.2.2⟩
    show (Jvm.Cond.and _ .tt).before a A.U = true
    rw [Cond.before_and, mv hU wc]; rfl
  · intro m' meth' c' A a g' mk Y hp
    have q := CHv.at Y hZ hEL H
    exact ⟨hp.1, wtrans (s := s.setVm vm) hZ Y.warmed, hp.2.1, q.1, fun x hx => q.safe (hs x hx).1 (hs x hx).2⟩
  · intro a f o t ⟨v, L, h1, h2, h3, h4⟩
    exact ⟨L, _, _, h4, rfl, rfl, ⟨v, h1, h2⟩, h3.1, h3.2⟩
  · intro m' meth' c' A a g' mk v t L i j Y hp _ _ q
    obtain ⟨rfl, rfl, ⟨v', e1, e2⟩, e3, e5⟩ := q
    cases e1
    refine ⟨L, e2, rfl, rfl, rfl, (CHv.at Y hZ hEL H).trans ?_, fun z => State.WarmedH.trans Y.warmed (e5 z)⟩
    have e4 : CHr Z EL A.U.vm A.U.heap t.vm t.heap := e3
    rw [hp.2.1] at e4; exact e4
/-- behind a call by such a contract -/
theorem Core.behind (C : Core p l e R s m args below meth c bs ml ret nm own Z a0 EL nw vm T h k n) {B : Pt} {L L' : List Loc} (X' : Stand p l e R ((s.setVm vm).setVm B.U.vm) m args below meth c B.U B.locs B.cells B.slots) (h2 : (s.setVm vm).Since B.U.vm B.U.heap.size) (N : Fr Z.heap.size L) (N' : Fr Z.heap.size L') (O : Ext Z.heap B.U.heap) (e1 : B.locs = L ++ L') (e2 : B.cells = k') (e3 : B.slots = n') (A : CHr Z EL vm h B.U.vm B.U.heap) (M : nw = true → (s.setVm vm).WarmedH B.U.vm) :
    Core p l e R s m args below meth c bs ml ret nm own Z a0 EL nw B.U.vm B.U B.U.heap k' n' := by
  subst e2 e3
  obtain ⟨k0, hS, hk⟩ := C.since
  obtain ⟨r1, r2, r3, r4⟩ := rebS hS hk X' h2 A.2.1 C.warm C.hown
  exact ⟨C.1, ⟨_, r1, e1 ▸ N.app N'⟩, rfl, r3, r4, ⟨_, r2, Nat.le_refl _⟩, C.chr.trans A, O, fun z => State.WarmedH.trans (C.nwm z) (M z)⟩
theorem Core.special (C : Core p l e R s m args below meth c bs ml ret nm own Z a0 EL nw vm T h k n) {y : MethodName} {ix : Nat} {bytes : ByteArray} {mx : Nat} {rm : Room} {xs : List Addr} {W : Nat} {a : Addr} {argsL st : List Value} {as' : Array Value} (hy1 : y.name = "<init>")
    (w1 : (Jvm.Cond.methodLink own ix y).before a0 Z = true) (w2 : (Jvm.Cond.instanceMethod y).before a0 Z = true) (w3 : (Jvm.Cond.code y bytes mx none).before a0 Z = true) (w4 : (Jvm.Cond.initialized y.cls).before a0 Z = true) (hy : y.cls ≠ "java/lang/invoke/MethodHandle" ∧ y.cls ≠ "java/lang/invoke/VarHandle")
    (hM : Met l Z EL nw y bytes mx none [] rm as' h xs Q) (has : as' = (.ref a :: argsL).toArray) (hs : ∀ x ∈ xs, x < h.size ∧ Safe Z EL vm h x) (hf : rm.frames + 1 ≤ R.frames) (hl : W + (mx + 11) + rm.locals ≤ R.locals) (hk : k + rm.cells ≤ R.cells) (hn : n + rm.slots ≤ R.slots)
    (hlen : ∀ sig, parseMethodDescriptor y.desc = some sig → argsL.length = sig.parameters.length) (hst : st = argsL.reverse ++ .ref a :: rest) (hW : (rest.map fun v => v.category).sum ≤ W) (hsz : Ls.size = ml) (hd : decode bs pc = .ok (.invokespecial ix, 3)) (hp : pc + 3 = pc')
    (K : ∀ vm' T' h' v, Core p l e R s m args below meth c bs ml ret nm own Z a0 EL nw vm' T' h' (k + rm.cells) (n + rm.slots) → CHr Z EL vm h vm' h' → Q v h' → Endw p e below T' (mkF m pc' Ls (v.toList ++ rest)) F) : Endw p e below T (mkF m pc Ls st) F := by
  subst hp has
  obtain ⟨-, ⟨L, X, N⟩, -⟩ := id C
  obtain ⟨v, vm₁, B, -, X', h2, -, ⟨L', ⟨q1, q2, q3⟩, e1, e2, e3, A, M⟩, st'⟩ := X.specialBackS C.hx (y := y) hy1 C.hown (mvT C.warm w1) (mvT C.warm w2) (mvT C.warm w3) hy (backOwn (W := W) hM C.warm w3 w4 hf hl C.ew C.chv hs) (g := mkF m pc Ls st) rfl (hsz.trans C.mlq.symm) (Steps.refl _) (a := a) (argsL := argsL) (rest := rest) hlen hst (by show 2 * 0 + _ ≤ _; omega) (C.dec hd) (fun _ _ => ⟨rfl, C.heq, hk, hn⟩)
  exact Endw.ste st' (K _ _ _ v (C.behind X' h2 N q2 q3 e1 e2 e3 A M) A q1)
theorem Core.static (C : Core p l e R s m args below meth c bs ml ret nm own Z a0 EL nw vm T h k n) {y : MethodName} {ix : Nat} {bytes : ByteArray} {mx : Nat} {rt : Option FieldType} {rm : Room} {xs : List Addr} {W : Nat} {argsL st : List Value} {as' : Array Value}
    (w1 : (Jvm.Cond.methodLink own ix y).before a0 Z = true) (w2 : (Jvm.Cond.static y).before a0 Z = true) (w3 : (Jvm.Cond.code y bytes mx rt).before a0 Z = true) (w4 : (Jvm.Cond.initialized y.cls).before a0 Z = true) (hy : y.cls ≠ "java/lang/invoke/MethodHandle" ∧ y.cls ≠ "java/lang/invoke/VarHandle")
    (hM : Met l Z EL nw y bytes mx rt [] rm as' h xs Q) (has : as' = argsL.toArray) (hs : ∀ x ∈ xs, x < h.size ∧ Safe Z EL vm h x) (hf : rm.frames + 1 ≤ R.frames) (hl : W + (mx + 11) + rm.locals ≤ R.locals) (hk : k + rm.cells ≤ R.cells) (hn : n + rm.slots ≤ R.slots)
    (hlen : ∀ sig, parseMethodDescriptor y.desc = some sig → argsL.length = sig.parameters.length) (hst : st = argsL.reverse ++ rest) (hW : (rest.map fun v => v.category).sum ≤ W) (hsz : Ls.size = ml) (hd : decode bs pc = .ok (.invokestatic ix, 3)) (hp : pc + 3 = pc')
    (K : ∀ vm' T' h' v, Core p l e R s m args below meth c bs ml ret nm own Z a0 EL nw vm' T' h' (k + rm.cells) (n + rm.slots) → CHr Z EL vm h vm' h' → Q v h' → Endw p e below T' (mkF m pc' Ls (v.toList ++ rest)) F) : Endw p e below T (mkF m pc Ls st) F := by
  subst hp has
  obtain ⟨-, ⟨L, X, N⟩, -⟩ := id C
  obtain ⟨v, vm₁, B, -, X', h2, -, ⟨L', ⟨q1, q2, q3⟩, e1, e2, e3, A, M⟩, st'⟩ := RoadKit.callSS X C.hx (y := y) C.hown (mvT C.warm w1) (mvT C.warm w2) (mvT C.warm w4) (mvT C.warm w3) hy (backOwn (W := W) hM C.warm w3 w4 hf hl C.ew C.chv hs) (g := mkF m pc Ls st) rfl (hsz.trans C.mlq.symm) (argsL := argsL) (rest := rest) hlen hst (by show 2 * 0 + _ ≤ _; omega) (C.dec hd) (fun _ _ => ⟨rfl, C.heq, hk, hn⟩)
  exact Endw.ste st' (K _ _ _ v (C.behind X' h2 N q2 q3 e1 e2 e3 A M) A q1)
theorem Core.virtual (C : Core p l e R s m args below meth c bs ml ret nm own Z a0 EL nw vm T h k n) {y z : MethodName} {Cl : String} {ix : Nat} {bytes : ByteArray} {mx : Nat} {rt : Option FieldType} {rm : Room} {xs : List Addr} {W : Nat} {a : Addr} {argsL st : List Value} {as' : Array Value}
    (w1 : (Jvm.Cond.methodLink own ix y).before a0 Z = true) (w2 : (Jvm.Cond.declares y).before a0 Z = true) (hnf : ∀ U : State, Z.Warmed39 U.vm → NotFace U y) (w5 : (Jvm.Cond.selects Cl y z).before a0 Z = true) (w6 : (Jvm.Cond.instanceMethod z).before a0 Z = true) (w3 : (Jvm.Cond.code z bytes mx rt).before a0 Z = true) (w4 : (Jvm.Cond.initialized z.cls).before a0 Z = true) (hy : y.cls ≠ "java/lang/invoke/MethodHandle" ∧ y.cls ≠ "java/lang/invoke/VarHandle")
    (hM : Met l Z EL nw z bytes mx rt [] rm as' h xs Q) (has : as' = (.ref a :: argsL).toArray) (E : Exa Z h a Cl) (hs : ∀ x ∈ xs, x < h.size ∧ Safe Z EL vm h x) (hf : rm.frames + 1 ≤ R.frames) (hl : W + (mx + 11) + rm.locals ≤ R.locals) (hk : k + rm.cells ≤ R.cells) (hn : n + rm.slots ≤ R.slots)
    (hlen : ∀ sig, parseMethodDescriptor y.desc = some sig → argsL.length = sig.parameters.length) (hst : st = argsL.reverse ++ .ref a :: rest) (hW : (rest.map fun v => v.category).sum ≤ W) (hsz : Ls.size = ml) (hd : decode bs pc = .ok (.invokevirtual ix, 3)) (hp : pc + 3 = pc')
    (K : ∀ vm' T' h' v, Core p l e R s m args below meth c bs ml ret nm own Z a0 EL nw vm' T' h' (k + rm.cells) (n + rm.slots) → CHr Z EL vm h vm' h' → Q v h' → Endw p e below T' (mkF m pc' Ls (v.toList ++ rest)) F) : Endw p e below T (mkF m pc Ls st) F := by
  subst hp has
  obtain ⟨-, ⟨L, X, N⟩, -⟩ := id C
  obtain ⟨cq, kq, qa, qb, qc⟩ := isOf (s := s.setVm vm) C.warm C.heq E
  obtain ⟨v, vm₁, B, -, X', h2, -, ⟨L', ⟨q1, q2, q3⟩, e1, e2, e3, A, M⟩, st'⟩ := X.virtualBackS C.hx (y := y) (z := z) C.hown (mvT C.warm w1) (mvT C.warm w2) (hnf _ (show Z.Warmed39 (s.setVm vm).vm from C.warm)) (mvT C.warm w5) (mvT C.warm w6) hy (backOwn (W := W) hM C.warm w3 w4 hf hl C.ew C.chv hs) qa qc (g := mkF m pc Ls st) rfl (hsz.trans C.mlq.symm) (Steps.refl _) (argsL := argsL) (rest := rest) hlen hst (by show 2 * 0 + _ ≤ _; omega) (C.dec hd) (fun _ _ => ⟨rfl, C.heq, hk, hn⟩)
  exact Endw.ste st' (K _ _ _ v (C.behind X' h2 N q2 q3 e1 e2 e3 A M) A q1)
/-! ## calls by a law of the library's (it interns nothing) -/
theorem Core.behindF (C : Core p l e R s m args below meth c bs ml ret nm own Z a0 EL nw vm T h k n) {B : Pt} {L L' : List Loc} {ws : List Addr} (X' : Stand p l e R (s.setVm vm) m args below meth c B.U B.locs B.cells B.slots) (N : Fr Z.heap.size L) (N' : Fr Z.heap.size L') (K : Keep h B.U.heap ws) (ge : ∀ x ∈ ws, Z.heap.size ≤ x) (S : ∀ x ∈ ws, Safe Z EL vm h x) (e1 : B.locs = L ++ L') (e2 : B.cells = k') (e3 : B.slots = n') :
    Core p l e R s m args below meth c bs ml ret nm own Z a0 EL nw vm B.U B.U.heap k' n' := by
  subst e2 e3
  exact C.on X' (e1 ▸ N.app N') rfl K ge S
theorem Core.specialF (C : Core p l e R s m args below meth c bs ml ret nm own Z a0 EL nw vm T h k n) {y : MethodName} {ix : Nat} {bytes : ByteArray} {mx ck cn : Nat} {ws : List Addr} {W : Nat} {a : Addr} {argsL st : List Value} {as' : Array Value} {Qf : Option Value → Heap → List Loc → Prop} (hy1 : y.name = "<init>")
    (w1 : (Jvm.Cond.methodLink own ix y).before a0 Z = true) (w2 : (Jvm.Cond.instanceMethod y).before a0 Z = true) (w3 : (Jvm.Cond.code y bytes mx none).before a0 Z = true) (hy : y.cls ≠ "java/lang/invoke/MethodHandle" ∧ y.cls ≠ "java/lang/invoke/VarHandle")
    (hK : Back l R p e below (s.setVm vm) args y 3 W (fun P a => a = as' ∧ P.U.heap = h ∧ P.cells + ck ≤ R.cells ∧ P.slots + cn ≤ R.slots) (fun P _ v B => ∃ L, Qf v B.U.heap L ∧ B.locs = P.locs ++ L ∧ B.cells = P.cells + ck ∧ B.slots = P.slots + cn))
    (hQ : ∀ v h' L, Qf v h' L → Fr Z.heap.size L ∧ Keep h h' ws) (ge : ∀ x ∈ ws, Z.heap.size ≤ x) (S : ∀ x ∈ ws, Safe Z EL vm h x) (has : as' = (.ref a :: argsL).toArray) (hk : k + ck ≤ R.cells) (hn : n + cn ≤ R.slots)
    (hlen : ∀ sig, parseMethodDescriptor y.desc = some sig → argsL.length = sig.parameters.length) (hst : st = argsL.reverse ++ .ref a :: rest) (hW : (rest.map fun v => v.category).sum ≤ W) (hsz : Ls.size = ml) (hd : decode bs pc = .ok (.invokespecial ix, 3)) (hp : pc + 3 = pc')
    (K : ∀ T' h' v, Core p l e R s m args below meth c bs ml ret nm own Z a0 EL nw vm T' h' (k + ck) (n + cn) → Keep h h' ws → CHr Z EL vm h vm h' → (∃ L, Qf v h' L) → Endw p e below T' (mkF m pc' Ls (v.toList ++ rest)) F) : Endw p e below T (mkF m pc Ls st) F := by
  subst hp has
  obtain ⟨-, ⟨L, X, N⟩, -⟩ := id C
  obtain ⟨v, vm₁, B, -, X', ⟨L', q1, e1, e2, e3⟩, st'⟩ := X.specialBack C.hx (y := y) hy1 C.hown (mvT C.warm w1) (mvT C.warm w2) (mvT C.warm w3) hy hK (g := mkF m pc Ls st) rfl (hsz.trans C.mlq.symm) (Steps.refl _) (a := a) (argsL := argsL) (rest := rest) hlen hst (by show 2 * 0 + _ ≤ _; omega) (C.dec hd) (fun _ _ => ⟨rfl, C.heq, hk, hn⟩)
  obtain ⟨r1, r2⟩ := hQ _ _ _ q1
  exact Endw.ste st' (K _ _ v (C.behindF X' N r1 r2 ge S e1 e2 e3) r2 (CHr.keep r2 S C.chv) ⟨_, q1⟩)
theorem Core.staticF (C : Core p l e R s m args below meth c bs ml ret nm own Z a0 EL nw vm T h k n) {y : MethodName} {ix : Nat} {bytes : ByteArray} {mx ck cn : Nat} {rt : Option FieldType} {ws : List Addr} {W : Nat} {argsL st : List Value} {as' : Array Value} {Qf : Option Value → Heap → List Loc → Prop}
    (w1 : (Jvm.Cond.methodLink own ix y).before a0 Z = true) (w2 : (Jvm.Cond.static y).before a0 Z = true) (w3 : (Jvm.Cond.code y bytes mx rt).before a0 Z = true) (w4 : (Jvm.Cond.initialized y.cls).before a0 Z = true) (hy : y.cls ≠ "java/lang/invoke/MethodHandle" ∧ y.cls ≠ "java/lang/invoke/VarHandle")
    (hK : Back l R p e below (s.setVm vm) args y 3 W (fun P a => a = as' ∧ P.U.heap = h ∧ P.cells + ck ≤ R.cells ∧ P.slots + cn ≤ R.slots) (fun P _ v B => ∃ L, Qf v B.U.heap L ∧ B.locs = P.locs ++ L ∧ B.cells = P.cells + ck ∧ B.slots = P.slots + cn))
    (hQ : ∀ v h' L, Qf v h' L → Fr Z.heap.size L ∧ Keep h h' ws) (ge : ∀ x ∈ ws, Z.heap.size ≤ x) (S : ∀ x ∈ ws, Safe Z EL vm h x) (has : as' = argsL.toArray) (hk : k + ck ≤ R.cells) (hn : n + cn ≤ R.slots)
    (hlen : ∀ sig, parseMethodDescriptor y.desc = some sig → argsL.length = sig.parameters.length) (hst : st = argsL.reverse ++ rest) (hW : (rest.map fun v => v.category).sum ≤ W) (hsz : Ls.size = ml) (hd : decode bs pc = .ok (.invokestatic ix, 3)) (hp : pc + 3 = pc')
    (K : ∀ T' h' v, Core p l e R s m args below meth c bs ml ret nm own Z a0 EL nw vm T' h' (k + ck) (n + cn) → Keep h h' ws → CHr Z EL vm h vm h' → (∃ L, Qf v h' L) → Endw p e below T' (mkF m pc' Ls (v.toList ++ rest)) F) : Endw p e below T (mkF m pc Ls st) F := by
  subst hp has
  obtain ⟨-, ⟨L, X, N⟩, -⟩ := id C
  obtain ⟨v, vm₁, B, -, X', ⟨L', q1, e1, e2, e3⟩, st'⟩ := Jvm.LawKit.callS X C.hx (y := y) C.hown (mvT C.warm w1) (mvT C.warm w2) (mvT C.warm w4) (mvT C.warm w3) hy hK (g := mkF m pc Ls st) rfl (hsz.trans C.mlq.symm) (argsL := argsL) (rest := rest) hlen hst (by show 2 * 0 + _ ≤ _; omega) (C.dec hd) (fun _ _ => ⟨rfl, C.heq, hk, hn⟩)
  obtain ⟨r1, r2⟩ := hQ _ _ _ q1
  exact Endw.st st' (K _ _ v (C.behindF X' N r1 r2 ge S e1 e2 e3) r2 (CHr.keep r2 S C.chv) ⟨_, q1⟩)
theorem Core.virtualF (C : Core p l e R s m args below meth c bs ml ret nm own Z a0 EL nw vm T h k n) {y z : MethodName} {Cl : String} {ix ck cn : Nat} {ws : List Addr} {W : Nat} {a : Addr} {argsL st : List Value} {as' : Array Value} {Qf : Option Value → Heap → List Loc → Prop}
    (w1 : (Jvm.Cond.methodLink own ix y).before a0 Z = true) (w2 : (Jvm.Cond.declares y).before a0 Z = true) (hnf : ∀ U : State, Z.Warmed39 U.vm → NotFace U y) (w5 : (Jvm.Cond.selects Cl y z).before a0 Z = true) (w6 : (Jvm.Cond.instanceMethod z).before a0 Z = true) (hy : y.cls ≠ "java/lang/invoke/MethodHandle" ∧ y.cls ≠ "java/lang/invoke/VarHandle")
    (hK : Back l R p e below (s.setVm vm) args z 3 W (fun P a => a = as' ∧ P.U.heap = h ∧ P.cells + ck ≤ R.cells ∧ P.slots + cn ≤ R.slots) (fun P _ v B => ∃ L, Qf v B.U.heap L ∧ B.locs = P.locs ++ L ∧ B.cells = P.cells + ck ∧ B.slots = P.slots + cn))
    (hQ : ∀ v h' L, Qf v h' L → Fr Z.heap.size L ∧ Keep h h' ws) (ge : ∀ x ∈ ws, Z.heap.size ≤ x) (S : ∀ x ∈ ws, Safe Z EL vm h x) (has : as' = (.ref a :: argsL).toArray) (E : Exa Z h a Cl) (hk : k + ck ≤ R.cells) (hn : n + cn ≤ R.slots)
    (hlen : ∀ sig, parseMethodDescriptor y.desc = some sig → argsL.length = sig.parameters.length) (hst : st = argsL.reverse ++ .ref a :: rest) (hW : (rest.map fun v => v.category).sum ≤ W) (hsz : Ls.size = ml) (hd : decode bs pc = .ok (.invokevirtual ix, 3)) (hp : pc + 3 = pc')
    (K : ∀ T' h' v, Core p l e R s m args below meth c bs ml ret nm own Z a0 EL nw vm T' h' (k + ck) (n + cn) → Keep h h' ws → CHr Z EL vm h vm h' → (∃ L, Qf v h' L) → Endw p e below T' (mkF m pc' Ls (v.toList ++ rest)) F) : Endw p e below T (mkF m pc Ls st) F := by
  subst hp has
  obtain ⟨-, ⟨L, X, N⟩, -⟩ := id C
  obtain ⟨cq, kq, qa, qb, qc⟩ := isOf (s := s.setVm vm) C.warm C.heq E
  obtain ⟨v, vm₁, B, -, X', ⟨L', q1, e1, e2, e3⟩, st'⟩ := X.virtualBack C.hx (y := y) (z := z) C.hown (mvT C.warm w1) (mvT C.warm w2) (hnf _ (show Z.Warmed39 (s.setVm vm).vm from C.warm)) (mvT C.warm w5) (mvT C.warm w6) hy hK qa qc (g := mkF m pc Ls st) rfl (hsz.trans C.mlq.symm) (Steps.refl _) (argsL := argsL) (rest := rest) hlen hst (by show 2 * 0 + _ ≤ _; omega) (C.dec hd) (fun _ _ => ⟨rfl, C.heq, hk, hn⟩)
  obtain ⟨r1, r2⟩ := hQ _ _ _ q1
  exact Endw.ste st' (K _ _ v (C.behindF X' N r1 r2 ge S e1 e2 e3) r2 (CHr.keep r2 S C.chv) ⟨_, q1⟩)
/-! ## the head and the end of a body -/
theorem Met.of {y : MethodName} {bytes : ByteArray} {mx : Nat} {rt : Option FieldType} {ws : List Jvm.Cond} {rm : Room} {as' : Array Value} {xs : List Addr} (hy : plainFor y = true) (hEL : EW Z a0 EL) (O : Ext Z.heap h)
    (body : ∀ p e s m below meth c T, Core p l e rm s m as' below meth c bytes mx rt y.name y.cls Z a0 EL nw s.vm T h 0 0 → (∀ x ∈ xs, Safe Z EL s.vm h x) → Endw p e below T (entryFrame m as' mx) (Fin s Z EL nw Q rm.cells rm.slots)) :
    Met l Z EL nw y bytes mx rt ws rm as' h xs Q := by
  refine MetFree.of_bodySF hy hisR ?_
  intro p e s m args below meth c s₁ Bd hml hP hK
  obtain ⟨rfl, hZ, hh, hC, hS⟩ := hP
  have X0 : Stand p l e rm s m args below meth c s₁ [] 0 0 := Stand.of_body Bd
  have e0 : s₁.heap = h := by rw [← hh, Bd.state]; rfl
  have hC' : CHv Z EL s.vm s.heap := by rw [hh]; exact hC
  refine body p e s m below meth c s₁ ⟨⟨Bd.exec, Bd.bytes, hml, Bd.returns, BodyLoose.notSynchronized Bd, (name_of_methodNamed Bd.named Bd.method).1, hEL⟩, ⟨[], X0, Fr.nil _⟩, e0, hZ, findClass_of_methodNamed Bd.named, ⟨s.heap.size, (State.WarmedH.refl s).since _, by rw [hh]; exact Nat.le_refl _⟩, ?_, O, fun _ => State.WarmedH.refl s⟩ hS
  rw [← hh]; exact CHr.refl hC'
theorem Core.leave (C : Core p l e R s m args below meth c bs ml ret nm own Z a0 EL nw vm T h k n) {K N : Nat} {v : Option Value} (hv : ret = none → v = none) (hk : k ≤ K) (hn : n ≤ N) (q : Q v h) (st : ∀ {L : List Loc} {vm' : Vm}, Stand p l e R (s.setVm vm') m args below meth c T L k n → ∀ fs, (∀ (f : JFrame) (acts : List Action), f.method = m → f.locked = none → f.entered = [] → (doReturn e (T.setTop f) acts v).1 = T.setFrames fs) → Steps p.tables e below (T.setTop g) (T.setFrames fs)) :
    Endw p e below T g (Fin s Z EL nw Q K N) := by
  obtain ⟨-, ⟨L, X, NL⟩, -⟩ := id C
  obtain ⟨k0, hS, hk0⟩ := C.since
  have hk1 : k0 ≤ T.heap.size := by rw [C.heq]; exact hk0
  obtain ⟨fs, h1, h2, h3, h4, h5, h6, h7⟩ := X.leaveW hS hk1 (v := v) (fun hr => hv (C.rtq.symm.trans hr)) C.locks
  have e1 : (T.setFrames fs).heap = h := C.heq
  refine ⟨_, _, st X fs h1, h2, h3, v, L, rfl, ⟨by rw [e1]; exact q, NL, by rw [e1]; exact C.old⟩, ⟨?_, fun z => State.WarmedH.trans (C.nwm z) X.warmed⟩, h4, h5, h6, h7.mono hk hn⟩
  have A := C.chr.trans (CHv.at X C.warm C.ew C.chv)
  rw [e1]; exact A
theorem Core.retV (C : Core p l e R s m args below meth c bs ml none nm own Z a0 EL nw vm T h k n) {K N : Nat} (hd : decode bs pc = .ok (.return_, 1)) (hk : k ≤ K) (hn : n ≤ N) (q : Q none h) : Endw p e below T (mkF m pc Ls []) (Fin s Z EL nw Q K N) :=
  C.leave (fun _ => rfl) hk hn q fun X fs hl => X.returnOut C.hx C.rtq (C.dec hd) hl
theorem Core.retX (C : Core p l e R s m args below meth c bs ml ret nm own Z a0 EL nw vm T h k n) {K N : Nat} {t : FieldType} {w : Value} {i : Instr} (hr : ret = some t) (hn' : narrow t w = w) (hi : (i = .ireturn ∧ (t = .int ∨ t = .boolean ∨ t = .byte ∨ t = .char ∨ t = .short) ∧ ∃ z, w = .int z) ∨ (i = .lreturn ∧ t = .long ∧ ∃ z, w = .long z) ∨ (i = .dreturn ∧ t = .double ∧ ∃ z, w = .double z) ∨ (i = .freturn ∧ t = .float ∧ ∃ z, w = .float z) ∨ (i = .areturn ∧ t.isReference = true ∧ w.isRef = true))
    (hd : decode bs pc = .ok (i, 1)) (hk : k ≤ K) (hn : n ≤ N) (q : Q (some w) h) : Endw p e below T (mkF m pc Ls (w :: rest)) (Fin s Z EL nw Q K N) :=
  C.leave (fun z => by subst hr; cases z) hk hn q fun X fs hl => RoadKit.retOut X C.hx (C.rtq.trans hr) hn' hi (C.dec hd) hl
theorem Core.retI (C : Core p l e R s m args below meth c bs ml ret nm own Z a0 EL nw vm T h k n) {K N : Nat} {t : FieldType} {z : Int32} (hr : ret = some t) (ht : t = .int ∨ t = .boolean ∨ t = .byte ∨ t = .char ∨ t = .short) (hn' : narrow t (.int z) = .int z) (hd : decode bs pc = .ok (.ireturn, 1)) (hk : k ≤ K) (hn : n ≤ N) (q : Q (some (.int z)) h) : Endw p e below T (mkF m pc Ls (.int z :: rest)) (Fin s Z EL nw Q K N) :=
  C.retX hr hn' (Or.inl ⟨rfl, ht, _, rfl⟩) hd hk hn q
theorem Core.retA (C : Core p l e R s m args below meth c bs ml ret nm own Z a0 EL nw vm T h k n) {K N : Nat} {t : FieldType} {w : Value} (hr : ret = some t) (ht : t.isReference = true) (hw : w.isRef = true) (hn' : narrow t w = w) (hd : decode bs pc = .ok (.areturn, 1)) (hk : k ≤ K) (hn : n ≤ N) (q : Q (some w) h) : Endw p e below T (mkF m pc Ls (w :: rest)) (Fin s Z EL nw Q K N) :=
  C.retX hr hn' (Or.inr (Or.inr (Or.inr (Or.inr ⟨rfl, ht, hw⟩)))) hd hk hn q
/-! ## String constants -/
theorem Core.ldcC (C : Core p l e R s m args below meth c bs ml ret nm own Z a0 EL nw vm T h k n) {text : String} {ix N : Nat} {vs : List Value} {z : Int32} (w : (Jvm.Cond.stringLink own ix text).before a0 Z = true) (wS : ∀ a ∈ Bundle.stringAtoms, a.before a0 Z = true) (hmem : (own, ix) ∈ EL) (ht : (∀ c ∈ text.toList, c.toNat < 256) ∧ text.toList.map (fun c => Value.int (Jvm.Lit.byteI c.toNat.toUInt16)) = vs) (hz : ¬ z < 0) (hl : z.toNatClampNeg = vs.length)
    (hN : 4 * text.toList.length ≤ N) (hbig : N ≤ 536870912) (hk : k + 2 ≤ R.cells) (hn : n + (N + 4) ≤ R.slots) (hd : decode bs pc = .ok (.ldc ix, 2)) (hp : pc + 2 = pc') (hnw : nw = false)
    (K : ∀ vm' T' h' a b kA, Core p l e R s m args below meth c bs ml ret nm own Z a0 EL nw vm' T' h' (k + 2) (n + (N + 4)) → Keep h h' [] → CHr Z EL vm h vm' h' → Exa Z h' a "java/lang/String" → Fld Z h' a "java/lang/String" "coder" "B" (.int 0) → Fld Z h' a "java/lang/String" "value" "[B" (.ref b) → Arv Z h' b kA .byte z vs (.int 0) → (∀ x, Safe Z EL vm' h' x → x ≠ a ∧ x ≠ b) → Endw p e below T' (mkF m pc' Ls (.ref a :: rest)) F) : Endw p e below T (mkF m pc Ls rest) F := by
  subst hp
  obtain ⟨-, ⟨L, X, NL⟩, -⟩ := id C
  obtain ⟨k0, hS, hk0⟩ := C.since
  obtain ⟨a, T', h', k1, b, kA, X', e', E, hS', hk1, hZ', hown', r1, r2, r3, r4, -, -, A, -, r5, st⟩ := RoadKit.ldcCH X C.hx C.warm C.hown w wS C.heq hS hk0 C.ew hmem C.chv ht hz hl (g := mkF m pc Ls rest) rfl (C.dec hd) hN hbig hk hn
  exact Endw.st st (K T'.vm T' h' a b kA ⟨C.1, ⟨L, X', NL⟩, e', hZ', hown', ⟨k1, hS', hk1⟩, C.chr.trans A, old_keep C.old (keep_of_ext E) all0, fun z => by rw [hnw] at z; cases z⟩ (keep_of_ext E) A r1 r2 r3 r4 r5)
theorem Core.ldcO (C : Core p l e R s m args below meth c bs ml ret nm own Z a0 EL nw vm T h k n) {text : String} {ix N : Nat} (w : (Jvm.Cond.stringLink own ix text).before a0 Z = true) (wS : ∀ a ∈ Bundle.stringAtoms, a.before a0 Z = true)
    (hN : 4 * text.toList.length ≤ N) (hbig : N ≤ 536870912) (hk : k + 2 ≤ R.cells) (hn : n + (N + 4) ≤ R.slots) (hd : decode bs pc = .ok (.ldc ix, 2)) (hp : pc + 2 = pc') (hnw : nw = false)
    (K : ∀ vm' T' h' a, Core p l e R s m args below meth c bs ml ret nm own Z a0 EL nw vm' T' h' (k + 2) (n + (N + 4)) → Keep h h' [] → CHr Z EL vm h vm' h' → Endw p e below T' (mkF m pc' Ls (.ref a :: rest)) F) : Endw p e below T (mkF m pc Ls rest) F := by
  subst hp
  obtain ⟨-, ⟨L, X, NL⟩, -⟩ := id C
  obtain ⟨k0, hS, hk0⟩ := C.since
  obtain ⟨a, T', h', k1, X', e', E, hS', hk1, hZ', hown', A, -, st⟩ := RoadKit.ldcOH X C.hx C.warm C.hown w wS C.heq hS hk0 C.ew C.chv (g := mkF m pc Ls rest) rfl (C.dec hd) hN hbig hk hn
  exact Endw.st st (K T'.vm T' h' a ⟨C.1, ⟨L, X', NL⟩, e', hZ', hown', ⟨k1, hS', hk1⟩, C.chr.trans A, old_keep C.old (keep_of_ext E) all0, fun z => by rw [hnw] at z; cases z⟩ (keep_of_ext E) A)
end Walk
end Jvm.Own
namespace Jvm.Own
open Jvm Jvm.ClassFile Sem Op Lib Jvm.Free Jvm.Stand Jvm.LawKit Jvm.RoadKit Bundle
section Help
variable {p : Program} {l : Launch} {e : Env} {R : Room} {s : State} {m : MethodId} {args : Array Value} {below : List Frame} {meth : Method} {c : Code}
variable {bs : ByteArray} {ml : Nat} {ret : Option FieldType} {nm own : String} {Z : State} {a0 : Array Value} {EL : List (String × Nat)} {nw : Bool} {vm : Vm} {T T' : State} {h h' : Heap} {k n : Nat} {g : JFrame} {rest : List Value}
theorem own_irem (C : Core p l e R s m args below meth c bs ml ret nm own Z a0 EL nw vm T h k n) {x y : Int32} {target : State} (hg : g.method = m) (hd : decode bs g.pc = .ok (.irem, 1)) (hs : g.stack = .int y :: .int x :: rest) (hy : y ≠ 0) (hr : Steps p.tables e below (T.setTop { g with pc := g.pc + 1, stack := .int (x % y) :: rest }) target) : Steps p.tables e below (T.setTop g) target := by
  obtain ⟨-, ⟨L, X, -⟩, -⟩ := id C
  exact iremM X C.hx hg (C.dec hd) hs hy hr
theorem own_ldcI (C : Core p l e R s m args below meth c bs ml ret nm own Z a0 EL nw vm T h k n) {ix : Nat} {v : Int32} {target : State} (w : (Jvm.Cond.constant own ix v).before a0 Z = true) (hg : g.method = m) (hd : decode bs g.pc = .ok (.ldc ix, 2)) (hr : Steps p.tables e below (T.setTop { g with pc := g.pc + 2, stack := .int v :: g.stack }) target) : Steps p.tables e below (T.setTop g) target := by
  obtain ⟨-, ⟨L, X, -⟩, -⟩ := id C
  exact X.ldcI C.hx C.hown (mvT C.warm w) hg (C.dec hd) hr
theorem own_nar_mask {x : Int32} : nar .char ((x &&& 255).toUInt32.toUInt16.toUInt32.toInt32) = x &&& 255 := by
  show ((x &&& 255).toUInt32.toUInt16.toUInt32.toInt32).toUInt32.toUInt16.toUInt32.toInt32 = _
  rw [i2c_mask, i2c_mask]
theorem own_toInt {y : Int32} (h : y.toBitVec.toNat < 2147483648) : y.toInt = (y.toBitVec.toNat : Int) := by
  have : y.toInt = y.toBitVec.toInt := rfl
  rw [this, BitVec.toInt_eq_toNat_cond, if_pos (by omega)]
theorem own_and_nat (x m : Int32) : (x &&& m).toBitVec.toNat = x.toBitVec.toNat &&& m.toBitVec.toNat := by simp [Int32.toBitVec_and, BitVec.toNat_and]
theorem own_cI (x : Int32) : (Value.int x).category = 1 := rfl
theorem own_cR (x : Addr) : (Value.ref x).category = 1 := rfl
theorem own_cN : Value.null.category = 1 := rfl
theorem own_cJ (x : Int64) : (Value.long x).category = 2 := rfl
theorem own_cD (x : UInt64) : (Value.double x).category = 2 := rfl
/-- a char of one byte -/
def B8 (c : Int32) : Prop := ¬ c < 0 ∧ ¬ (255 : Int32) < c
theorem own_mask255 (x : Int32) : B8 (x &&& 255) := by
  have e : (x &&& 255).toBitVec.toNat ≤ 255 := by rw [own_and_nat]; exact Nat.and_le_right
  have q := own_toInt (y := x &&& 255) (by omega)
  refine ⟨?_, ?_⟩ <;> rw [Int32.lt_iff_toInt_lt, q]
  · show ¬ (_ < (0 : Int)); omega
  · show ¬ ((255 : Int) < _); omega
theorem own_c0 {P : Int32 → Prop} : ∀ c ∈ ([] : List Int32), P c := fun _ q => nomatch q
theorem own_cS {P : Int32 → Prop} {y : Int32} {L : List Int32} (q : P y) (r : ∀ c ∈ L, P c) : ∀ c ∈ y :: L, P c := fun x z => (List.mem_cons.mp z).elim (fun u => u ▸ q) (r x)
theorem own_nar_ref {v : Value} {t : FieldType} (h : v.isRef = true) (ht : t.isReference = true := by rfl) : narrow t v = v := by
  cases v <;> cases t <;> first | rfl | (cases h; done) | (cases ht; done)
theorem own_fits_ref {v : Value} {t : FieldType} (h : v.isRef = true) (ht : t.isReference = true := by rfl) : fits t v = true := by
  cases v <;> cases t <;> first | rfl | (cases h; done) | (cases ht; done)
theorem own_nar_byte {x : Int32} : nar .byte (x.toInt8.toInt32) = x.toInt8.toInt32 := by
  show (x.toInt8.toInt32).toInt8.toInt32 = _
  simp
/-- the String at a: Latin-1, its byte[] at b, its chars cs -/
def Str (Z : State) (h : Heap) (a b : Addr) (kb : ClassId) (cs : List Int32) : Prop :=
  Exa Z h a "java/lang/String" ∧ Fld Z h a "java/lang/String" "coder" "B" (.int 0) ∧ Fld Z h a "java/lang/String" "value" "[B" (.ref b) ∧
    Arv Z h b kb .byte (Int32.ofNat cs.length) ((cs.map fun c => c.toInt8.toInt32).map Value.int) (.int 0) ∧ (∀ c ∈ cs, B8 c) ∧ cs.length ≤ 4000
theorem Str.keep {a b : Addr} {kb : ClassId} {cs : List Int32} {ws : List Addr} (S : Str Z h a b kb cs) (K : Keep h h' ws) (q1 : a ∉ ws) (q2 : b ∉ ws) : Str Z h' a b kb cs :=
  ⟨S.1.keep K, S.2.1.keep K q1, S.2.2.1.keep K q1, S.2.2.2.1.keep K q2, S.2.2.2.2⟩
theorem own_instanceofNull (C : Core p l e R s m args below meth c bs ml ret nm own Z a0 EL nw vm T h k n) {ix : Nat} {target : State} (hg : g.method = m) (hs : g.stack = .null :: rest) (hd : decode bs g.pc = .ok (.instanceof ix, 3)) (hr : Steps p.tables e below (T.setTop { g with pc := g.pc + 3, stack := .int 0 :: rest }) target) : Steps p.tables e below (T.setTop g) target := by
  obtain ⟨-, ⟨L, X, -⟩, -⟩ := id C
  exact X.instanceofNull C.hx hg hs (C.dec hd) _ hr
theorem own_checkcastNull (C : Core p l e R s m args below meth c bs ml ret nm own Z a0 EL nw vm T h k n) {ix : Nat} {target : State} (hg : g.method = m) (hs : g.stack = .null :: rest) (hd : decode bs g.pc = .ok (.checkcast ix, 3)) (hr : Steps p.tables e below (T.setTop { g with pc := g.pc + 3 }) target) : Steps p.tables e below (T.setTop g) target := by
  obtain ⟨-, ⟨L, X, -⟩, -⟩ := id C
  exact X.checkcastNull C.hx hg hs (C.dec hd) _ hr
theorem own_ldc2J (C : Core p l e R s m args below meth c bs ml ret nm own Z a0 EL nw vm T h k n) {ix : Nat} {v : Int64} {target : State} (w : (Jvm.Cond.constantLong own ix v).before a0 Z = true) (hg : g.method = m) (hd : decode bs g.pc = .ok (.ldc2_w ix, 3)) (hr : Steps p.tables e below (T.setTop { g with pc := g.pc + 3, stack := .long v :: g.stack }) target) : Steps p.tables e below (T.setTop g) target := by
  obtain ⟨-, ⟨L, X, -⟩, -⟩ := id C
  exact X.ldc2J C.hx C.hown (mvT C.warm w) hg (C.dec hd) hr
variable {F : Outcome → State → Prop} {pc pc' : Nat} {Ls : Array Slot}
theorem Core.instY (C : Core p l e R s m args below meth c bs ml ret nm own Z a0 EL nw vm T h k n) {K : String} {ix : Nat} {a : Addr} (w : (Jvm.Cond.classLink own ix K).before a0 Z = true) (f : Ins Z h a K true) (hd : decode bs pc = .ok (.instanceof ix, 3)) (hp : pc + 3 = pc')
    (Kk : ∀ T', Core p l e R s m args below meth c bs ml ret nm own Z a0 EL nw vm T' h k n → Endw p e below T' (mkF m pc' Ls (.int 1 :: rest)) F) : Endw p e below T (mkF m pc Ls (.ref a :: rest)) F := by
  subst hp
  obtain ⟨-, ⟨L, X, N⟩, -⟩ := id C
  obtain ⟨T', X', e', st⟩ := RoadKit.instY X C.hx C.warm C.hown w C.heq f (g := mkF m pc Ls (.ref a :: rest)) rfl rfl (C.dec hd)
  exact Endw.st st (Kk T' (C.same X' N e'))
theorem Core.castY (C : Core p l e R s m args below meth c bs ml ret nm own Z a0 EL nw vm T h k n) {K : String} {ix : Nat} {a : Addr} (w : (Jvm.Cond.classLink own ix K).before a0 Z = true) (f : Ins Z h a K true) (hd : decode bs pc = .ok (.checkcast ix, 3)) (hp : pc + 3 = pc')
    (Kk : ∀ T', Core p l e R s m args below meth c bs ml ret nm own Z a0 EL nw vm T' h k n → Endw p e below T' (mkF m pc' Ls (.ref a :: rest)) F) : Endw p e below T (mkF m pc Ls (.ref a :: rest)) F := by
  subst hp
  obtain ⟨-, ⟨L, X, N⟩, -⟩ := id C
  obtain ⟨T', X', e', st⟩ := RoadKit.castY X C.hx C.warm C.hown w C.heq f (g := mkF m pc Ls (.ref a :: rest)) rfl rfl (C.dec hd)
  exact Endw.st st (Kk T' (C.same X' N e'))
theorem Core.instNo (C : Core p l e R s m args below meth c bs ml ret nm own Z a0 EL nw vm T h k n) {K Cl : String} {ix : Nat} {a : Addr} (w : (Jvm.Cond.classLink own ix K).before a0 Z = true) (E : Exa Z h a Cl) (f : ∃ c t, Z.vm.findClass Cl = some c ∧ Z.vm.findClass K = some t ∧ Z.vm.assignable c t = false) (hd : decode bs pc = .ok (.instanceof ix, 3)) (hp : pc + 3 = pc')
    (Kk : ∀ T', Core p l e R s m args below meth c bs ml ret nm own Z a0 EL nw vm T' h k n → Endw p e below T' (mkF m pc' Ls (.int 0 :: rest)) F) : Endw p e below T (mkF m pc Ls (.ref a :: rest)) F := by
  subst hp
  obtain ⟨-, ⟨L, X, N⟩, -⟩ := id C
  obtain ⟨T', X', e', st⟩ := RoadKit.instNo X C.hx C.warm C.hown w C.heq E f (g := mkF m pc Ls (.ref a :: rest)) rfl rfl (C.dec hd)
  exact Endw.st st (Kk T' (C.same X' N e'))
theorem own_found {K : String} {i : Nat} (wk : (Jvm.Cond.instantiable K i).before a0 Z = true) : ∃ t kt, Z.vm.findClass K = some t ∧ Z.vm.classes[t]? = some kt ∧ kt.kind = .ordinary ∧ kt.isInterface = false := by
  obtain ⟨t, kt, h1, h2, h3, h4, -⟩ := Cond.instantiable_spec wk
  exact ⟨t, kt, h1, h2, h3, (Bool.or_eq_false_iff.mp h4).1⟩
theorem own_NSroot {O K : String} {i : Nat} (w : (Jvm.Cond.noSuperclass O).before a0 Z = true) (wk : (Jvm.Cond.instantiable K i).before a0 Z = true) (hn : O ≠ K) : NS Z O K := by
  obtain ⟨c, k, h1, h2, h3, -, -⟩ := Cond.noSuperclass_spec w
  obtain ⟨t, -, g1, -⟩ := own_found wk
  have ne := ids_ne h1 g1 hn
  refine ⟨c, t, h1, g1, fun fuel => ?_⟩
  cases fuel with
  | zero => rfl
  | succ f => simp [Vm.isSubclassAux, ne, h2, h3]
theorem own_NSno {Cl S K : String} {i : Nat} (w : (Jvm.Cond.superclass Cl S).before a0 Z = true) (wk : (Jvm.Cond.instantiable K i).before a0 Z = true) (n : NS Z Cl K) (hn : Cl ≠ K) : ∃ c t, Z.vm.findClass Cl = some c ∧ Z.vm.findClass K = some t ∧ Z.vm.assignable c t = false := by
  obtain ⟨c, t, h0, g0, n3⟩ := n
  obtain ⟨p, k, kp, h1, h2, h3, h4, h5, -, h7⟩ := Cond.superclass_spec h0 w
  obtain ⟨t', kt, g1, g2, g3, g4⟩ := own_found wk
  cases g0.symm.trans g1
  have ne := ids_ne h0 g0 hn
  refine ⟨c, t, h0, g0, ?_⟩
  show Z.vm.assignableAux (255 + 1) c t = false
  simp [Vm.assignableAux, ne, h2, g2, h5, g3, g4, Vm.isSubclass, n3]
end Help
end Jvm.Own
namespace Jvm.Pilot.@@N@@
open Jvm Jvm.ClassFile Sem Op Lib Jvm.Free Jvm.Stand Jvm.LawKit Jvm.RoadKit Bundle Jvm.Own Jvm.Pilot.@@N@@.Jvm.D
theorem d0_0 : decode jdk_30_method_1_code 0 = .ok (.aload_n 0, 1) := by decide +kernel
theorem d0_1 : decode jdk_30_method_1_code 1 = .ok (.invokespecial 1, 3) := by decide +kernel
theorem W11 {Z : State} {a0 : Array Value} (hw : ∀ d ∈ tables_1, d.before a0 Z = true) : (Jvm.Cond.methodLink "java/lang/Record" (1 : Nat) ({ cls := "java/lang/Object", name := "<init>", desc := "()V" } : Jvm.MethodName)).before a0 Z = true := hw _ (List.mem_of_getElem? (i := 11) rfl)
theorem W12 {Z : State} {a0 : Array Value} (hw : ∀ d ∈ tables_1, d.before a0 Z = true) : (Jvm.Cond.instanceMethod ({ cls := "java/lang/Object", name := "<init>", desc := "()V" } : Jvm.MethodName)).before a0 Z = true := hw _ (List.mem_of_getElem? (i := 12) rfl)
theorem W13 {Z : State} {a0 : Array Value} (hw : ∀ d ∈ tables_1, d.before a0 Z = true) : (Jvm.Cond.code ({ cls := "java/lang/Object", name := "<init>", desc := "()V" } : Jvm.MethodName) object_method_1_code (1 : Nat) (Option.none : Option Jvm.ClassFile.FieldType)).before a0 Z = true := hw _ (List.mem_of_getElem? (i := 13) rfl)
theorem d0_4 : decode jdk_30_method_1_code 4 = .ok (.return_, 1) := by decide +kernel
theorem pn_5265636f7264_5 : plainName "java/lang/Record" = true := by first | (simp [plainName, overriddenIn]; done) | decide +kernel
theorem d1_0 : decode jdk_43_method_3_code 0 = .ok (.iload_n 0, 1) := by decide +kernel
theorem d1_1 : decode jdk_43_method_3_code 1 = .ok (.sipush 255, 3) := by decide +kernel
theorem d1_4 : decode jdk_43_method_3_code 4 = .ok (.if_icmp .gt 7, 3) := by decide +kernel
theorem d1_7 : decode jdk_43_method_3_code 7 = .ok (.iconst 1, 1) := by decide +kernel
theorem d1_8 : decode jdk_43_method_3_code 8 = .ok (.goto 4, 3) := by decide +kernel
theorem d1_12 : decode jdk_43_method_3_code 12 = .ok (.ireturn, 1) := by decide +kernel
theorem pn_4c6174696e31_7 : plainName "java/lang/StringLatin1" = true := by first | (simp [plainName, overriddenIn]; done) | decide +kernel
theorem d2_0 : decode jdk_43_method_46_code 0 = .ok (.iconst 1, 1) := by decide +kernel
theorem d2_1 : decode jdk_43_method_46_code 1 = .ok (.newarray .byte, 2) := by decide +kernel
theorem W40 {Z : State} {a0 : Array Value} (hw : ∀ d ∈ tables_1, d.before a0 Z = true) : (Jvm.Cond.arrayClass Jvm.ClassFile.FieldType.byte).before a0 Z = true := hw _ (List.mem_of_getElem? (i := 40) rfl)
theorem d2_3 : decode jdk_43_method_46_code 3 = .ok (.dup, 1) := by decide +kernel
theorem d2_4 : decode jdk_43_method_46_code 4 = .ok (.iconst 0, 1) := by decide +kernel
theorem d2_5 : decode jdk_43_method_46_code 5 = .ok (.iload_n 0, 1) := by decide +kernel
theorem d2_6 : decode jdk_43_method_46_code 6 = .ok (.i2b, 1) := by decide +kernel
theorem d2_7 : decode jdk_43_method_46_code 7 = .ok (.bastore, 1) := by decide +kernel
theorem d2_8 : decode jdk_43_method_46_code 8 = .ok (.areturn, 1) := by decide +kernel
theorem d3_0 : decode jdk_42_method_151_code 0 = .ok (.aload_n 0, 1) := by decide +kernel
theorem d3_1 : decode jdk_42_method_151_code 1 = .ok (.invokespecial 1, 3) := by decide +kernel
theorem W45 {Z : State} {a0 : Array Value} (hw : ∀ d ∈ tables_1, d.before a0 Z = true) : (Jvm.Cond.methodLink "java/lang/String" (1 : Nat) ({ cls := "java/lang/Object", name := "<init>", desc := "()V" } : Jvm.MethodName)).before a0 Z = true := hw _ (List.mem_of_getElem? (i := 45) rfl)
theorem d3_4 : decode jdk_42_method_151_code 4 = .ok (.aload_n 0, 1) := by decide +kernel
theorem d3_5 : decode jdk_42_method_151_code 5 = .ok (.aload_n 1, 1) := by decide +kernel
theorem d3_6 : decode jdk_42_method_151_code 6 = .ok (.putfield 9, 3) := by decide +kernel
theorem W46 {Z : State} {a0 : Array Value} (hw : ∀ d ∈ tables_1, d.before a0 Z = true) : (Jvm.Cond.fieldLink "java/lang/String" (9 : Nat) "java/lang/String" "value" "[B").before a0 Z = true := hw _ (List.mem_of_getElem? (i := 46) rfl)
theorem W47 {Z : State} {a0 : Array Value} (hw : ∀ d ∈ tables_1, d.before a0 Z = true) : (Jvm.Cond.laysFinal "java/lang/String" "java/lang/String" "value" "[B").before a0 Z = true := hw _ (List.mem_of_getElem? (i := 47) rfl)
theorem W36 {Z : State} {a0 : Array Value} (hw : ∀ d ∈ tables_1, d.before a0 Z = true) : (Jvm.Cond.instantiable "java/lang/String" (4 : Nat)).before a0 Z = true := hw _ (List.mem_of_getElem? (i := 36) rfl)
theorem W49 {Z : State} {a0 : Array Value} (hw : ∀ d ∈ tables_1, d.before a0 Z = true) : (Jvm.Cond.laysFinal "java/lang/String" "java/lang/String" "coder" "B").before a0 Z = true := hw _ (List.mem_of_getElem? (i := 49) rfl)
theorem d3_9 : decode jdk_42_method_151_code 9 = .ok (.aload_n 0, 1) := by decide +kernel
theorem d3_10 : decode jdk_42_method_151_code 10 = .ok (.iload_n 2, 1) := by decide +kernel
theorem d3_11 : decode jdk_42_method_151_code 11 = .ok (.putfield 15, 3) := by decide +kernel
theorem W48 {Z : State} {a0 : Array Value} (hw : ∀ d ∈ tables_1, d.before a0 Z = true) : (Jvm.Cond.fieldLink "java/lang/String" (15 : Nat) "java/lang/String" "coder" "B").before a0 Z = true := hw _ (List.mem_of_getElem? (i := 48) rfl)
theorem d3_14 : decode jdk_42_method_151_code 14 = .ok (.return_, 1) := by decide +kernel
theorem pn_537472696e67_6 : plainName "java/lang/String" = true := by first | (simp [plainName, overriddenIn]; done) | decide +kernel
theorem d4_0 : decode jdk_42_method_139_code 0 = .ok (.getstatic 38, 3) := by decide +kernel
theorem W30 {Z : State} {a0 : Array Value} (hw : ∀ d ∈ tables_1, d.before a0 Z = true) : (Jvm.Cond.fieldLink "java/lang/String" (38 : Nat) "java/lang/String" "COMPACT_STRINGS" "Z").before a0 Z = true := hw _ (List.mem_of_getElem? (i := 30) rfl)
theorem d4_3 : decode jdk_42_method_139_code 3 = .ok (.ifCond .eq 23, 3) := by decide +kernel
theorem d4_6 : decode jdk_42_method_139_code 6 = .ok (.iload_n 0, 1) := by decide +kernel
theorem d4_7 : decode jdk_42_method_139_code 7 = .ok (.invokestatic 1015, 3) := by decide +kernel
theorem W31 {Z : State} {a0 : Array Value} (hw : ∀ d ∈ tables_1, d.before a0 Z = true) : (Jvm.Cond.methodLink "java/lang/String" (1015 : Nat) ({ cls := "java/lang/StringLatin1", name := "canEncode", desc := "(C)Z" } : Jvm.MethodName)).before a0 Z = true := hw _ (List.mem_of_getElem? (i := 31) rfl)
theorem pd_2843295a : parseMethodDescriptor "(C)Z" = some ⟨[.char], (some .boolean)⟩ := by decide +kernel
theorem W32 {Z : State} {a0 : Array Value} (hw : ∀ d ∈ tables_1, d.before a0 Z = true) : (Jvm.Cond.static ({ cls := "java/lang/StringLatin1", name := "canEncode", desc := "(C)Z" } : Jvm.MethodName)).before a0 Z = true := hw _ (List.mem_of_getElem? (i := 32) rfl)
theorem W34 {Z : State} {a0 : Array Value} (hw : ∀ d ∈ tables_1, d.before a0 Z = true) : (Jvm.Cond.code ({ cls := "java/lang/StringLatin1", name := "canEncode", desc := "(C)Z" } : Jvm.MethodName) jdk_43_method_3_code (1 : Nat) (Option.some Jvm.ClassFile.FieldType.boolean)).before a0 Z = true := hw _ (List.mem_of_getElem? (i := 34) rfl)
theorem W33 {Z : State} {a0 : Array Value} (hw : ∀ d ∈ tables_1, d.before a0 Z = true) : (Jvm.Cond.initialized "java/lang/StringLatin1").before a0 Z = true := hw _ (List.mem_of_getElem? (i := 33) rfl)
theorem d4_10 : decode jdk_42_method_139_code 10 = .ok (.ifCond .eq 16, 3) := by decide +kernel
theorem d4_13 : decode jdk_42_method_139_code 13 = .ok (.new 10, 3) := by decide +kernel
theorem W35 {Z : State} {a0 : Array Value} (hw : ∀ d ∈ tables_1, d.before a0 Z = true) : (Jvm.Cond.classLink "java/lang/String" (10 : Nat) "java/lang/String").before a0 Z = true := hw _ (List.mem_of_getElem? (i := 35) rfl)
theorem W28 {Z : State} {a0 : Array Value} (hw : ∀ d ∈ tables_1, d.before a0 Z = true) : (Jvm.Cond.initialized "java/lang/String").before a0 Z = true := hw _ (List.mem_of_getElem? (i := 28) rfl)
theorem d4_16 : decode jdk_42_method_139_code 16 = .ok (.dup, 1) := by decide +kernel
theorem d4_17 : decode jdk_42_method_139_code 17 = .ok (.iload_n 0, 1) := by decide +kernel
theorem d4_18 : decode jdk_42_method_139_code 18 = .ok (.invokestatic 1018, 3) := by decide +kernel
theorem W37 {Z : State} {a0 : Array Value} (hw : ∀ d ∈ tables_1, d.before a0 Z = true) : (Jvm.Cond.methodLink "java/lang/String" (1018 : Nat) ({ cls := "java/lang/StringLatin1", name := "toBytes", desc := "(C)[B" } : Jvm.MethodName)).before a0 Z = true := hw _ (List.mem_of_getElem? (i := 37) rfl)
theorem pd_2843295b42 : parseMethodDescriptor "(C)[B" = some ⟨[.char], (some (.array .byte))⟩ := by decide +kernel
theorem W38 {Z : State} {a0 : Array Value} (hw : ∀ d ∈ tables_1, d.before a0 Z = true) : (Jvm.Cond.static ({ cls := "java/lang/StringLatin1", name := "toBytes", desc := "(C)[B" } : Jvm.MethodName)).before a0 Z = true := hw _ (List.mem_of_getElem? (i := 38) rfl)
theorem W39 {Z : State} {a0 : Array Value} (hw : ∀ d ∈ tables_1, d.before a0 Z = true) : (Jvm.Cond.code ({ cls := "java/lang/StringLatin1", name := "toBytes", desc := "(C)[B" } : Jvm.MethodName) jdk_43_method_46_code (1 : Nat) (Option.some (Jvm.ClassFile.FieldType.array Jvm.ClassFile.FieldType.byte))).before a0 Z = true := hw _ (List.mem_of_getElem? (i := 39) rfl)
theorem d4_21 : decode jdk_42_method_139_code 21 = .ok (.iconst 0, 1) := by decide +kernel
theorem d4_22 : decode jdk_42_method_139_code 22 = .ok (.invokespecial 209, 3) := by decide +kernel
theorem W41 {Z : State} {a0 : Array Value} (hw : ∀ d ∈ tables_1, d.before a0 Z = true) : (Jvm.Cond.methodLink "java/lang/String" (209 : Nat) ({ cls := "java/lang/String", name := "<init>", desc := "([BB)V" } : Jvm.MethodName)).before a0 Z = true := hw _ (List.mem_of_getElem? (i := 41) rfl)
theorem pd_285b42422956 : parseMethodDescriptor "([BB)V" = some ⟨[(.array .byte), .byte], none⟩ := by decide +kernel
theorem W42 {Z : State} {a0 : Array Value} (hw : ∀ d ∈ tables_1, d.before a0 Z = true) : (Jvm.Cond.instanceMethod ({ cls := "java/lang/String", name := "<init>", desc := "([BB)V" } : Jvm.MethodName)).before a0 Z = true := hw _ (List.mem_of_getElem? (i := 42) rfl)
theorem W44 {Z : State} {a0 : Array Value} (hw : ∀ d ∈ tables_1, d.before a0 Z = true) : (Jvm.Cond.code ({ cls := "java/lang/String", name := "<init>", desc := "([BB)V" } : Jvm.MethodName) jdk_42_method_151_code (3 : Nat) (Option.none : Option Jvm.ClassFile.FieldType)).before a0 Z = true := hw _ (List.mem_of_getElem? (i := 44) rfl)
theorem d4_25 : decode jdk_42_method_139_code 25 = .ok (.areturn, 1) := by decide +kernel
theorem d5_0 : decode prog_117_method_1_code 0 = .ok (.aload_n 0, 1) := by decide +kernel
theorem d5_1 : decode prog_117_method_1_code 1 = .ok (.invokespecial 1, 3) := by decide +kernel
theorem W6 {Z : State} {a0 : Array Value} (hw : ∀ d ∈ tables_1, d.before a0 Z = true) : (Jvm.Cond.methodLink "com/example/tessera/tessera/Value$IntegerValue" (1 : Nat) ({ cls := "java/lang/Record", name := "<init>", desc := "()V" } : Jvm.MethodName)).before a0 Z = true := hw _ (List.mem_of_getElem? (i := 6) rfl)
theorem pd_282956 : parseMethodDescriptor "()V" = some ⟨[], none⟩ := by decide +kernel
theorem W7 {Z : State} {a0 : Array Value} (hw : ∀ d ∈ tables_1, d.before a0 Z = true) : (Jvm.Cond.instanceMethod ({ cls := "java/lang/Record", name := "<init>", desc := "()V" } : Jvm.MethodName)).before a0 Z = true := hw _ (List.mem_of_getElem? (i := 7) rfl)
theorem W10 {Z : State} {a0 : Array Value} (hw : ∀ d ∈ tables_1, d.before a0 Z = true) : (Jvm.Cond.code ({ cls := "java/lang/Record", name := "<init>", desc := "()V" } : Jvm.MethodName) jdk_30_method_1_code (1 : Nat) (Option.none : Option Jvm.ClassFile.FieldType)).before a0 Z = true := hw _ (List.mem_of_getElem? (i := 10) rfl)
theorem W9 {Z : State} {a0 : Array Value} (hw : ∀ d ∈ tables_1, d.before a0 Z = true) : (Jvm.Cond.initialized "java/lang/Record").before a0 Z = true := hw _ (List.mem_of_getElem? (i := 9) rfl)
theorem d5_4 : decode prog_117_method_1_code 4 = .ok (.aload_n 0, 1) := by decide +kernel
theorem d5_5 : decode prog_117_method_1_code 5 = .ok (.lload_n 1, 1) := by decide +kernel
theorem d5_6 : decode prog_117_method_1_code 6 = .ok (.putfield 7, 3) := by decide +kernel
theorem W14 {Z : State} {a0 : Array Value} (hw : ∀ d ∈ tables_1, d.before a0 Z = true) : (Jvm.Cond.fieldLink "com/example/tessera/tessera/Value$IntegerValue" (7 : Nat) "com/example/tessera/tessera/Value$IntegerValue" "value" "J").before a0 Z = true := hw _ (List.mem_of_getElem? (i := 14) rfl)
theorem W15 {Z : State} {a0 : Array Value} (hw : ∀ d ∈ tables_1, d.before a0 Z = true) : (Jvm.Cond.laysFinal "com/example/tessera/tessera/Value$IntegerValue" "com/example/tessera/tessera/Value$IntegerValue" "value" "J").before a0 Z = true := hw _ (List.mem_of_getElem? (i := 15) rfl)
theorem W1 {Z : State} {a0 : Array Value} (hw : ∀ d ∈ tables_1, d.before a0 Z = true) : (Jvm.Cond.instantiable "com/example/tessera/tessera/Value$IntegerValue" (1 : Nat)).before a0 Z = true := hw _ (List.mem_of_getElem? (i := 1) rfl)
theorem d5_9 : decode prog_117_method_1_code 9 = .ok (.return_, 1) := by decide +kernel
theorem pn_7256616c7565_2 : plainName "com/example/tessera/tessera/Value$IntegerValue" = true := by first | (simp [plainName, overriddenIn]; done) | decide +kernel
theorem d6_0 : decode prog_116_method_1_code 0 = .ok (.aload_n 0, 1) := by decide +kernel
theorem d6_1 : decode prog_116_method_1_code 1 = .ok (.invokespecial 1, 3) := by decide +kernel
theorem W67 {Z : State} {a0 : Array Value} (hw : ∀ d ∈ tables_1, d.before a0 Z = true) : (Jvm.Cond.methodLink "com/example/tessera/tessera/Value$FloatValue" (1 : Nat) ({ cls := "java/lang/Record", name := "<init>", desc := "()V" } : Jvm.MethodName)).before a0 Z = true := hw _ (List.mem_of_getElem? (i := 67) rfl)
theorem d6_4 : decode prog_116_method_1_code 4 = .ok (.aload_n 0, 1) := by decide +kernel
theorem d6_5 : decode prog_116_method_1_code 5 = .ok (.dload_n 1, 1) := by decide +kernel
theorem d6_6 : decode prog_116_method_1_code 6 = .ok (.putfield 7, 3) := by decide +kernel
theorem W68 {Z : State} {a0 : Array Value} (hw : ∀ d ∈ tables_1, d.before a0 Z = true) : (Jvm.Cond.fieldLink "com/example/tessera/tessera/Value$FloatValue" (7 : Nat) "com/example/tessera/tessera/Value$FloatValue" "value" "D").before a0 Z = true := hw _ (List.mem_of_getElem? (i := 68) rfl)
theorem W69 {Z : State} {a0 : Array Value} (hw : ∀ d ∈ tables_1, d.before a0 Z = true) : (Jvm.Cond.laysFinal "com/example/tessera/tessera/Value$FloatValue" "com/example/tessera/tessera/Value$FloatValue" "value" "D").before a0 Z = true := hw _ (List.mem_of_getElem? (i := 69) rfl)
theorem W62 {Z : State} {a0 : Array Value} (hw : ∀ d ∈ tables_1, d.before a0 Z = true) : (Jvm.Cond.instantiable "com/example/tessera/tessera/Value$FloatValue" (1 : Nat)).before a0 Z = true := hw _ (List.mem_of_getElem? (i := 62) rfl)
theorem d6_9 : decode prog_116_method_1_code 9 = .ok (.return_, 1) := by decide +kernel
theorem pn_7456616c7565_1 : plainName "com/example/tessera/tessera/Value$FloatValue" = true := by first | (simp [plainName, overriddenIn]; done) | decide +kernel
theorem d7_0 : decode prog_121_method_1_code 0 = .ok (.aload_n 0, 1) := by decide +kernel
theorem d7_1 : decode prog_121_method_1_code 1 = .ok (.invokespecial 1, 3) := by decide +kernel
theorem W53 {Z : State} {a0 : Array Value} (hw : ∀ d ∈ tables_1, d.before a0 Z = true) : (Jvm.Cond.methodLink "com/example/tessera/tessera/Value$SymbolValue" (1 : Nat) ({ cls := "java/lang/Record", name := "<init>", desc := "()V" } : Jvm.MethodName)).before a0 Z = true := hw _ (List.mem_of_getElem? (i := 53) rfl)
theorem d7_4 : decode prog_121_method_1_code 4 = .ok (.aload_n 0, 1) := by decide +kernel
theorem d7_5 : decode prog_121_method_1_code 5 = .ok (.aload_n 1, 1) := by decide +kernel
theorem d7_6 : decode prog_121_method_1_code 6 = .ok (.putfield 7, 3) := by decide +kernel
theorem W54 {Z : State} {a0 : Array Value} (hw : ∀ d ∈ tables_1, d.before a0 Z = true) : (Jvm.Cond.fieldLink "com/example/tessera/tessera/Value$SymbolValue" (7 : Nat) "com/example/tessera/tessera/Value$SymbolValue" "name" "Ljava/lang/String;").before a0 Z = true := hw _ (List.mem_of_getElem? (i := 54) rfl)
theorem W55 {Z : State} {a0 : Array Value} (hw : ∀ d ∈ tables_1, d.before a0 Z = true) : (Jvm.Cond.laysFinal "com/example/tessera/tessera/Value$SymbolValue" "com/example/tessera/tessera/Value$SymbolValue" "name" "Ljava/lang/String;").before a0 Z = true := hw _ (List.mem_of_getElem? (i := 55) rfl)
theorem W24 {Z : State} {a0 : Array Value} (hw : ∀ d ∈ tables_1, d.before a0 Z = true) : (Jvm.Cond.instantiable "com/example/tessera/tessera/Value$SymbolValue" (1 : Nat)).before a0 Z = true := hw _ (List.mem_of_getElem? (i := 24) rfl)
theorem d7_9 : decode prog_121_method_1_code 9 = .ok (.return_, 1) := by decide +kernel
theorem pn_6c56616c7565_3 : plainName "com/example/tessera/tessera/Value$SymbolValue" = true := by first | (simp [plainName, overriddenIn]; done) | decide +kernel
theorem d8_0 : decode prog_117_method_5_code 0 = .ok (.aload_n 1, 1) := by decide +kernel
theorem d8_1 : decode prog_117_method_5_code 1 = .ok (.instanceof 8, 3) := by decide +kernel
theorem W21 {Z : State} {a0 : Array Value} (hw : ∀ d ∈ tables_1, d.before a0 Z = true) : (Jvm.Cond.classLink "com/example/tessera/tessera/Value$IntegerValue" (8 : Nat) "com/example/tessera/tessera/Value$IntegerValue").before a0 Z = true := hw _ (List.mem_of_getElem? (i := 21) rfl)
theorem d8_4 : decode prog_117_method_5_code 4 = .ok (.ifCond .eq 24, 3) := by decide +kernel
theorem d8_7 : decode prog_117_method_5_code 7 = .ok (.aload_n 1, 1) := by decide +kernel
theorem d8_8 : decode prog_117_method_5_code 8 = .ok (.checkcast 8, 3) := by decide +kernel
theorem d8_11 : decode prog_117_method_5_code 11 = .ok (.astore_n 2, 1) := by decide +kernel
theorem d8_12 : decode prog_117_method_5_code 12 = .ok (.aload_n 0, 1) := by decide +kernel
theorem d8_13 : decode prog_117_method_5_code 13 = .ok (.getfield 7, 3) := by decide +kernel
theorem d8_16 : decode prog_117_method_5_code 16 = .ok (.aload_n 2, 1) := by decide +kernel
theorem d8_17 : decode prog_117_method_5_code 17 = .ok (.getfield 7, 3) := by decide +kernel
theorem d8_20 : decode prog_117_method_5_code 20 = .ok (.lcmp, 1) := by decide +kernel
theorem d8_21 : decode prog_117_method_5_code 21 = .ok (.ifCond .ne 7, 3) := by decide +kernel
theorem d8_24 : decode prog_117_method_5_code 24 = .ok (.iconst 1, 1) := by decide +kernel
theorem d8_25 : decode prog_117_method_5_code 25 = .ok (.goto 4, 3) := by decide +kernel
theorem d8_29 : decode prog_117_method_5_code 29 = .ok (.ireturn, 1) := by decide +kernel
theorem d8_28 : decode prog_117_method_5_code 28 = .ok (.iconst 0, 1) := by decide +kernel
theorem W58 {Z : State} {a0 : Array Value} (hw : ∀ d ∈ tables_1, d.before a0 Z = true) : (Jvm.Cond.noSuperclass "java/lang/Object").before a0 Z = true := hw _ (List.mem_of_getElem? (i := 58) rfl)
theorem W57 {Z : State} {a0 : Array Value} (hw : ∀ d ∈ tables_1, d.before a0 Z = true) : (Jvm.Cond.superclass "java/lang/Record" "java/lang/Object").before a0 Z = true := hw _ (List.mem_of_getElem? (i := 57) rfl)
theorem W70 {Z : State} {a0 : Array Value} (hw : ∀ d ∈ tables_1, d.before a0 Z = true) : (Jvm.Cond.superclass "com/example/tessera/tessera/Value$FloatValue" "java/lang/Record").before a0 Z = true := hw _ (List.mem_of_getElem? (i := 70) rfl)
theorem W56 {Z : State} {a0 : Array Value} (hw : ∀ d ∈ tables_1, d.before a0 Z = true) : (Jvm.Cond.superclass "com/example/tessera/tessera/Value$SymbolValue" "java/lang/Record").before a0 Z = true := hw _ (List.mem_of_getElem? (i := 56) rfl)
theorem W0 {Z : State} {a0 : Array Value} (hw : ∀ d ∈ tables_1, d.before a0 Z = true) : (Jvm.Cond.classLink "com/example/tessera/tessera/IntegerValueEqualsPinLaw" (7 : Nat) "com/example/tessera/tessera/Value$IntegerValue").before a0 Z = true := hw _ (List.mem_of_getElem? (i := 0) rfl)
theorem W2 {Z : State} {a0 : Array Value} (hw : ∀ d ∈ tables_1, d.before a0 Z = true) : (Jvm.Cond.initialized "com/example/tessera/tessera/Value$IntegerValue").before a0 Z = true := hw _ (List.mem_of_getElem? (i := 2) rfl)
theorem W3 {Z : State} {a0 : Array Value} (hw : ∀ d ∈ tables_1, d.before a0 Z = true) : (Jvm.Cond.methodLink "com/example/tessera/tessera/IntegerValueEqualsPinLaw" (9 : Nat) ({ cls := "com/example/tessera/tessera/Value$IntegerValue", name := "<init>", desc := "(J)V" } : Jvm.MethodName)).before a0 Z = true := hw _ (List.mem_of_getElem? (i := 3) rfl)
theorem pd_284a2956 : parseMethodDescriptor "(J)V" = some ⟨[.long], none⟩ := by decide +kernel
theorem W4 {Z : State} {a0 : Array Value} (hw : ∀ d ∈ tables_1, d.before a0 Z = true) : (Jvm.Cond.instanceMethod ({ cls := "com/example/tessera/tessera/Value$IntegerValue", name := "<init>", desc := "(J)V" } : Jvm.MethodName)).before a0 Z = true := hw _ (List.mem_of_getElem? (i := 4) rfl)
theorem W5 {Z : State} {a0 : Array Value} (hw : ∀ d ∈ tables_1, d.before a0 Z = true) : (Jvm.Cond.code ({ cls := "com/example/tessera/tessera/Value$IntegerValue", name := "<init>", desc := "(J)V" } : Jvm.MethodName) prog_117_method_1_code (3 : Nat) (Option.none : Option Jvm.ClassFile.FieldType)).before a0 Z = true := hw _ (List.mem_of_getElem? (i := 5) rfl)
theorem W16 {Z : State} {a0 : Array Value} (hw : ∀ d ∈ tables_1, d.before a0 Z = true) : (Jvm.Cond.methodLink "com/example/tessera/tessera/IntegerValueEqualsPinLaw" (12 : Nat) ({ cls := "com/example/tessera/tessera/Value$IntegerValue", name := "equals", desc := "(Ljava/lang/Object;)Z" } : Jvm.MethodName)).before a0 Z = true := hw _ (List.mem_of_getElem? (i := 16) rfl)
theorem pd_7 : parseMethodDescriptor "(Ljava/lang/Object;)Z" = some ⟨[(.object "java/lang/Object")], (some .boolean)⟩ := by decide +kernel
theorem W17 {Z : State} {a0 : Array Value} (hw : ∀ d ∈ tables_1, d.before a0 Z = true) : (Jvm.Cond.declares ({ cls := "com/example/tessera/tessera/Value$IntegerValue", name := "equals", desc := "(Ljava/lang/Object;)Z" } : Jvm.MethodName)).before a0 Z = true := hw _ (List.mem_of_getElem? (i := 17) rfl)
theorem W19 {Z : State} {a0 : Array Value} (hw : ∀ d ∈ tables_1, d.before a0 Z = true) : (Jvm.Cond.selects "com/example/tessera/tessera/Value$IntegerValue" ({ cls := "com/example/tessera/tessera/Value$IntegerValue", name := "equals", desc := "(Ljava/lang/Object;)Z" } : Jvm.MethodName) ({ cls := "com/example/tessera/tessera/Value$IntegerValue", name := "equals", desc := "(Ljava/lang/Object;)Z" } : Jvm.MethodName)).before a0 Z = true := hw _ (List.mem_of_getElem? (i := 19) rfl)
theorem W18 {Z : State} {a0 : Array Value} (hw : ∀ d ∈ tables_1, d.before a0 Z = true) : (Jvm.Cond.instanceMethod ({ cls := "com/example/tessera/tessera/Value$IntegerValue", name := "equals", desc := "(Ljava/lang/Object;)Z" } : Jvm.MethodName)).before a0 Z = true := hw _ (List.mem_of_getElem? (i := 18) rfl)
theorem W20 {Z : State} {a0 : Array Value} (hw : ∀ d ∈ tables_1, d.before a0 Z = true) : (Jvm.Cond.code ({ cls := "com/example/tessera/tessera/Value$IntegerValue", name := "equals", desc := "(Ljava/lang/Object;)Z" } : Jvm.MethodName) prog_117_method_5_code (3 : Nat) (Option.some Jvm.ClassFile.FieldType.boolean)).before a0 Z = true := hw _ (List.mem_of_getElem? (i := 20) rfl)
theorem W59 {Z : State} {a0 : Array Value} (hw : ∀ d ∈ tables_1, d.before a0 Z = true) : (Jvm.Cond.constantLong "com/example/tessera/tessera/IntegerValueEqualsPinLaw" (16 : Nat) (65535 : Int64)).before a0 Z = true := hw _ (List.mem_of_getElem? (i := 59) rfl)
theorem W60 {Z : State} {a0 : Array Value} (hw : ∀ d ∈ tables_1, d.before a0 Z = true) : (Jvm.Cond.constant "com/example/tessera/tessera/IntegerValueEqualsPinLaw" (18 : Nat) (32768 : Int32)).before a0 Z = true := hw _ (List.mem_of_getElem? (i := 60) rfl)
theorem W61 {Z : State} {a0 : Array Value} (hw : ∀ d ∈ tables_1, d.before a0 Z = true) : (Jvm.Cond.classLink "com/example/tessera/tessera/IntegerValueEqualsPinLaw" (19 : Nat) "com/example/tessera/tessera/Value$FloatValue").before a0 Z = true := hw _ (List.mem_of_getElem? (i := 61) rfl)
theorem W63 {Z : State} {a0 : Array Value} (hw : ∀ d ∈ tables_1, d.before a0 Z = true) : (Jvm.Cond.initialized "com/example/tessera/tessera/Value$FloatValue").before a0 Z = true := hw _ (List.mem_of_getElem? (i := 63) rfl)
theorem W64 {Z : State} {a0 : Array Value} (hw : ∀ d ∈ tables_1, d.before a0 Z = true) : (Jvm.Cond.methodLink "com/example/tessera/tessera/IntegerValueEqualsPinLaw" (21 : Nat) ({ cls := "com/example/tessera/tessera/Value$FloatValue", name := "<init>", desc := "(D)V" } : Jvm.MethodName)).before a0 Z = true := hw _ (List.mem_of_getElem? (i := 64) rfl)
theorem pd_28442956 : parseMethodDescriptor "(D)V" = some ⟨[.double], none⟩ := by decide +kernel
theorem W65 {Z : State} {a0 : Array Value} (hw : ∀ d ∈ tables_1, d.before a0 Z = true) : (Jvm.Cond.instanceMethod ({ cls := "com/example/tessera/tessera/Value$FloatValue", name := "<init>", desc := "(D)V" } : Jvm.MethodName)).before a0 Z = true := hw _ (List.mem_of_getElem? (i := 65) rfl)
theorem W66 {Z : State} {a0 : Array Value} (hw : ∀ d ∈ tables_1, d.before a0 Z = true) : (Jvm.Cond.code ({ cls := "com/example/tessera/tessera/Value$FloatValue", name := "<init>", desc := "(D)V" } : Jvm.MethodName) prog_116_method_1_code (3 : Nat) (Option.none : Option Jvm.ClassFile.FieldType)).before a0 Z = true := hw _ (List.mem_of_getElem? (i := 66) rfl)
theorem W23 {Z : State} {a0 : Array Value} (hw : ∀ d ∈ tables_1, d.before a0 Z = true) : (Jvm.Cond.classLink "com/example/tessera/tessera/IntegerValueEqualsPinLaw" (24 : Nat) "com/example/tessera/tessera/Value$SymbolValue").before a0 Z = true := hw _ (List.mem_of_getElem? (i := 23) rfl)
theorem W25 {Z : State} {a0 : Array Value} (hw : ∀ d ∈ tables_1, d.before a0 Z = true) : (Jvm.Cond.initialized "com/example/tessera/tessera/Value$SymbolValue").before a0 Z = true := hw _ (List.mem_of_getElem? (i := 25) rfl)
theorem W26 {Z : State} {a0 : Array Value} (hw : ∀ d ∈ tables_1, d.before a0 Z = true) : (Jvm.Cond.methodLink "com/example/tessera/tessera/IntegerValueEqualsPinLaw" (26 : Nat) ({ cls := "java/lang/String", name := "valueOf", desc := "(C)Ljava/lang/String;" } : Jvm.MethodName)).before a0 Z = true := hw _ (List.mem_of_getElem? (i := 26) rfl)
theorem pd_1 : parseMethodDescriptor "(C)Ljava/lang/String;" = some ⟨[.char], (some (.object "java/lang/String"))⟩ := by decide +kernel
theorem W27 {Z : State} {a0 : Array Value} (hw : ∀ d ∈ tables_1, d.before a0 Z = true) : (Jvm.Cond.static ({ cls := "java/lang/String", name := "valueOf", desc := "(C)Ljava/lang/String;" } : Jvm.MethodName)).before a0 Z = true := hw _ (List.mem_of_getElem? (i := 27) rfl)
theorem W29 {Z : State} {a0 : Array Value} (hw : ∀ d ∈ tables_1, d.before a0 Z = true) : (Jvm.Cond.code ({ cls := "java/lang/String", name := "valueOf", desc := "(C)Ljava/lang/String;" } : Jvm.MethodName) jdk_42_method_139_code (1 : Nat) (Option.some (Jvm.ClassFile.FieldType.object "java/lang/String"))).before a0 Z = true := hw _ (List.mem_of_getElem? (i := 29) rfl)
theorem W50 {Z : State} {a0 : Array Value} (hw : ∀ d ∈ tables_1, d.before a0 Z = true) : (Jvm.Cond.methodLink "com/example/tessera/tessera/IntegerValueEqualsPinLaw" (32 : Nat) ({ cls := "com/example/tessera/tessera/Value$SymbolValue", name := "<init>", desc := "(Ljava/lang/String;)V" } : Jvm.MethodName)).before a0 Z = true := hw _ (List.mem_of_getElem? (i := 50) rfl)
theorem pd_8 : parseMethodDescriptor "(Ljava/lang/String;)V" = some ⟨[(.object "java/lang/String")], none⟩ := by decide +kernel
theorem W51 {Z : State} {a0 : Array Value} (hw : ∀ d ∈ tables_1, d.before a0 Z = true) : (Jvm.Cond.instanceMethod ({ cls := "com/example/tessera/tessera/Value$SymbolValue", name := "<init>", desc := "(Ljava/lang/String;)V" } : Jvm.MethodName)).before a0 Z = true := hw _ (List.mem_of_getElem? (i := 51) rfl)
theorem W52 {Z : State} {a0 : Array Value} (hw : ∀ d ∈ tables_1, d.before a0 Z = true) : (Jvm.Cond.code ({ cls := "com/example/tessera/tessera/Value$SymbolValue", name := "<init>", desc := "(Ljava/lang/String;)V" } : Jvm.MethodName) prog_121_method_1_code (2 : Nat) (Option.none : Option Jvm.ClassFile.FieldType)).before a0 Z = true := hw _ (List.mem_of_getElem? (i := 52) rfl)
theorem pn_50696e4c6177_0 : plainName "com/example/tessera/tessera/IntegerValueEqualsPinLaw" = true := by first | (simp [plainName, overriddenIn]; done) | decide +kernel
def Glob (Z : State) (a0 : Array Value) (EL : List (String × Nat)) : Prop :=
  (∀ d ∈ tables_1, d.before a0 Z = true) ∧ EW Z a0 EL ∧ EL = [] ∧ (∃ z : Int32, Sta Z Z.heap "java/lang/String" "COMPACT_STRINGS" "Z" (.int z) ∧ ¬ z = 0) ∧ (∃ v : Value, Sta Z Z.heap "jdk/internal/util/Preconditions" "SIOOBE_FORMATTER" "Ljava/util/function/BiFunction;" v ∧ v.isRef = true)
theorem Glob.hw {Z : State} {a0 : Array Value} {EL : List (String × Nat)} (G : Glob Z a0 EL) : ∀ d ∈ tables_1, d.before a0 Z = true := G.1
theorem Glob.ew {Z : State} {a0 : Array Value} {EL : List (String × Nat)} (G : Glob Z a0 EL) : EW Z a0 EL := G.2.1
theorem Glob.el {Z : State} {a0 : Array Value} {EL : List (String × Nat)} (G : Glob Z a0 EL) : EL = [] := G.2.2.1
theorem Glob.cs {Z : State} {a0 : Array Value} {EL : List (String × Nat)} (G : Glob Z a0 EL) : ∃ z : Int32, Sta Z Z.heap "java/lang/String" "COMPACT_STRINGS" "Z" (.int z) ∧ ¬ z = 0 := G.2.2.2.1
theorem Glob.fm {Z : State} {a0 : Array Value} {EL : List (String × Nat)} (G : Glob Z a0 EL) : ∃ v : Value, Sta Z Z.heap "jdk/internal/util/Preconditions" "SIOOBE_FORMATTER" "Ljava/util/function/BiFunction;" v ∧ v.isRef = true := G.2.2.2.2
set_option maxRecDepth 65536 in
set_option maxHeartbeats 40000000 in
theorem rm_Record (l : Launch) (Z : State) (a0 : Array Value) (EL : List (String × Nat)) (G : Glob Z a0 EL) (a : Addr) (h : Heap) (O : Ext Z.heap h)  :
    Met l Z EL true (⟨"java/lang/Record", "<init>", "()V"⟩ : MethodName) jdk_30_method_1_code 1 none [] ({ frames := 1, cells := 0, slots := 0, locals := 12 } : Room) #[(.ref a)] h [] (fun v h' => v = none ∧ h = h') := by
  have hw := G.hw
  obtain ⟨zc, Sc, hzc⟩ := G.cs
  obtain ⟨vf, Sf, hvf⟩ := G.fm
  refine Met.of (plainFor_of_name pn_5265636f7264_5) G.ew O ?_
  intro p e s m below meth c T0 C0 S0
  refine Endw.eq (g' := mkF m 0 #[.val (.ref a)] []) (by first | rfl | (simp [entryFrame, mkF, argsToLocals, own_cI, own_cR, own_cN, own_cJ, own_cD, maxLocals]; done)) ?_
  refine Endw.st (T' := T0) (g' := (mkF m 1 #[.val (.ref a)] [(.ref a)])) (fun t k => XS.aloadN C0.here C0.hx rfl (C0.dec d0_0) rfl rfl k) ?_
  refine C0.initO (W11 hw) (W12 hw) (W13 hw) rfl d0_1 (pc' := 4) rfl (by decide) (W := 0) (Nat.le_of_ble_eq_true rfl) (by decide) ?_
  intro T1 C1
  show Endw p e below T1 (mkF m 4 #[.val (.ref a)] []) _
  exact C1.retV d0_4 (by decide) (by decide) ⟨rfl, rfl⟩
set_option maxRecDepth 65536 in
set_option maxHeartbeats 40000000 in
theorem rm_canEnc (l : Launch) (Z : State) (a0 : Array Value) (EL : List (String × Nat)) (G : Glob Z a0 EL) (x : Int32) (hx : B8 x) (h : Heap) (O : Ext Z.heap h)  :
    Met l Z EL true (⟨"java/lang/StringLatin1", "canEncode", "(C)Z"⟩ : MethodName) jdk_43_method_3_code 1 (some .boolean) [] ({ frames := 0, cells := 0, slots := 0, locals := 0 } : Room) #[(.int x)] h [] (fun r h' => r = some (.int 1) ∧ h = h') := by
  have hw := G.hw
  obtain ⟨zc, Sc, hzc⟩ := G.cs
  obtain ⟨vf, Sf, hvf⟩ := G.fm
  refine Met.of (plainFor_of_name pn_4c6174696e31_7) G.ew O ?_
  intro p e s m below meth c T0 C0 S0
  refine Endw.eq (g' := mkF m 0 #[.val (.int x)] []) (by first | rfl | (simp [entryFrame, mkF, argsToLocals, own_cI, own_cR, own_cN, own_cJ, own_cD, maxLocals]; done)) ?_
  refine Endw.st (T' := T0) (g' := (mkF m 1 #[.val (.int x)] [(.int x)])) (fun t k => XS.iloadN C0.here C0.hx rfl (C0.dec d1_0) rfl k) ?_
  refine Endw.st (T' := T0) (g' := (mkF m 4 #[.val (.int x)] [(.int (255 : Int32)), (.int x)])) (fun t k => XS.sipush C0.here C0.hx rfl (C0.dec d1_1) k) ?_
  refine Endw.st (T' := T0) (g' := (mkF m 7 #[.val (.int x)] [])) (fun t k => XS.icmpNo C0.here C0.hx rfl (C0.dec d1_4) rfl (XT.ii_gt_f hx.2) k) ?_
  refine Endw.st (T' := T0) (g' := (mkF m 8 #[.val (.int x)] [(.int (1 : Int32))])) (fun t k => XS.iconst C0.here C0.hx rfl (C0.dec d1_7) k) ?_
  refine Endw.st (T' := T0) (g' := (mkF m 12 #[.val (.int x)] [(.int (1 : Int32))])) (fun t k => XS.goto C0.here C0.hx rfl (pc0 := 8) rfl (C0.dec d1_8) (by decide) rfl k) ?_
  exact C0.retI (t := .boolean) rfl (by simp) rfl d1_12 (by decide) (by decide) ⟨rfl, rfl⟩
set_option maxRecDepth 65536 in
set_option maxHeartbeats 40000000 in
theorem rm_toBytes (l : Launch) (Z : State) (a0 : Array Value) (EL : List (String × Nat)) (G : Glob Z a0 EL) (x : Int32) (h : Heap) (O : Ext Z.heap h)  :
    Met l Z EL true (⟨"java/lang/StringLatin1", "toBytes", "(C)[B"⟩ : MethodName) jdk_43_method_46_code 1 (some (.array .byte)) [] ({ frames := 0, cells := 1, slots := 1, locals := 0 } : Room) #[(.int x)] h [] (fun r h' => ∃ (t : Addr) (kb : ClassId), r = some (.ref t) ∧ Keep h h' [] ∧ h.size ≤ t ∧ Z.heap.size ≤ t ∧ Arv Z h' t kb .byte (1 : Int32) [(.int x.toInt8.toInt32)] (.int 0)) := by
  have hw := G.hw
  obtain ⟨zc, Sc, hzc⟩ := G.cs
  obtain ⟨vf, Sf, hvf⟩ := G.fm
  refine Met.of (plainFor_of_name pn_4c6174696e31_7) G.ew O ?_
  intro p e s m below meth c T0 C0 S0
  refine Endw.eq (g' := mkF m 0 #[.val (.int x)] []) (by first | rfl | (simp [entryFrame, mkF, argsToLocals, own_cI, own_cR, own_cN, own_cJ, own_cD, maxLocals]; done)) ?_
  refine Endw.st (T' := T0) (g' := (mkF m 1 #[.val (.int x)] [(.int (1 : Int32))])) (fun t k => XS.iconst C0.here C0.hx rfl (C0.dec d2_0) k) ?_
  refine C0.newA (aty := .byte) (z := (1 : Int32)) (cap := 1) (vs := [(.int 0)]) (W40 hw) d2_1 (pc' := 3) rfl (by decide) (by decide) (by decide) (by decide) (by decide) rfl ?_
  intro T1 h1 a1 kA1 C1 K1 A1 ge1 zg1 V1 S1
  show Endw p e below T1 (mkF m 3 #[.val (.int x)] [(.ref a1)]) _
  refine Endw.st (T' := T1) (g' := (mkF m 4 #[.val (.int x)] [(.ref a1), (.ref a1)])) (fun t k => XS.dup C1.here C1.hx rfl (C1.dec d2_3) rfl rfl k) ?_
  refine Endw.st (T' := T1) (g' := (mkF m 5 #[.val (.int x)] [(.int (0 : Int32)), (.ref a1), (.ref a1)])) (fun t k => XS.iconst C1.here C1.hx rfl (C1.dec d2_4) k) ?_
  refine Endw.st (T' := T1) (g' := (mkF m 6 #[.val (.int x)] [(.int x), (.int (0 : Int32)), (.ref a1), (.ref a1)])) (fun t k => XS.iloadN C1.here C1.hx rfl (C1.dec d2_5) rfl k) ?_
  refine Endw.st (T' := T1) (g' := (mkF m 7 #[.val (.int x)] [(.int (x.toInt8.toInt32)), (.int (0 : Int32)), (.ref a1), (.ref a1)])) (fun t k => XS.i2b C1.here C1.hx rfl (C1.dec d2_6) rfl k) ?_
  refine C1.bastore V1 ⟨by decide, by decide⟩ 0 (by decide) (Nat.le_of_ble_eq_true rfl) (x' := x.toInt8.toInt32) own_nar_byte zg1 S1 d2_7 (pc' := 8) rfl ?_
  intro T2 h2 C2 K2 A2 V2
  show Endw p e below T2 (mkF m 8 #[.val (.int x)] [(.ref a1)]) _
  exact C2.retA (t := (.array .byte)) rfl rfl rfl rfl d2_8 (by decide) (by decide) ⟨a1, kA1, rfl, (Keep.trans (Keep.trans (Keep.refl h []) K1 all0) K2 (allS (Or.inr ge1) all0)), ge1, zg1, V2⟩
set_option maxRecDepth 65536 in
set_option maxHeartbeats 40000000 in
theorem rm_StrInitBB (l : Launch) (Z : State) (a0 : Array Value) (EL : List (String × Nat)) (G : Glob Z a0 EL) (a : Addr) (v0 : Value) (hv0 : v0.isRef = true) (i1 : Int32) (hn1 : narrow .byte (.int i1) = .int i1) (hf1 : fits .byte (.int i1) = true) (h : Heap) (O : Ext Z.heap h) (E0 : Exa Z h a "java/lang/String") (F0 : Fld Z h a "java/lang/String" "value" "[B" .null) (F1 : Fld Z h a "java/lang/String" "coder" "B" (.int (0 : Int32))) (zg0 : Z.heap.size ≤ a) :
    Met l Z EL true (⟨"java/lang/String", "<init>", "([BB)V"⟩ : MethodName) jdk_42_method_151_code 3 none [] ({ frames := 1, cells := 0, slots := 0, locals := 12 } : Room) #[(.ref a), v0, (.int i1)] h [a] (fun r h' => r = none ∧ Keep h h' [a] ∧ Exa Z h' a "java/lang/String" ∧ Fld Z h' a "java/lang/String" "value" "[B" v0 ∧ Fld Z h' a "java/lang/String" "coder" "B" (.int i1)) := by
  have hw := G.hw
  obtain ⟨zc, Sc, hzc⟩ := G.cs
  obtain ⟨vf, Sf, hvf⟩ := G.fm
  refine Met.of (plainFor_of_name pn_537472696e67_6) G.ew O ?_
  intro p e s m below meth c T0 C0 S0
  refine Endw.eq (g' := mkF m 0 #[.val (.ref a), .val v0, .val (.int i1)] []) (by first | rfl | (simp [entryFrame, mkF, argsToLocals, own_cI, own_cR, own_cN, own_cJ, own_cD, maxLocals, XT.cat1 hv0]; done)) ?_
  refine Endw.st (T' := T0) (g' := (mkF m 1 #[.val (.ref a), .val v0, .val (.int i1)] [(.ref a)])) (fun t k => XS.aloadN C0.here C0.hx rfl (C0.dec d3_0) rfl rfl k) ?_
  refine C0.initO (W45 hw) (W12 hw) (W13 hw) rfl d3_1 (pc' := 4) rfl (by decide) (W := 0) (Nat.le_of_ble_eq_true rfl) (by decide) ?_
  intro T1 C1
  show Endw p e below T1 (mkF m 4 #[.val (.ref a), .val v0, .val (.int i1)] []) _
  refine Endw.st (T' := T1) (g' := (mkF m 5 #[.val (.ref a), .val v0, .val (.int i1)] [(.ref a)])) (fun t k => XS.aloadN C1.here C1.hx rfl (C1.dec d3_4) rfl rfl k) ?_
  refine Endw.st (T' := T1) (g' := (mkF m 6 #[.val (.ref a), .val v0, .val (.int i1)] [v0, (.ref a)])) (fun t k => XS.aloadN C1.here C1.hx rfl (C1.dec d3_5) rfl hv0 k) ?_
  refine C1.putF (v := v0) (W46 hw) F0 E0 (Or.inr ⟨(W47 hw), rfl, rfl⟩) (W36 hw) (ty := (.array .byte)) (by decide) (own_nar_ref hv0) (own_fits_ref hv0) zg0 (S0 a (by simp)) d3_6 (pc' := 9) rfl ?_
  intro T2 h2 C2 K2 A2 Wr2
  have f3 := F0.same Wr2
  have f4 := F1.other Wr2 (Or.inr (slot_ne (Or.inr (W49 hw)) (Or.inr (W47 hw)) (by decide) (t := .byte) (t' := (.array .byte)) (by decide) (by decide)))
  show Endw p e below T2 (mkF m 9 #[.val (.ref a), .val v0, .val (.int i1)] []) _
  refine Endw.st (T' := T2) (g' := (mkF m 10 #[.val (.ref a), .val v0, .val (.int i1)] [(.ref a)])) (fun t k => XS.aloadN C2.here C2.hx rfl (C2.dec d3_9) rfl rfl k) ?_
  refine Endw.st (T' := T2) (g' := (mkF m 11 #[.val (.ref a), .val v0, .val (.int i1)] [(.int i1), (.ref a)])) (fun t k => XS.iloadN C2.here C2.hx rfl (C2.dec d3_10) rfl k) ?_
  have f5 := (E0.keep K2)
  have f7 := (A2.safe E0.lt (S0 a (by simp)))
  refine C2.putF (v := (.int i1)) (W48 hw) f4 f5 (Or.inr ⟨(W49 hw), rfl, rfl⟩) (W36 hw) (ty := .byte) (by decide) hn1 hf1 zg0 f7 d3_11 (pc' := 14) rfl ?_
  intro T6 h6 C6 K6 A6 Wr6
  have f8 := f4.same Wr6
  have f9 := f3.other Wr6 (Or.inr (slot_ne (Or.inr (W47 hw)) (Or.inr (W49 hw)) (by decide) (t := (.array .byte)) (t' := .byte) (by decide) (by decide)))
  show Endw p e below T6 (mkF m 14 #[.val (.ref a), .val v0, .val (.int i1)] []) _
  have f10 := (f5.keep K6)
  exact C6.retV d3_14 (by decide) (by decide) ⟨rfl, (Keep.trans (Keep.trans (Keep.refl h [a]) K2 (allS (Or.inl (by simp)) all0)) K6 (allS (Or.inl (by simp)) all0)), f10, f9, f8⟩
set_option maxRecDepth 65536 in
set_option maxHeartbeats 40000000 in
theorem rm_valueOfC (l : Launch) (Z : State) (a0 : Array Value) (EL : List (String × Nat)) (G : Glob Z a0 EL) (x : Int32) (hx : B8 x) (h : Heap) (O : Ext Z.heap h)  :
    Met l Z EL true (⟨"java/lang/String", "valueOf", "(C)Ljava/lang/String;"⟩ : MethodName) jdk_42_method_139_code 1 (some (.object "java/lang/String")) [] ({ frames := 2, cells := 2, slots := 5, locals := 27 } : Room) #[(.int x)] h [] (fun r h' => ∃ (a t : Addr) (kb : ClassId), r = some (.ref a) ∧ Keep h h' [] ∧ h.size ≤ a ∧ h.size ≤ t ∧ Z.heap.size ≤ a ∧ Z.heap.size ≤ t ∧ Str Z h' a t kb [x]) := by
  have hw := G.hw
  obtain ⟨zc, Sc, hzc⟩ := G.cs
  obtain ⟨vf, Sf, hvf⟩ := G.fm
  refine Met.of (plainFor_of_name pn_537472696e67_6) G.ew O ?_
  intro p e s m below meth c T0 C0 S0
  refine Endw.eq (g' := mkF m 0 #[.val (.int x)] []) (by first | rfl | (simp [entryFrame, mkF, argsToLocals, own_cI, own_cR, own_cN, own_cJ, own_cD, maxLocals]; done)) ?_
  refine C0.getS (W30 hw) Sc d4_0 (pc' := 3) rfl ?_
  intro T1 C1
  show Endw p e below T1 (mkF m 3 #[.val (.int x)] [(.int zc)]) _
  refine Endw.st (T' := T1) (g' := (mkF m 6 #[.val (.int x)] [])) (fun t k => XS.ifNo C1.here C1.hx rfl (C1.dec d4_3) rfl (XT.i0_eq_f hzc) k) ?_
  refine Endw.st (T' := T1) (g' := (mkF m 7 #[.val (.int x)] [(.int x)])) (fun t k => XS.iloadN C1.here C1.hx rfl (C1.dec d4_6) rfl k) ?_
  refine C1.static (y := (⟨"java/lang/StringLatin1", "canEncode", "(C)Z"⟩ : MethodName)) (W := 0) (argsL := [(.int x)]) (rest := []) (W31 hw) (W32 hw) (W34 hw) (W33 hw) (by decide) (rm_canEnc l Z a0 EL G x hx h C1.old) rfl all0 (by decide) (by decide) (by decide) (by decide) (lenOf pd_2843295a rfl) rfl (Nat.le_of_ble_eq_true rfl) rfl d4_7 (pc' := 10) rfl ?_
  intro vm2 T2 h2 v2 C2 A2 q2
  obtain ⟨rfl, rfl⟩ := q2
  show Endw p e below T2 (mkF m 10 #[.val (.int x)] [(.int (1 : Int32))]) _
  refine Endw.st (T' := T2) (g' := (mkF m 13 #[.val (.int x)] [])) (fun t k => XS.ifNo C2.here C2.hx rfl (C2.dec d4_10) rfl (XT.i0_eq_f (by decide)) k) ?_
  refine C2.new (W35 hw) (W36 hw) (W28 hw) d4_13 (pc' := 16) rfl (by decide) (by decide) ?_
  intro T3 h3 a3 C3 K3 A3 ge3 zg3 E3 D3 S3
  show Endw p e below T3 (mkF m 16 #[.val (.int x)] [(.ref a3)]) _
  refine Endw.st (T' := T3) (g' := (mkF m 17 #[.val (.int x)] [(.ref a3), (.ref a3)])) (fun t k => XS.dup C3.here C3.hx rfl (C3.dec d4_16) rfl rfl k) ?_
  refine Endw.st (T' := T3) (g' := (mkF m 18 #[.val (.int x)] [(.int x), (.ref a3), (.ref a3)])) (fun t k => XS.iloadN C3.here C3.hx rfl (C3.dec d4_17) rfl k) ?_
  refine C3.static (y := (⟨"java/lang/StringLatin1", "toBytes", "(C)[B"⟩ : MethodName)) (W := 2) (argsL := [(.int x)]) (rest := [(.ref a3), (.ref a3)]) (W37 hw) (W38 hw) (W39 hw) (W33 hw) (by decide) (rm_toBytes l Z a0 EL G x h3 C3.old) rfl all0 (by decide) (by decide) (by decide) (by decide) (lenOf pd_2843295b42 rfl) rfl (Nat.le_of_ble_eq_true rfl) rfl d4_18 (pc' := 21) rfl ?_
  intro vm4 T4 h4 v4 C4 A4 q4
  obtain ⟨t4, kb4, rfl, K4, ge4, zg4, V4⟩ := q4
  show Endw p e below T4 (mkF m 21 #[.val (.int x)] [(.ref t4), (.ref a3), (.ref a3)]) _
  refine Endw.st (T' := T4) (g' := (mkF m 22 #[.val (.int x)] [(.int (0 : Int32)), (.ref t4), (.ref a3), (.ref a3)])) (fun t k => XS.iconst C4.here C4.hx rfl (C4.dec d4_21) k) ?_
  have f5 : Fld Z h3 a3 "java/lang/String" "value" "[B" .null := D3 (Or.inr (W47 hw)) (ty := (.array .byte)) (by decide)
  have f6 := (f5.keep K4 nin0)
  have f7 : Fld Z h3 a3 "java/lang/String" "coder" "B" (.int (0 : Int32)) := D3 (Or.inr (W49 hw)) (ty := .byte) (by decide)
  have f8 := (f7.keep K4 nin0)
  have f9 := (E3.keep K4)
  have f11 := (A4.safe E3.lt S3)
  refine C4.special (y := (⟨"java/lang/String", "<init>", "([BB)V"⟩ : MethodName)) (W := 1) (a := a3) (argsL := [(.ref t4), (.int (0 : Int32))]) (rest := [(.ref a3)]) rfl (W41 hw) (W42 hw) (W44 hw) (W28 hw) (by decide) (rm_StrInitBB l Z a0 EL G a3 (.ref t4) rfl (0 : Int32) rfl rfl h4 C4.old f9 f6 f8 zg3) rfl (allS ⟨(Nat.lt_of_lt_of_le E3.lt K4.1), f11⟩ all0) (by decide) (by decide) (by decide) (by decide) (lenOf pd_285b42422956 rfl) rfl (Nat.le_of_ble_eq_true rfl) rfl d4_22 (pc' := 25) rfl ?_
  intro vm10 T10 h10 v10 C10 A10 q10
  obtain ⟨rfl, K10, E10, F10_0, F10_1⟩ := q10
  show Endw p e below T10 (mkF m 25 #[.val (.int x)] [(.ref a3)]) _
  have f12 := (V4.keep K10 (ninS (Ne.symm (Nat.ne_of_lt (Nat.lt_of_lt_of_le E3.lt ge4))) nin0))
  exact C10.retA (t := (.object "java/lang/String")) rfl rfl rfl rfl d4_25 (by decide) (by decide) ⟨a3, t4, kb4, rfl, (Keep.trans (Keep.trans (Keep.trans (Keep.refl h []) K3 all0) K4 all0) K10 (allS (Or.inr ge3) all0)), ge3, (Nat.le_trans K3.1 ge4), zg3, zg4, ⟨E10, F10_1, F10_0, f12, own_cS hx own_c0, Nat.le_of_ble_eq_true rfl⟩⟩
set_option maxRecDepth 65536 in
set_option maxHeartbeats 40000000 in
theorem rm_IV (l : Launch) (Z : State) (a0 : Array Value) (EL : List (String × Nat)) (G : Glob Z a0 EL) (a : Addr) (j0 : Int64) (h : Heap) (O : Ext Z.heap h) (E0 : Exa Z h a "com/example/tessera/tessera/Value$IntegerValue") (F0 : Fld Z h a "com/example/tessera/tessera/Value$IntegerValue" "value" "J" (.long (0 : Int64))) (zg0 : Z.heap.size ≤ a) :
    Met l Z EL true (⟨"com/example/tessera/tessera/Value$IntegerValue", "<init>", "(J)V"⟩ : MethodName) prog_117_method_1_code 3 none [] ({ frames := 2, cells := 0, slots := 0, locals := 24 } : Room) #[(.ref a), (.long j0)] h [] (fun r h' => r = none ∧ Keep h h' [a] ∧ Exa Z h' a "com/example/tessera/tessera/Value$IntegerValue" ∧ Fld Z h' a "com/example/tessera/tessera/Value$IntegerValue" "value" "J" (.long j0)) := by
  have hw := G.hw
  obtain ⟨zc, Sc, hzc⟩ := G.cs
  obtain ⟨vf, Sf, hvf⟩ := G.fm
  refine Met.of (plainFor_of_name pn_7256616c7565_2) G.ew O ?_
  intro p e s m below meth c T0 C0 S0
  refine Endw.eq (g' := mkF m 0 #[.val (.ref a), .val (.long j0), .second] []) (by first | rfl | (simp [entryFrame, mkF, argsToLocals, own_cI, own_cR, own_cN, own_cJ, own_cD, maxLocals]; done)) ?_
  refine Endw.st (T' := T0) (g' := (mkF m 1 #[.val (.ref a), .val (.long j0), .second] [(.ref a)])) (fun t k => XS.aloadN C0.here C0.hx rfl (C0.dec d5_0) rfl rfl k) ?_
  refine C0.special (y := (⟨"java/lang/Record", "<init>", "()V"⟩ : MethodName)) (W := 0) (a := a) (argsL := []) (rest := []) rfl (W6 hw) (W7 hw) (W10 hw) (W9 hw) (by decide) (rm_Record l Z a0 EL G a h C0.old) rfl all0 (by decide) (by decide) (by decide) (by decide) (lenOf pd_282956 rfl) rfl (Nat.le_of_ble_eq_true rfl) rfl d5_1 (pc' := 4) rfl ?_
  intro vm1 T1 h1 v1 C1 A1 q1
  obtain ⟨rfl, rfl⟩ := q1
  show Endw p e below T1 (mkF m 4 #[.val (.ref a), .val (.long j0), .second] []) _
  refine Endw.st (T' := T1) (g' := (mkF m 5 #[.val (.ref a), .val (.long j0), .second] [(.ref a)])) (fun t k => XS.aloadN C1.here C1.hx rfl (C1.dec d5_4) rfl rfl k) ?_
  refine Endw.st (T' := T1) (g' := (mkF m 6 #[.val (.ref a), .val (.long j0), .second] [(.long j0), (.ref a)])) (fun t k => XS.lloadN C1.here C1.hx rfl (C1.dec d5_5) rfl k) ?_
  refine C1.putF (v := (.long j0)) (W14 hw) F0 E0 (Or.inr ⟨(W15 hw), rfl, rfl⟩) (W1 hw) (ty := .long) (by decide) rfl rfl zg0 (Safe.exa C1.warm.alike E0 (by decide) (by decide)) d5_6 (pc' := 9) rfl ?_
  intro T2 h2 C2 K2 A2 Wr2
  have f3 := F0.same Wr2
  show Endw p e below T2 (mkF m 9 #[.val (.ref a), .val (.long j0), .second] []) _
  have f4 := (E0.keep K2)
  exact C2.retV d5_9 (by decide) (by decide) ⟨rfl, (Keep.trans (Keep.refl h [a]) K2 (allS (Or.inl (by simp)) all0)), f4, f3⟩
set_option maxRecDepth 65536 in
set_option maxHeartbeats 40000000 in
theorem rm_FV (l : Launch) (Z : State) (a0 : Array Value) (EL : List (String × Nat)) (G : Glob Z a0 EL) (a : Addr) (d0 : UInt64) (h : Heap) (O : Ext Z.heap h) (E0 : Exa Z h a "com/example/tessera/tessera/Value$FloatValue") (F0 : Fld Z h a "com/example/tessera/tessera/Value$FloatValue" "value" "D" (.double 0)) (zg0 : Z.heap.size ≤ a) :
    Met l Z EL true (⟨"com/example/tessera/tessera/Value$FloatValue", "<init>", "(D)V"⟩ : MethodName) prog_116_method_1_code 3 none [] ({ frames := 2, cells := 0, slots := 0, locals := 24 } : Room) #[(.ref a), (.double d0)] h [] (fun r h' => r = none ∧ Keep h h' [a] ∧ Exa Z h' a "com/example/tessera/tessera/Value$FloatValue" ∧ Fld Z h' a "com/example/tessera/tessera/Value$FloatValue" "value" "D" (.double d0)) := by
  have hw := G.hw
  obtain ⟨zc, Sc, hzc⟩ := G.cs
  obtain ⟨vf, Sf, hvf⟩ := G.fm
  refine Met.of (plainFor_of_name pn_7456616c7565_1) G.ew O ?_
  intro p e s m below meth c T0 C0 S0
  refine Endw.eq (g' := mkF m 0 #[.val (.ref a), .val (.double d0), .second] []) (by first | rfl | (simp [entryFrame, mkF, argsToLocals, own_cI, own_cR, own_cN, own_cJ, own_cD, maxLocals]; done)) ?_
  refine Endw.st (T' := T0) (g' := (mkF m 1 #[.val (.ref a), .val (.double d0), .second] [(.ref a)])) (fun t k => XS.aloadN C0.here C0.hx rfl (C0.dec d6_0) rfl rfl k) ?_
  refine C0.special (y := (⟨"java/lang/Record", "<init>", "()V"⟩ : MethodName)) (W := 0) (a := a) (argsL := []) (rest := []) rfl (W67 hw) (W7 hw) (W10 hw) (W9 hw) (by decide) (rm_Record l Z a0 EL G a h C0.old) rfl all0 (by decide) (by decide) (by decide) (by decide) (lenOf pd_282956 rfl) rfl (Nat.le_of_ble_eq_true rfl) rfl d6_1 (pc' := 4) rfl ?_
  intro vm1 T1 h1 v1 C1 A1 q1
  obtain ⟨rfl, rfl⟩ := q1
  show Endw p e below T1 (mkF m 4 #[.val (.ref a), .val (.double d0), .second] []) _
  refine Endw.st (T' := T1) (g' := (mkF m 5 #[.val (.ref a), .val (.double d0), .second] [(.ref a)])) (fun t k => XS.aloadN C1.here C1.hx rfl (C1.dec d6_4) rfl rfl k) ?_
  refine Endw.st (T' := T1) (g' := (mkF m 6 #[.val (.ref a), .val (.double d0), .second] [(.double d0), (.ref a)])) (fun t k => XS.dloadN C1.here C1.hx rfl (C1.dec d6_5) rfl k) ?_
  refine C1.putF (v := (.double d0)) (W68 hw) F0 E0 (Or.inr ⟨(W69 hw), rfl, rfl⟩) (W62 hw) (ty := .double) (by decide) rfl rfl zg0 (Safe.exa C1.warm.alike E0 (by decide) (by decide)) d6_6 (pc' := 9) rfl ?_
  intro T2 h2 C2 K2 A2 Wr2
  have f3 := F0.same Wr2
  show Endw p e below T2 (mkF m 9 #[.val (.ref a), .val (.double d0), .second] []) _
  have f4 := (E0.keep K2)
  exact C2.retV d6_9 (by decide) (by decide) ⟨rfl, (Keep.trans (Keep.refl h [a]) K2 (allS (Or.inl (by simp)) all0)), f4, f3⟩
set_option maxRecDepth 65536 in
set_option maxHeartbeats 40000000 in
theorem rm_SV (l : Launch) (Z : State) (a0 : Array Value) (EL : List (String × Nat)) (G : Glob Z a0 EL) (a : Addr) (v0 : Value) (hv0 : v0.isRef = true) (h : Heap) (O : Ext Z.heap h) (E0 : Exa Z h a "com/example/tessera/tessera/Value$SymbolValue") (F0 : Fld Z h a "com/example/tessera/tessera/Value$SymbolValue" "name" "Ljava/lang/String;" .null) (zg0 : Z.heap.size ≤ a) :
    Met l Z EL true (⟨"com/example/tessera/tessera/Value$SymbolValue", "<init>", "(Ljava/lang/String;)V"⟩ : MethodName) prog_121_method_1_code 2 none [] ({ frames := 2, cells := 0, slots := 0, locals := 24 } : Room) #[(.ref a), v0] h [] (fun r h' => r = none ∧ Keep h h' [a] ∧ Exa Z h' a "com/example/tessera/tessera/Value$SymbolValue" ∧ Fld Z h' a "com/example/tessera/tessera/Value$SymbolValue" "name" "Ljava/lang/String;" v0) := by
  have hw := G.hw
  obtain ⟨zc, Sc, hzc⟩ := G.cs
  obtain ⟨vf, Sf, hvf⟩ := G.fm
  refine Met.of (plainFor_of_name pn_6c56616c7565_3) G.ew O ?_
  intro p e s m below meth c T0 C0 S0
  refine Endw.eq (g' := mkF m 0 #[.val (.ref a), .val v0] []) (by first | rfl | (simp [entryFrame, mkF, argsToLocals, own_cI, own_cR, own_cN, own_cJ, own_cD, maxLocals, XT.cat1 hv0]; done)) ?_
  refine Endw.st (T' := T0) (g' := (mkF m 1 #[.val (.ref a), .val v0] [(.ref a)])) (fun t k => XS.aloadN C0.here C0.hx rfl (C0.dec d7_0) rfl rfl k) ?_
  refine C0.special (y := (⟨"java/lang/Record", "<init>", "()V"⟩ : MethodName)) (W := 0) (a := a) (argsL := []) (rest := []) rfl (W53 hw) (W7 hw) (W10 hw) (W9 hw) (by decide) (rm_Record l Z a0 EL G a h C0.old) rfl all0 (by decide) (by decide) (by decide) (by decide) (lenOf pd_282956 rfl) rfl (Nat.le_of_ble_eq_true rfl) rfl d7_1 (pc' := 4) rfl ?_
  intro vm1 T1 h1 v1 C1 A1 q1
  obtain ⟨rfl, rfl⟩ := q1
  show Endw p e below T1 (mkF m 4 #[.val (.ref a), .val v0] []) _
  refine Endw.st (T' := T1) (g' := (mkF m 5 #[.val (.ref a), .val v0] [(.ref a)])) (fun t k => XS.aloadN C1.here C1.hx rfl (C1.dec d7_4) rfl rfl k) ?_
  refine Endw.st (T' := T1) (g' := (mkF m 6 #[.val (.ref a), .val v0] [v0, (.ref a)])) (fun t k => XS.aloadN C1.here C1.hx rfl (C1.dec d7_5) rfl hv0 k) ?_
  refine C1.putF (v := v0) (W54 hw) F0 E0 (Or.inr ⟨(W55 hw), rfl, rfl⟩) (W24 hw) (ty := (.object "java/lang/String")) (by decide) (own_nar_ref hv0) (own_fits_ref hv0) zg0 (Safe.exa C1.warm.alike E0 (by decide) (by decide)) d7_6 (pc' := 9) rfl ?_
  intro T2 h2 C2 K2 A2 Wr2
  have f3 := F0.same Wr2
  show Endw p e below T2 (mkF m 9 #[.val (.ref a), .val v0] []) _
  have f4 := (E0.keep K2)
  exact C2.retV d7_9 (by decide) (by decide) ⟨rfl, (Keep.trans (Keep.refl h [a]) K2 (allS (Or.inl (by simp)) all0)), f4, f3⟩
set_option maxRecDepth 65536 in
set_option maxHeartbeats 40000000 in
theorem rm_EqI (l : Launch) (Z : State) (a0 : Array Value) (EL : List (String × Nat)) (G : Glob Z a0 EL) (a b : Addr) (i j : Int64) (h : Heap) (O : Ext Z.heap h) (E0 : Exa Z h b "com/example/tessera/tessera/Value$IntegerValue") (F0 : Fld Z h a "com/example/tessera/tessera/Value$IntegerValue" "value" "J" (.long i)) (f0 : Fld Z h b "com/example/tessera/tessera/Value$IntegerValue" "value" "J" (.long j)) :
    Met l Z EL true (⟨"com/example/tessera/tessera/Value$IntegerValue", "equals", "(Ljava/lang/Object;)Z"⟩ : MethodName) prog_117_method_5_code 3 (some .boolean) [] ({ frames := 0, cells := 0, slots := 0, locals := 0 } : Room) #[(.ref a), (.ref b)] h [] (fun r h' => ∃ z : Int32, r = some (.int z) ∧ ((i = j ∧ z = 1) ∨ (¬ i = j ∧ z = 0)) ∧ h = h') := by
  have hw := G.hw
  obtain ⟨zc, Sc, hzc⟩ := G.cs
  obtain ⟨vf, Sf, hvf⟩ := G.fm
  refine Met.of (plainFor_of_name pn_7256616c7565_2) G.ew O ?_
  intro p e s m below meth c T0 C0 S0
  refine Endw.eq (g' := mkF m 0 #[.val (.ref a), .val (.ref b), .unset] []) (by first | rfl | (simp [entryFrame, mkF, argsToLocals, own_cI, own_cR, own_cN, own_cJ, own_cD, maxLocals]; done)) ?_
  refine Endw.st (T' := T0) (g' := (mkF m 1 #[.val (.ref a), .val (.ref b), .unset] [(.ref b)])) (fun t k => XS.aloadN C0.here C0.hx rfl (C0.dec d8_0) rfl rfl k) ?_
  refine C0.instY (W21 hw) (Ins.self E0) d8_1 (pc' := 4) rfl ?_
  intro T1 C1
  show Endw p e below T1 (mkF m 4 #[.val (.ref a), .val (.ref b), .unset] [(.int (1 : Int32))]) _
  refine Endw.st (T' := T1) (g' := (mkF m 7 #[.val (.ref a), .val (.ref b), .unset] [])) (fun t k => XS.ifNo C1.here C1.hx rfl (C1.dec d8_4) rfl (XT.i0_eq_f (by decide)) k) ?_
  refine Endw.st (T' := T1) (g' := (mkF m 8 #[.val (.ref a), .val (.ref b), .unset] [(.ref b)])) (fun t k => XS.aloadN C1.here C1.hx rfl (C1.dec d8_7) rfl rfl k) ?_
  refine C1.castY (W21 hw) (Ins.self E0) d8_8 (pc' := 11) rfl ?_
  intro T2 C2
  show Endw p e below T2 (mkF m 11 #[.val (.ref a), .val (.ref b), .unset] [(.ref b)]) _
  refine Endw.st (T' := T2) (g' := (mkF m 12 #[.val (.ref a), .val (.ref b), .val (.ref b)] [])) (fun t k => XS.astoreN C2.here C2.hx rfl (C2.dec d8_11) rfl rfl (l' := #[.val (.ref a), .val (.ref b), .val (.ref b)]) rfl k) ?_
  refine Endw.st (T' := T2) (g' := (mkF m 13 #[.val (.ref a), .val (.ref b), .val (.ref b)] [(.ref a)])) (fun t k => XS.aloadN C2.here C2.hx rfl (C2.dec d8_12) rfl rfl k) ?_
  refine C2.getF (W14 hw) F0 d8_13 (pc' := 16) rfl ?_
  intro T3 C3
  show Endw p e below T3 (mkF m 16 #[.val (.ref a), .val (.ref b), .val (.ref b)] [(.long i)]) _
  refine Endw.st (T' := T3) (g' := (mkF m 17 #[.val (.ref a), .val (.ref b), .val (.ref b)] [(.ref b), (.long i)])) (fun t k => XS.aloadN C3.here C3.hx rfl (C3.dec d8_16) rfl rfl k) ?_
  refine C3.getF (W14 hw) f0 d8_17 (pc' := 20) rfl ?_
  intro T4 C4
  show Endw p e below T4 (mkF m 20 #[.val (.ref a), .val (.ref b), .val (.ref b)] [(.long j), (.long i)]) _
  refine Endw.st (T' := T4) (g' := (mkF m 21 #[.val (.ref a), .val (.ref b), .val (.ref b)] [(.int (XT.cmpL i j))])) (fun t k => XS.lcmp C4.here C4.hx rfl (C4.dec d8_20) rfl k) ?_
  by_cases c5 : i = j
  · refine Endw.st (T' := T4) (g' := (mkF m 24 #[.val (.ref a), .val (.ref b), .val (.ref b)] [])) (fun t k => XS.ifNo C4.here C4.hx rfl (C4.dec d8_21) rfl (XT.ll_ne_f c5) k) ?_
    refine Endw.st (T' := T4) (g' := (mkF m 25 #[.val (.ref a), .val (.ref b), .val (.ref b)] [(.int (1 : Int32))])) (fun t k => XS.iconst C4.here C4.hx rfl (C4.dec d8_24) k) ?_
    refine Endw.st (T' := T4) (g' := (mkF m 29 #[.val (.ref a), .val (.ref b), .val (.ref b)] [(.int (1 : Int32))])) (fun t k => XS.goto C4.here C4.hx rfl (pc0 := 25) rfl (C4.dec d8_25) (by decide) rfl k) ?_
    exact C4.retI (t := .boolean) rfl (by simp) rfl d8_29 (by decide) (by decide) ⟨_, rfl, Or.inl ⟨c5, rfl⟩, rfl⟩
  · refine Endw.st (T' := T4) (g' := (mkF m 28 #[.val (.ref a), .val (.ref b), .val (.ref b)] [])) (fun t k => XS.ifYes C4.here C4.hx rfl (pc0 := 21) rfl (C4.dec d8_21) rfl (XT.ll_ne_t c5) (by decide) rfl k) ?_
    refine Endw.st (T' := T4) (g' := (mkF m 29 #[.val (.ref a), .val (.ref b), .val (.ref b)] [(.int (0 : Int32))])) (fun t k => XS.iconst C4.here C4.hx rfl (C4.dec d8_28) k) ?_
    exact C4.retI (t := .boolean) rfl (by simp) rfl d8_29 (by decide) (by decide) ⟨_, rfl, Or.inr ⟨c5, rfl⟩, rfl⟩
set_option maxRecDepth 65536 in
set_option maxHeartbeats 40000000 in
theorem rm_EqN (l : Launch) (Z : State) (a0 : Array Value) (EL : List (String × Nat)) (G : Glob Z a0 EL) (a : Addr) (h : Heap) (O : Ext Z.heap h)  :
    Met l Z EL true (⟨"com/example/tessera/tessera/Value$IntegerValue", "equals", "(Ljava/lang/Object;)Z"⟩ : MethodName) prog_117_method_5_code 3 (some .boolean) [] ({ frames := 0, cells := 0, slots := 0, locals := 0 } : Room) #[(.ref a), .null] h [] (fun r h' => r = some (.int 0) ∧ h = h') := by
  have hw := G.hw
  obtain ⟨zc, Sc, hzc⟩ := G.cs
  obtain ⟨vf, Sf, hvf⟩ := G.fm
  refine Met.of (plainFor_of_name pn_7256616c7565_2) G.ew O ?_
  intro p e s m below meth c T0 C0 S0
  refine Endw.eq (g' := mkF m 0 #[.val (.ref a), .val .null, .unset] []) (by first | rfl | (simp [entryFrame, mkF, argsToLocals, own_cI, own_cR, own_cN, own_cJ, own_cD, maxLocals]; done)) ?_
  refine Endw.st (T' := T0) (g' := (mkF m 1 #[.val (.ref a), .val .null, .unset] [.null])) (fun t k => XS.aloadN C0.here C0.hx rfl (C0.dec d8_0) rfl rfl k) ?_
  refine Endw.st (T' := T0) (g' := (mkF m 4 #[.val (.ref a), .val .null, .unset] [(.int (0 : Int32))])) (fun t k => own_instanceofNull C0 rfl rfl d8_1 k) ?_
  refine Endw.st (T' := T0) (g' := (mkF m 28 #[.val (.ref a), .val .null, .unset] [])) (fun t k => XS.ifYes C0.here C0.hx rfl (pc0 := 4) rfl (C0.dec d8_4) rfl (XT.i0_eq_t (by decide)) (by decide) rfl k) ?_
  refine Endw.st (T' := T0) (g' := (mkF m 29 #[.val (.ref a), .val .null, .unset] [(.int (0 : Int32))])) (fun t k => XS.iconst C0.here C0.hx rfl (C0.dec d8_28) k) ?_
  exact C0.retI (t := .boolean) rfl (by simp) rfl d8_29 (by decide) (by decide) ⟨rfl, rfl⟩
set_option maxRecDepth 65536 in
set_option maxHeartbeats 40000000 in
theorem rm_EqF (l : Launch) (Z : State) (a0 : Array Value) (EL : List (String × Nat)) (G : Glob Z a0 EL) (a b : Addr) (h : Heap) (O : Ext Z.heap h) (E0 : Exa Z h b "com/example/tessera/tessera/Value$FloatValue") :
    Met l Z EL true (⟨"com/example/tessera/tessera/Value$IntegerValue", "equals", "(Ljava/lang/Object;)Z"⟩ : MethodName) prog_117_method_5_code 3 (some .boolean) [] ({ frames := 0, cells := 0, slots := 0, locals := 0 } : Room) #[(.ref a), (.ref b)] h [] (fun r h' => r = some (.int 0) ∧ h = h') := by
  have hw := G.hw
  obtain ⟨zc, Sc, hzc⟩ := G.cs
  obtain ⟨vf, Sf, hvf⟩ := G.fm
  refine Met.of (plainFor_of_name pn_7256616c7565_2) G.ew O ?_
  intro p e s m below meth c T0 C0 S0
  refine Endw.eq (g' := mkF m 0 #[.val (.ref a), .val (.ref b), .unset] []) (by first | rfl | (simp [entryFrame, mkF, argsToLocals, own_cI, own_cR, own_cN, own_cJ, own_cD, maxLocals]; done)) ?_
  refine Endw.st (T' := T0) (g' := (mkF m 1 #[.val (.ref a), .val (.ref b), .unset] [(.ref b)])) (fun t k => XS.aloadN C0.here C0.hx rfl (C0.dec d8_0) rfl rfl k) ?_
  refine C0.instNo (W21 hw) E0 (own_NSno (W70 hw) (W1 hw) (NS.step (W70 hw) (NS.step (W57 hw) (own_NSroot (W58 hw) (W1 hw) (by decide)) (by decide)) (by decide)) (by decide)) d8_1 (pc' := 4) rfl ?_
  intro T1 C1
  show Endw p e below T1 (mkF m 4 #[.val (.ref a), .val (.ref b), .unset] [(.int (0 : Int32))]) _
  refine Endw.st (T' := T1) (g' := (mkF m 28 #[.val (.ref a), .val (.ref b), .unset] [])) (fun t k => XS.ifYes C1.here C1.hx rfl (pc0 := 4) rfl (C1.dec d8_4) rfl (XT.i0_eq_t (by decide)) (by decide) rfl k) ?_
  refine Endw.st (T' := T1) (g' := (mkF m 29 #[.val (.ref a), .val (.ref b), .unset] [(.int (0 : Int32))])) (fun t k => XS.iconst C1.here C1.hx rfl (C1.dec d8_28) k) ?_
  exact C1.retI (t := .boolean) rfl (by simp) rfl d8_29 (by decide) (by decide) ⟨rfl, rfl⟩
set_option maxRecDepth 65536 in
set_option maxHeartbeats 40000000 in
theorem rm_EqS (l : Launch) (Z : State) (a0 : Array Value) (EL : List (String × Nat)) (G : Glob Z a0 EL) (a b : Addr) (h : Heap) (O : Ext Z.heap h) (E0 : Exa Z h b "com/example/tessera/tessera/Value$SymbolValue") :
    Met l Z EL true (⟨"com/example/tessera/tessera/Value$IntegerValue", "equals", "(Ljava/lang/Object;)Z"⟩ : MethodName) prog_117_method_5_code 3 (some .boolean) [] ({ frames := 0, cells := 0, slots := 0, locals := 0 } : Room) #[(.ref a), (.ref b)] h [] (fun r h' => r = some (.int 0) ∧ h = h') := by
  have hw := G.hw
  obtain ⟨zc, Sc, hzc⟩ := G.cs
  obtain ⟨vf, Sf, hvf⟩ := G.fm
  refine Met.of (plainFor_of_name pn_7256616c7565_2) G.ew O ?_
  intro p e s m below meth c T0 C0 S0
  refine Endw.eq (g' := mkF m 0 #[.val (.ref a), .val (.ref b), .unset] []) (by first | rfl | (simp [entryFrame, mkF, argsToLocals, own_cI, own_cR, own_cN, own_cJ, own_cD, maxLocals]; done)) ?_
  refine Endw.st (T' := T0) (g' := (mkF m 1 #[.val (.ref a), .val (.ref b), .unset] [(.ref b)])) (fun t k => XS.aloadN C0.here C0.hx rfl (C0.dec d8_0) rfl rfl k) ?_
  refine C0.instNo (W21 hw) E0 (own_NSno (W56 hw) (W1 hw) (NS.step (W56 hw) (NS.step (W57 hw) (own_NSroot (W58 hw) (W1 hw) (by decide)) (by decide)) (by decide)) (by decide)) d8_1 (pc' := 4) rfl ?_
  intro T1 C1
  show Endw p e below T1 (mkF m 4 #[.val (.ref a), .val (.ref b), .unset] [(.int (0 : Int32))]) _
  refine Endw.st (T' := T1) (g' := (mkF m 28 #[.val (.ref a), .val (.ref b), .unset] [])) (fun t k => XS.ifYes C1.here C1.hx rfl (pc0 := 4) rfl (C1.dec d8_4) rfl (XT.i0_eq_t (by decide)) (by decide) rfl k) ?_
  refine Endw.st (T' := T1) (g' := (mkF m 29 #[.val (.ref a), .val (.ref b), .unset] [(.int (0 : Int32))])) (fun t k => XS.iconst C1.here C1.hx rfl (C1.dec d8_28) k) ?_
  exact C1.retI (t := .boolean) rfl (by simp) rfl d8_29 (by decide) (by decide) ⟨rfl, rfl⟩
set_option maxRecDepth 65536 in
set_option maxHeartbeats 40000000 in
theorem rm_law (l : Launch) (Z : State) (a0 : Array Value) (EL : List (String × Nat)) (G : Glob Z a0 EL) (i0 i1 : Int64) (i2 i3 : Int32) (h : Heap) (O : Ext Z.heap h)  :
    Met l Z EL true x code maxLocals ret tables_1 room_1 #[(.long i0), (.long i1), (.int i2), (.int i3)] h [] (fun r h' => r = some (.int 1)) := by
  have hw := G.hw
  obtain ⟨zc, Sc, hzc⟩ := G.cs
  obtain ⟨vf, Sf, hvf⟩ := G.fm
  refine Met.of (plainFor_of_name pn_50696e4c6177_0) G.ew O ?_
  intro p e s m below meth c T0 C0 S0
  refine Endw.eq (g' := mkF m 0 #[.val (.long i0), .second, .val (.long i1), .second, .val (.int i2), .val (.int i3), .unset, .unset, .unset, .unset, .unset, .unset, .unset] []) (by first | rfl | (simp [entryFrame, mkF, argsToLocals, own_cI, own_cR, own_cN, own_cJ, own_cD, maxLocals]; done)) ?_
  refine Endw.st (T' := T0) (g' := (mkF m 2 #[.val (.long i0), .second, .val (.long i1), .second, .val (.int i2), .val (.int i3), .unset, .unset, .unset, .unset, .unset, .unset, .unset] [(.int i2)])) (fun t k => XS.iload C0.here C0.hx rfl (C0.dec at_0) rfl k) ?_
  refine Endw.st (T' := T0) (g' := (mkF m 3 #[.val (.long i0), .second, .val (.long i1), .second, .val (.int i2), .val (.int i3), .unset, .unset, .unset, .unset, .unset, .unset, .unset] [(.int (3 : Int32)), (.int i2)])) (fun t k => XS.iconst C0.here C0.hx rfl (C0.dec at_2) k) ?_
  refine Endw.st (T' := T0) (g' := (mkF m 4 #[.val (.long i0), .second, .val (.long i1), .second, .val (.int i2), .val (.int i3), .unset, .unset, .unset, .unset, .unset, .unset, .unset] [(.int (i2 &&& (3 : Int32)))])) (fun t k => XS.iand C0.here C0.hx rfl (C0.dec at_3) rfl k) ?_
  refine Endw.st (T' := T0) (g' := (mkF m 6 #[.val (.long i0), .second, .val (.long i1), .second, .val (.int i2), .val (.int i3), .val (.int (i2 &&& (3 : Int32))), .unset, .unset, .unset, .unset, .unset, .unset] [])) (fun t k => XS.istore C0.here C0.hx rfl (C0.dec at_4) rfl (l' := #[.val (.long i0), .second, .val (.long i1), .second, .val (.int i2), .val (.int i3), .val (.int (i2 &&& (3 : Int32))), .unset, .unset, .unset, .unset, .unset, .unset]) rfl k) ?_
  refine Endw.st (T' := T0) (g' := (mkF m 8 #[.val (.long i0), .second, .val (.long i1), .second, .val (.int i2), .val (.int i3), .val (.int (i2 &&& (3 : Int32))), .unset, .unset, .unset, .unset, .unset, .unset] [(.int i2)])) (fun t k => XS.iload C0.here C0.hx rfl (C0.dec at_6) rfl k) ?_
  refine Endw.st (T' := T0) (g' := (mkF m 9 #[.val (.long i0), .second, .val (.long i1), .second, .val (.int i2), .val (.int i3), .val (.int (i2 &&& (3 : Int32))), .unset, .unset, .unset, .unset, .unset, .unset] [(.int (2 : Int32)), (.int i2)])) (fun t k => XS.iconst C0.here C0.hx rfl (C0.dec at_8) k) ?_
  refine Endw.st (T' := T0) (g' := (mkF m 10 #[.val (.long i0), .second, .val (.long i1), .second, .val (.int i2), .val (.int i3), .val (.int (i2 &&& (3 : Int32))), .unset, .unset, .unset, .unset, .unset, .unset] [(.int (i2 >>> ((2 : Int32) &&& 31)))])) (fun t k => XS.ishr C0.here C0.hx rfl (C0.dec at_9) rfl k) ?_
  refine Endw.st (T' := T0) (g' := (mkF m 11 #[.val (.long i0), .second, .val (.long i1), .second, .val (.int i2), .val (.int i3), .val (.int (i2 &&& (3 : Int32))), .unset, .unset, .unset, .unset, .unset, .unset] [(.int (1 : Int32)), (.int (i2 >>> ((2 : Int32) &&& 31)))])) (fun t k => XS.iconst C0.here C0.hx rfl (C0.dec at_10) k) ?_
  refine Endw.st (T' := T0) (g' := (mkF m 12 #[.val (.long i0), .second, .val (.long i1), .second, .val (.int i2), .val (.int i3), .val (.int (i2 &&& (3 : Int32))), .unset, .unset, .unset, .unset, .unset, .unset] [(.int ((i2 >>> ((2 : Int32) &&& 31)) &&& (1 : Int32)))])) (fun t k => XS.iand C0.here C0.hx rfl (C0.dec at_11) rfl k) ?_
  by_cases c1 : ((i2 >>> ((2 : Int32) &&& 31)) &&& (1 : Int32)) = (0 : Int32)
  · refine Endw.st (T' := T0) (g' := (mkF m 19 #[.val (.long i0), .second, .val (.long i1), .second, .val (.int i2), .val (.int i3), .val (.int (i2 &&& (3 : Int32))), .unset, .unset, .unset, .unset, .unset, .unset] [])) (fun t k => XS.ifYes C0.here C0.hx rfl (pc0 := 12) rfl (C0.dec at_12) rfl (XT.i0_eq_t c1) (by decide) rfl k) ?_
    refine Endw.st (T' := T0) (g' := (mkF m 20 #[.val (.long i0), .second, .val (.long i1), .second, .val (.int i2), .val (.int i3), .val (.int (i2 &&& (3 : Int32))), .unset, .unset, .unset, .unset, .unset, .unset] [(.int (0 : Int32))])) (fun t k => XS.iconst C0.here C0.hx rfl (C0.dec at_19) k) ?_
    refine Endw.st (T' := T0) (g' := (mkF m 22 #[.val (.long i0), .second, .val (.long i1), .second, .val (.int i2), .val (.int i3), .val (.int (i2 &&& (3 : Int32))), .val (.int (0 : Int32)), .unset, .unset, .unset, .unset, .unset] [])) (fun t k => XS.istore C0.here C0.hx rfl (C0.dec at_20) rfl (l' := #[.val (.long i0), .second, .val (.long i1), .second, .val (.int i2), .val (.int i3), .val (.int (i2 &&& (3 : Int32))), .val (.int (0 : Int32)), .unset, .unset, .unset, .unset, .unset]) rfl k) ?_
    refine C0.new (W0 hw) (W1 hw) (W2 hw) at_22 (pc' := 25) rfl (by decide) (by decide) ?_
    intro T2 h2 a2 C2 K2 A2 ge2 zg2 E2 D2 S2
    show Endw p e below T2 (mkF m 25 #[.val (.long i0), .second, .val (.long i1), .second, .val (.int i2), .val (.int i3), .val (.int (i2 &&& (3 : Int32))), .val (.int (0 : Int32)), .unset, .unset, .unset, .unset, .unset] [(.ref a2)]) _
    refine Endw.st (T' := T2) (g' := (mkF m 26 #[.val (.long i0), .second, .val (.long i1), .second, .val (.int i2), .val (.int i3), .val (.int (i2 &&& (3 : Int32))), .val (.int (0 : Int32)), .unset, .unset, .unset, .unset, .unset] [(.ref a2), (.ref a2)])) (fun t k => XS.dup C2.here C2.hx rfl (C2.dec at_25) rfl rfl k) ?_
    refine Endw.st (T' := T2) (g' := (mkF m 27 #[.val (.long i0), .second, .val (.long i1), .second, .val (.int i2), .val (.int i3), .val (.int (i2 &&& (3 : Int32))), .val (.int (0 : Int32)), .unset, .unset, .unset, .unset, .unset] [(.long i0), (.ref a2), (.ref a2)])) (fun t k => XS.lloadN C2.here C2.hx rfl (C2.dec at_26) rfl k) ?_
    have f3 : Fld Z h2 a2 "com/example/tessera/tessera/Value$IntegerValue" "value" "J" (.long (0 : Int64)) := D2 (Or.inr (W15 hw)) (ty := .long) (by decide)
    refine C2.special (y := (⟨"com/example/tessera/tessera/Value$IntegerValue", "<init>", "(J)V"⟩ : MethodName)) (W := 1) (a := a2) (argsL := [(.long i0)]) (rest := [(.ref a2)]) rfl (W3 hw) (W4 hw) (W5 hw) (W2 hw) (by decide) (rm_IV l Z a0 EL G a2 i0 h2 C2.old E2 f3 zg2) rfl all0 (by decide) (by decide) (by decide) (by decide) (lenOf pd_284a2956 rfl) rfl (Nat.le_of_ble_eq_true rfl) rfl at_27 (pc' := 30) rfl ?_
    intro vm4 T4 h4 v4 C4 A4 q4
    obtain ⟨rfl, K4, E4, F4_0⟩ := q4
    show Endw p e below T4 (mkF m 30 #[.val (.long i0), .second, .val (.long i1), .second, .val (.int i2), .val (.int i3), .val (.int (i2 &&& (3 : Int32))), .val (.int (0 : Int32)), .unset, .unset, .unset, .unset, .unset] [(.ref a2)]) _
    refine Endw.st (T' := T4) (g' := (mkF m 32 #[.val (.long i0), .second, .val (.long i1), .second, .val (.int i2), .val (.int i3), .val (.int (i2 &&& (3 : Int32))), .val (.int (0 : Int32)), .val (.ref a2), .unset, .unset, .unset, .unset] [])) (fun t k => XS.astore C4.here C4.hx rfl (C4.dec at_30) rfl rfl (l' := #[.val (.long i0), .second, .val (.long i1), .second, .val (.int i2), .val (.int i3), .val (.int (i2 &&& (3 : Int32))), .val (.int (0 : Int32)), .val (.ref a2), .unset, .unset, .unset, .unset]) rfl k) ?_
    refine Endw.st (T' := T4) (g' := (mkF m 34 #[.val (.long i0), .second, .val (.long i1), .second, .val (.int i2), .val (.int i3), .val (.int (i2 &&& (3 : Int32))), .val (.int (0 : Int32)), .val (.ref a2), .unset, .unset, .unset, .unset] [(.int (i2 &&& (3 : Int32)))])) (fun t k => XS.iload C4.here C4.hx rfl (C4.dec at_32) rfl k) ?_
    by_cases c5 : (i2 &&& (3 : Int32)) = (0 : Int32)
    · refine Endw.st (T' := T4) (g' := (mkF m 37 #[.val (.long i0), .second, .val (.long i1), .second, .val (.int i2), .val (.int i3), .val (.int (i2 &&& (3 : Int32))), .val (.int (0 : Int32)), .val (.ref a2), .unset, .unset, .unset, .unset] [])) (fun t k => XS.ifNo C4.here C4.hx rfl (C4.dec at_34) rfl (XT.i0_ne_f c5) k) ?_
      refine Endw.st (T' := T4) (g' := (mkF m 39 #[.val (.long i0), .second, .val (.long i1), .second, .val (.int i2), .val (.int i3), .val (.int (i2 &&& (3 : Int32))), .val (.int (0 : Int32)), .val (.ref a2), .unset, .unset, .unset, .unset] [(.int (0 : Int32))])) (fun t k => XS.iload C4.here C4.hx rfl (C4.dec at_37) rfl k) ?_
      refine Endw.st (T' := T4) (g' := (mkF m 46 #[.val (.long i0), .second, .val (.long i1), .second, .val (.int i2), .val (.int i3), .val (.int (i2 &&& (3 : Int32))), .val (.int (0 : Int32)), .val (.ref a2), .unset, .unset, .unset, .unset] [])) (fun t k => XS.ifYes C4.here C4.hx rfl (pc0 := 39) rfl (C4.dec at_39) rfl (XT.i0_eq_t (by decide)) (by decide) rfl k) ?_
      refine Endw.st (T' := T4) (g' := (mkF m 47 #[.val (.long i0), .second, .val (.long i1), .second, .val (.int i2), .val (.int i3), .val (.int (i2 &&& (3 : Int32))), .val (.int (0 : Int32)), .val (.ref a2), .unset, .unset, .unset, .unset] [(.long i1)])) (fun t k => XS.lloadN C4.here C4.hx rfl (C4.dec at_46) rfl k) ?_
      refine Endw.st (T' := T4) (g' := (mkF m 49 #[.val (.long i0), .second, .val (.long i1), .second, .val (.int i2), .val (.int i3), .val (.int (i2 &&& (3 : Int32))), .val (.int (0 : Int32)), .val (.ref a2), .val (.long i1), .second, .unset, .unset] [])) (fun t k => XS.lstore C4.here C4.hx rfl (C4.dec at_47) rfl (l' := #[.val (.long i0), .second, .val (.long i1), .second, .val (.int i2), .val (.int i3), .val (.int (i2 &&& (3 : Int32))), .val (.int (0 : Int32)), .val (.ref a2), .val (.long i1), .second, .unset, .unset]) rfl k) ?_
      refine C4.new (W0 hw) (W1 hw) (W2 hw) at_49 (pc' := 52) rfl (by decide) (by decide) ?_
      intro T6 h6 a6 C6 K6 A6 ge6 zg6 E6 D6 S6
      show Endw p e below T6 (mkF m 52 #[.val (.long i0), .second, .val (.long i1), .second, .val (.int i2), .val (.int i3), .val (.int (i2 &&& (3 : Int32))), .val (.int (0 : Int32)), .val (.ref a2), .val (.long i1), .second, .unset, .unset] [(.ref a6)]) _
      refine Endw.st (T' := T6) (g' := (mkF m 53 #[.val (.long i0), .second, .val (.long i1), .second, .val (.int i2), .val (.int i3), .val (.int (i2 &&& (3 : Int32))), .val (.int (0 : Int32)), .val (.ref a2), .val (.long i1), .second, .unset, .unset] [(.ref a6), (.ref a6)])) (fun t k => XS.dup C6.here C6.hx rfl (C6.dec at_52) rfl rfl k) ?_
      refine Endw.st (T' := T6) (g' := (mkF m 55 #[.val (.long i0), .second, .val (.long i1), .second, .val (.int i2), .val (.int i3), .val (.int (i2 &&& (3 : Int32))), .val (.int (0 : Int32)), .val (.ref a2), .val (.long i1), .second, .unset, .unset] [(.long i1), (.ref a6), (.ref a6)])) (fun t k => XS.lload C6.here C6.hx rfl (C6.dec at_53) rfl k) ?_
      have f7 : Fld Z h6 a6 "com/example/tessera/tessera/Value$IntegerValue" "value" "J" (.long (0 : Int64)) := D6 (Or.inr (W15 hw)) (ty := .long) (by decide)
      refine C6.special (y := (⟨"com/example/tessera/tessera/Value$IntegerValue", "<init>", "(J)V"⟩ : MethodName)) (W := 1) (a := a6) (argsL := [(.long i1)]) (rest := [(.ref a6)]) rfl (W3 hw) (W4 hw) (W5 hw) (W2 hw) (by decide) (rm_IV l Z a0 EL G a6 i1 h6 C6.old E6 f7 zg6) rfl all0 (by decide) (by decide) (by decide) (by decide) (lenOf pd_284a2956 rfl) rfl (Nat.le_of_ble_eq_true rfl) rfl at_55 (pc' := 58) rfl ?_
      intro vm8 T8 h8 v8 C8 A8 q8
      obtain ⟨rfl, K8, E8, F8_0⟩ := q8
      show Endw p e below T8 (mkF m 58 #[.val (.long i0), .second, .val (.long i1), .second, .val (.int i2), .val (.int i3), .val (.int (i2 &&& (3 : Int32))), .val (.int (0 : Int32)), .val (.ref a2), .val (.long i1), .second, .unset, .unset] [(.ref a6)]) _
      refine Endw.st (T' := T8) (g' := (mkF m 60 #[.val (.long i0), .second, .val (.long i1), .second, .val (.int i2), .val (.int i3), .val (.int (i2 &&& (3 : Int32))), .val (.int (0 : Int32)), .val (.ref a2), .val (.long i1), .second, .val (.ref a6), .unset] [])) (fun t k => XS.astore C8.here C8.hx rfl (C8.dec at_58) rfl rfl (l' := #[.val (.long i0), .second, .val (.long i1), .second, .val (.int i2), .val (.int i3), .val (.int (i2 &&& (3 : Int32))), .val (.int (0 : Int32)), .val (.ref a2), .val (.long i1), .second, .val (.ref a6), .unset]) rfl k) ?_
      refine Endw.st (T' := T8) (g' := (mkF m 62 #[.val (.long i0), .second, .val (.long i1), .second, .val (.int i2), .val (.int i3), .val (.int (i2 &&& (3 : Int32))), .val (.int (0 : Int32)), .val (.ref a2), .val (.long i1), .second, .val (.ref a6), .unset] [(.ref a2)])) (fun t k => XS.aload C8.here C8.hx rfl (C8.dec at_60) rfl rfl k) ?_
      refine Endw.st (T' := T8) (g' := (mkF m 64 #[.val (.long i0), .second, .val (.long i1), .second, .val (.int i2), .val (.int i3), .val (.int (i2 &&& (3 : Int32))), .val (.int (0 : Int32)), .val (.ref a2), .val (.long i1), .second, .val (.ref a6), .unset] [(.ref a6), (.ref a2)])) (fun t k => XS.aload C8.here C8.hx rfl (C8.dec at_62) rfl rfl k) ?_
      have f9 := ((F4_0.keep K6 nin0).keep K8 (ninS (Nat.ne_of_lt (Nat.lt_of_lt_of_le (Nat.lt_of_lt_of_le E2.lt K4.1) ge6)) nin0))
      have f11 := ((E4.keep K6).keep K8)
      refine C8.virtual (y := (⟨"com/example/tessera/tessera/Value$IntegerValue", "equals", "(Ljava/lang/Object;)Z"⟩ : MethodName)) (z := (⟨"com/example/tessera/tessera/Value$IntegerValue", "equals", "(Ljava/lang/Object;)Z"⟩ : MethodName)) (W := 0) (a := a2) (argsL := [(.ref a6)]) (rest := []) (W16 hw) (W17 hw) (fun _ q => notFace_of_selects (args := #[]) (mvT q (W19 hw))) (W19 hw) (W18 hw) (W20 hw) (W2 hw) (by decide) (rm_EqI l Z a0 EL G a2 a6 i0 i1 h8 C8.old E8 f9 F8_0) rfl f11 all0 (by decide) (by decide) (by decide) (by decide) (lenOf pd_7 rfl) rfl (Nat.le_of_ble_eq_true rfl) rfl at_64 (pc' := 67) rfl ?_
      intro vm10 T10 h10 v10 C10 A10 q10
      obtain ⟨z10, rfl, q10, rfl⟩ := q10
      rcases q10 with ⟨qe10, rfl⟩ | ⟨qe10, rfl⟩
      · show Endw p e below T10 (mkF m 67 #[.val (.long i0), .second, .val (.long i1), .second, .val (.int i2), .val (.int i3), .val (.int (i2 &&& (3 : Int32))), .val (.int (0 : Int32)), .val (.ref a2), .val (.long i1), .second, .val (.ref a6), .unset] [(.int (1 : Int32))]) _
        refine Endw.st (T' := T10) (g' := (mkF m 69 #[.val (.long i0), .second, .val (.long i1), .second, .val (.int i2), .val (.int i3), .val (.int (i2 &&& (3 : Int32))), .val (.int (0 : Int32)), .val (.ref a2), .val (.long i1), .second, .val (.ref a6), .val (.int (1 : Int32))] [])) (fun t k => XS.istore C10.here C10.hx rfl (C10.dec at_67) rfl (l' := #[.val (.long i0), .second, .val (.long i1), .second, .val (.int i2), .val (.int i3), .val (.int (i2 &&& (3 : Int32))), .val (.int (0 : Int32)), .val (.ref a2), .val (.long i1), .second, .val (.ref a6), .val (.int (1 : Int32))]) rfl k) ?_
        refine Endw.st (T' := T10) (g' := (mkF m 71 #[.val (.long i0), .second, .val (.long i1), .second, .val (.int i2), .val (.int i3), .val (.int (i2 &&& (3 : Int32))), .val (.int (0 : Int32)), .val (.ref a2), .val (.long i1), .second, .val (.ref a6), .val (.int (1 : Int32))] [(.int (1 : Int32))])) (fun t k => XS.iload C10.here C10.hx rfl (C10.dec at_69) rfl k) ?_
        refine Endw.st (T' := T10) (g' := (mkF m 72 #[.val (.long i0), .second, .val (.long i1), .second, .val (.int i2), .val (.int i3), .val (.int (i2 &&& (3 : Int32))), .val (.int (0 : Int32)), .val (.ref a2), .val (.long i1), .second, .val (.ref a6), .val (.int (1 : Int32))] [(.long i0), (.int (1 : Int32))])) (fun t k => XS.lloadN C10.here C10.hx rfl (C10.dec at_71) rfl k) ?_
        refine Endw.st (T' := T10) (g' := (mkF m 74 #[.val (.long i0), .second, .val (.long i1), .second, .val (.int i2), .val (.int i3), .val (.int (i2 &&& (3 : Int32))), .val (.int (0 : Int32)), .val (.ref a2), .val (.long i1), .second, .val (.ref a6), .val (.int (1 : Int32))] [(.long i1), (.long i0), (.int (1 : Int32))])) (fun t k => XS.lload C10.here C10.hx rfl (C10.dec at_72) rfl k) ?_
        refine Endw.st (T' := T10) (g' := (mkF m 75 #[.val (.long i0), .second, .val (.long i1), .second, .val (.int i2), .val (.int i3), .val (.int (i2 &&& (3 : Int32))), .val (.int (0 : Int32)), .val (.ref a2), .val (.long i1), .second, .val (.ref a6), .val (.int (1 : Int32))] [(.int (XT.cmpL i0 i1)), (.int (1 : Int32))])) (fun t k => XS.lcmp C10.here C10.hx rfl (C10.dec at_74) rfl k) ?_
        refine Endw.st (T' := T10) (g' := (mkF m 78 #[.val (.long i0), .second, .val (.long i1), .second, .val (.int i2), .val (.int i3), .val (.int (i2 &&& (3 : Int32))), .val (.int (0 : Int32)), .val (.ref a2), .val (.long i1), .second, .val (.ref a6), .val (.int (1 : Int32))] [(.int (1 : Int32))])) (fun t k => XS.ifNo C10.here C10.hx rfl (C10.dec at_75) rfl (XT.ll_ne_f qe10) k) ?_
        refine Endw.st (T' := T10) (g' := (mkF m 79 #[.val (.long i0), .second, .val (.long i1), .second, .val (.int i2), .val (.int i3), .val (.int (i2 &&& (3 : Int32))), .val (.int (0 : Int32)), .val (.ref a2), .val (.long i1), .second, .val (.ref a6), .val (.int (1 : Int32))] [(.int (1 : Int32)), (.int (1 : Int32))])) (fun t k => XS.iconst C10.here C10.hx rfl (C10.dec at_78) k) ?_
        refine Endw.st (T' := T10) (g' := (mkF m 83 #[.val (.long i0), .second, .val (.long i1), .second, .val (.int i2), .val (.int i3), .val (.int (i2 &&& (3 : Int32))), .val (.int (0 : Int32)), .val (.ref a2), .val (.long i1), .second, .val (.ref a6), .val (.int (1 : Int32))] [(.int (1 : Int32)), (.int (1 : Int32))])) (fun t k => XS.goto C10.here C10.hx rfl (pc0 := 79) rfl (C10.dec at_79) (by decide) rfl k) ?_
        refine Endw.st (T' := T10) (g' := (mkF m 86 #[.val (.long i0), .second, .val (.long i1), .second, .val (.int i2), .val (.int i3), .val (.int (i2 &&& (3 : Int32))), .val (.int (0 : Int32)), .val (.ref a2), .val (.long i1), .second, .val (.ref a6), .val (.int (1 : Int32))] [])) (fun t k => XS.icmpNo C10.here C10.hx rfl (C10.dec at_83) rfl (XT.ii_ne_f (by decide)) k) ?_
        refine Endw.st (T' := T10) (g' := (mkF m 88 #[.val (.long i0), .second, .val (.long i1), .second, .val (.int i2), .val (.int i3), .val (.int (i2 &&& (3 : Int32))), .val (.int (0 : Int32)), .val (.ref a2), .val (.long i1), .second, .val (.ref a6), .val (.int (1 : Int32))] [(.int (1 : Int32))])) (fun t k => XS.iload C10.here C10.hx rfl (C10.dec at_86) rfl k) ?_
        refine Endw.st (T' := T10) (g' := (mkF m 90 #[.val (.long i0), .second, .val (.long i1), .second, .val (.int i2), .val (.int i3), .val (.int (i2 &&& (3 : Int32))), .val (.int (0 : Int32)), .val (.ref a2), .val (.long i1), .second, .val (.ref a6), .val (.int (1 : Int32))] [(.ref a6), (.int (1 : Int32))])) (fun t k => XS.aload C10.here C10.hx rfl (C10.dec at_88) rfl rfl k) ?_
        refine Endw.st (T' := T10) (g' := (mkF m 92 #[.val (.long i0), .second, .val (.long i1), .second, .val (.int i2), .val (.int i3), .val (.int (i2 &&& (3 : Int32))), .val (.int (0 : Int32)), .val (.ref a2), .val (.long i1), .second, .val (.ref a6), .val (.int (1 : Int32))] [(.ref a2), (.ref a6), (.int (1 : Int32))])) (fun t k => XS.aload C10.here C10.hx rfl (C10.dec at_90) rfl rfl k) ?_
        refine C10.virtual (y := (⟨"com/example/tessera/tessera/Value$IntegerValue", "equals", "(Ljava/lang/Object;)Z"⟩ : MethodName)) (z := (⟨"com/example/tessera/tessera/Value$IntegerValue", "equals", "(Ljava/lang/Object;)Z"⟩ : MethodName)) (W := 1) (a := a6) (argsL := [(.ref a2)]) (rest := [(.int (1 : Int32))]) (W16 hw) (W17 hw) (fun _ q => notFace_of_selects (args := #[]) (mvT q (W19 hw))) (W19 hw) (W18 hw) (W20 hw) (W2 hw) (by decide) (rm_EqI l Z a0 EL G a6 a2 i1 i0 h8 C10.old f11 F8_0 f9) rfl E8 all0 (by decide) (by decide) (by decide) (by decide) (lenOf pd_7 rfl) rfl (Nat.le_of_ble_eq_true rfl) rfl at_92 (pc' := 95) rfl ?_
        intro vm12 T12 h12 v12 C12 A12 q12
        obtain ⟨z12, rfl, q12, rfl⟩ := q12
        obtain rfl : z12 = 1 := q12.elim (fun q => q.2) (fun q => absurd qe10.symm q.1)
        show Endw p e below T12 (mkF m 95 #[.val (.long i0), .second, .val (.long i1), .second, .val (.int i2), .val (.int i3), .val (.int (i2 &&& (3 : Int32))), .val (.int (0 : Int32)), .val (.ref a2), .val (.long i1), .second, .val (.ref a6), .val (.int (1 : Int32))] [(.int (1 : Int32)), (.int (1 : Int32))]) _
        refine Endw.st (T' := T12) (g' := (mkF m 98 #[.val (.long i0), .second, .val (.long i1), .second, .val (.int i2), .val (.int i3), .val (.int (i2 &&& (3 : Int32))), .val (.int (0 : Int32)), .val (.ref a2), .val (.long i1), .second, .val (.ref a6), .val (.int (1 : Int32))] [])) (fun t k => XS.icmpNo C12.here C12.hx rfl (C12.dec at_95) rfl (XT.ii_ne_f (by decide)) k) ?_
        refine Endw.st (T' := T12) (g' := (mkF m 100 #[.val (.long i0), .second, .val (.long i1), .second, .val (.int i2), .val (.int i3), .val (.int (i2 &&& (3 : Int32))), .val (.int (0 : Int32)), .val (.ref a2), .val (.long i1), .second, .val (.ref a6), .val (.int (1 : Int32))] [(.ref a2)])) (fun t k => XS.aload C12.here C12.hx rfl (C12.dec at_98) rfl rfl k) ?_
        refine Endw.st (T' := T12) (g' := (mkF m 102 #[.val (.long i0), .second, .val (.long i1), .second, .val (.int i2), .val (.int i3), .val (.int (i2 &&& (3 : Int32))), .val (.int (0 : Int32)), .val (.ref a2), .val (.long i1), .second, .val (.ref a6), .val (.int (1 : Int32))] [(.ref a2), (.ref a2)])) (fun t k => XS.aload C12.here C12.hx rfl (C12.dec at_100) rfl rfl k) ?_
        refine C12.virtual (y := (⟨"com/example/tessera/tessera/Value$IntegerValue", "equals", "(Ljava/lang/Object;)Z"⟩ : MethodName)) (z := (⟨"com/example/tessera/tessera/Value$IntegerValue", "equals", "(Ljava/lang/Object;)Z"⟩ : MethodName)) (W := 0) (a := a2) (argsL := [(.ref a2)]) (rest := []) (W16 hw) (W17 hw) (fun _ q => notFace_of_selects (args := #[]) (mvT q (W19 hw))) (W19 hw) (W18 hw) (W20 hw) (W2 hw) (by decide) (rm_EqI l Z a0 EL G a2 a2 i0 i0 h8 C12.old f11 f9 f9) rfl f11 all0 (by decide) (by decide) (by decide) (by decide) (lenOf pd_7 rfl) rfl (Nat.le_of_ble_eq_true rfl) rfl at_102 (pc' := 105) rfl ?_
        intro vm13 T13 h13 v13 C13 A13 q13
        obtain ⟨z13, rfl, q13, rfl⟩ := q13
        obtain rfl : z13 = 1 := q13.elim (fun q => q.2) (fun q => absurd rfl q.1)
        show Endw p e below T13 (mkF m 105 #[.val (.long i0), .second, .val (.long i1), .second, .val (.int i2), .val (.int i3), .val (.int (i2 &&& (3 : Int32))), .val (.int (0 : Int32)), .val (.ref a2), .val (.long i1), .second, .val (.ref a6), .val (.int (1 : Int32))] [(.int (1 : Int32))]) _
        refine Endw.st (T' := T13) (g' := (mkF m 108 #[.val (.long i0), .second, .val (.long i1), .second, .val (.int i2), .val (.int i3), .val (.int (i2 &&& (3 : Int32))), .val (.int (0 : Int32)), .val (.ref a2), .val (.long i1), .second, .val (.ref a6), .val (.int (1 : Int32))] [])) (fun t k => XS.ifNo C13.here C13.hx rfl (C13.dec at_105) rfl (XT.i0_eq_f (by decide)) k) ?_
        refine Endw.st (T' := T13) (g' := (mkF m 109 #[.val (.long i0), .second, .val (.long i1), .second, .val (.int i2), .val (.int i3), .val (.int (i2 &&& (3 : Int32))), .val (.int (0 : Int32)), .val (.ref a2), .val (.long i1), .second, .val (.ref a6), .val (.int (1 : Int32))] [(.int (1 : Int32))])) (fun t k => XS.iconst C13.here C13.hx rfl (C13.dec at_108) k) ?_
        refine Endw.st (T' := T13) (g' := (mkF m 113 #[.val (.long i0), .second, .val (.long i1), .second, .val (.int i2), .val (.int i3), .val (.int (i2 &&& (3 : Int32))), .val (.int (0 : Int32)), .val (.ref a2), .val (.long i1), .second, .val (.ref a6), .val (.int (1 : Int32))] [(.int (1 : Int32))])) (fun t k => XS.goto C13.here C13.hx rfl (pc0 := 109) rfl (C13.dec at_109) (by decide) rfl k) ?_
        exact C13.retI (t := .boolean) rfl (by simp) rfl at_113 (by decide) (by decide) rfl
      · show Endw p e below T10 (mkF m 67 #[.val (.long i0), .second, .val (.long i1), .second, .val (.int i2), .val (.int i3), .val (.int (i2 &&& (3 : Int32))), .val (.int (0 : Int32)), .val (.ref a2), .val (.long i1), .second, .val (.ref a6), .unset] [(.int (0 : Int32))]) _
        refine Endw.st (T' := T10) (g' := (mkF m 69 #[.val (.long i0), .second, .val (.long i1), .second, .val (.int i2), .val (.int i3), .val (.int (i2 &&& (3 : Int32))), .val (.int (0 : Int32)), .val (.ref a2), .val (.long i1), .second, .val (.ref a6), .val (.int (0 : Int32))] [])) (fun t k => XS.istore C10.here C10.hx rfl (C10.dec at_67) rfl (l' := #[.val (.long i0), .second, .val (.long i1), .second, .val (.int i2), .val (.int i3), .val (.int (i2 &&& (3 : Int32))), .val (.int (0 : Int32)), .val (.ref a2), .val (.long i1), .second, .val (.ref a6), .val (.int (0 : Int32))]) rfl k) ?_
        refine Endw.st (T' := T10) (g' := (mkF m 71 #[.val (.long i0), .second, .val (.long i1), .second, .val (.int i2), .val (.int i3), .val (.int (i2 &&& (3 : Int32))), .val (.int (0 : Int32)), .val (.ref a2), .val (.long i1), .second, .val (.ref a6), .val (.int (0 : Int32))] [(.int (0 : Int32))])) (fun t k => XS.iload C10.here C10.hx rfl (C10.dec at_69) rfl k) ?_
        refine Endw.st (T' := T10) (g' := (mkF m 72 #[.val (.long i0), .second, .val (.long i1), .second, .val (.int i2), .val (.int i3), .val (.int (i2 &&& (3 : Int32))), .val (.int (0 : Int32)), .val (.ref a2), .val (.long i1), .second, .val (.ref a6), .val (.int (0 : Int32))] [(.long i0), (.int (0 : Int32))])) (fun t k => XS.lloadN C10.here C10.hx rfl (C10.dec at_71) rfl k) ?_
        refine Endw.st (T' := T10) (g' := (mkF m 74 #[.val (.long i0), .second, .val (.long i1), .second, .val (.int i2), .val (.int i3), .val (.int (i2 &&& (3 : Int32))), .val (.int (0 : Int32)), .val (.ref a2), .val (.long i1), .second, .val (.ref a6), .val (.int (0 : Int32))] [(.long i1), (.long i0), (.int (0 : Int32))])) (fun t k => XS.lload C10.here C10.hx rfl (C10.dec at_72) rfl k) ?_
        refine Endw.st (T' := T10) (g' := (mkF m 75 #[.val (.long i0), .second, .val (.long i1), .second, .val (.int i2), .val (.int i3), .val (.int (i2 &&& (3 : Int32))), .val (.int (0 : Int32)), .val (.ref a2), .val (.long i1), .second, .val (.ref a6), .val (.int (0 : Int32))] [(.int (XT.cmpL i0 i1)), (.int (0 : Int32))])) (fun t k => XS.lcmp C10.here C10.hx rfl (C10.dec at_74) rfl k) ?_
        refine Endw.st (T' := T10) (g' := (mkF m 82 #[.val (.long i0), .second, .val (.long i1), .second, .val (.int i2), .val (.int i3), .val (.int (i2 &&& (3 : Int32))), .val (.int (0 : Int32)), .val (.ref a2), .val (.long i1), .second, .val (.ref a6), .val (.int (0 : Int32))] [(.int (0 : Int32))])) (fun t k => XS.ifYes C10.here C10.hx rfl (pc0 := 75) rfl (C10.dec at_75) rfl (XT.ll_ne_t qe10) (by decide) rfl k) ?_
        refine Endw.st (T' := T10) (g' := (mkF m 83 #[.val (.long i0), .second, .val (.long i1), .second, .val (.int i2), .val (.int i3), .val (.int (i2 &&& (3 : Int32))), .val (.int (0 : Int32)), .val (.ref a2), .val (.long i1), .second, .val (.ref a6), .val (.int (0 : Int32))] [(.int (0 : Int32)), (.int (0 : Int32))])) (fun t k => XS.iconst C10.here C10.hx rfl (C10.dec at_82) k) ?_
        refine Endw.st (T' := T10) (g' := (mkF m 86 #[.val (.long i0), .second, .val (.long i1), .second, .val (.int i2), .val (.int i3), .val (.int (i2 &&& (3 : Int32))), .val (.int (0 : Int32)), .val (.ref a2), .val (.long i1), .second, .val (.ref a6), .val (.int (0 : Int32))] [])) (fun t k => XS.icmpNo C10.here C10.hx rfl (C10.dec at_83) rfl (XT.ii_ne_f (by decide)) k) ?_
        refine Endw.st (T' := T10) (g' := (mkF m 88 #[.val (.long i0), .second, .val (.long i1), .second, .val (.int i2), .val (.int i3), .val (.int (i2 &&& (3 : Int32))), .val (.int (0 : Int32)), .val (.ref a2), .val (.long i1), .second, .val (.ref a6), .val (.int (0 : Int32))] [(.int (0 : Int32))])) (fun t k => XS.iload C10.here C10.hx rfl (C10.dec at_86) rfl k) ?_
        refine Endw.st (T' := T10) (g' := (mkF m 90 #[.val (.long i0), .second, .val (.long i1), .second, .val (.int i2), .val (.int i3), .val (.int (i2 &&& (3 : Int32))), .val (.int (0 : Int32)), .val (.ref a2), .val (.long i1), .second, .val (.ref a6), .val (.int (0 : Int32))] [(.ref a6), (.int (0 : Int32))])) (fun t k => XS.aload C10.here C10.hx rfl (C10.dec at_88) rfl rfl k) ?_
        refine Endw.st (T' := T10) (g' := (mkF m 92 #[.val (.long i0), .second, .val (.long i1), .second, .val (.int i2), .val (.int i3), .val (.int (i2 &&& (3 : Int32))), .val (.int (0 : Int32)), .val (.ref a2), .val (.long i1), .second, .val (.ref a6), .val (.int (0 : Int32))] [(.ref a2), (.ref a6), (.int (0 : Int32))])) (fun t k => XS.aload C10.here C10.hx rfl (C10.dec at_90) rfl rfl k) ?_
        refine C10.virtual (y := (⟨"com/example/tessera/tessera/Value$IntegerValue", "equals", "(Ljava/lang/Object;)Z"⟩ : MethodName)) (z := (⟨"com/example/tessera/tessera/Value$IntegerValue", "equals", "(Ljava/lang/Object;)Z"⟩ : MethodName)) (W := 1) (a := a6) (argsL := [(.ref a2)]) (rest := [(.int (0 : Int32))]) (W16 hw) (W17 hw) (fun _ q => notFace_of_selects (args := #[]) (mvT q (W19 hw))) (W19 hw) (W18 hw) (W20 hw) (W2 hw) (by decide) (rm_EqI l Z a0 EL G a6 a2 i1 i0 h8 C10.old f11 F8_0 f9) rfl E8 all0 (by decide) (by decide) (by decide) (by decide) (lenOf pd_7 rfl) rfl (Nat.le_of_ble_eq_true rfl) rfl at_92 (pc' := 95) rfl ?_
        intro vm14 T14 h14 v14 C14 A14 q14
        obtain ⟨z14, rfl, q14, rfl⟩ := q14
        obtain rfl : z14 = 0 := q14.elim (fun q => absurd q.1 (Ne.symm qe10)) (fun q => q.2)
        show Endw p e below T14 (mkF m 95 #[.val (.long i0), .second, .val (.long i1), .second, .val (.int i2), .val (.int i3), .val (.int (i2 &&& (3 : Int32))), .val (.int (0 : Int32)), .val (.ref a2), .val (.long i1), .second, .val (.ref a6), .val (.int (0 : Int32))] [(.int (0 : Int32)), (.int (0 : Int32))]) _
        refine Endw.st (T' := T14) (g' := (mkF m 98 #[.val (.long i0), .second, .val (.long i1), .second, .val (.int i2), .val (.int i3), .val (.int (i2 &&& (3 : Int32))), .val (.int (0 : Int32)), .val (.ref a2), .val (.long i1), .second, .val (.ref a6), .val (.int (0 : Int32))] [])) (fun t k => XS.icmpNo C14.here C14.hx rfl (C14.dec at_95) rfl (XT.ii_ne_f (by decide)) k) ?_
        refine Endw.st (T' := T14) (g' := (mkF m 100 #[.val (.long i0), .second, .val (.long i1), .second, .val (.int i2), .val (.int i3), .val (.int (i2 &&& (3 : Int32))), .val (.int (0 : Int32)), .val (.ref a2), .val (.long i1), .second, .val (.ref a6), .val (.int (0 : Int32))] [(.ref a2)])) (fun t k => XS.aload C14.here C14.hx rfl (C14.dec at_98) rfl rfl k) ?_
        refine Endw.st (T' := T14) (g' := (mkF m 102 #[.val (.long i0), .second, .val (.long i1), .second, .val (.int i2), .val (.int i3), .val (.int (i2 &&& (3 : Int32))), .val (.int (0 : Int32)), .val (.ref a2), .val (.long i1), .second, .val (.ref a6), .val (.int (0 : Int32))] [(.ref a2), (.ref a2)])) (fun t k => XS.aload C14.here C14.hx rfl (C14.dec at_100) rfl rfl k) ?_
        refine C14.virtual (y := (⟨"com/example/tessera/tessera/Value$IntegerValue", "equals", "(Ljava/lang/Object;)Z"⟩ : MethodName)) (z := (⟨"com/example/tessera/tessera/Value$IntegerValue", "equals", "(Ljava/lang/Object;)Z"⟩ : MethodName)) (W := 0) (a := a2) (argsL := [(.ref a2)]) (rest := []) (W16 hw) (W17 hw) (fun _ q => notFace_of_selects (args := #[]) (mvT q (W19 hw))) (W19 hw) (W18 hw) (W20 hw) (W2 hw) (by decide) (rm_EqI l Z a0 EL G a2 a2 i0 i0 h8 C14.old f11 f9 f9) rfl f11 all0 (by decide) (by decide) (by decide) (by decide) (lenOf pd_7 rfl) rfl (Nat.le_of_ble_eq_true rfl) rfl at_102 (pc' := 105) rfl ?_
        intro vm15 T15 h15 v15 C15 A15 q15
        obtain ⟨z15, rfl, q15, rfl⟩ := q15
        obtain rfl : z15 = 1 := q15.elim (fun q => q.2) (fun q => absurd rfl q.1)
        show Endw p e below T15 (mkF m 105 #[.val (.long i0), .second, .val (.long i1), .second, .val (.int i2), .val (.int i3), .val (.int (i2 &&& (3 : Int32))), .val (.int (0 : Int32)), .val (.ref a2), .val (.long i1), .second, .val (.ref a6), .val (.int (0 : Int32))] [(.int (1 : Int32))]) _
        refine Endw.st (T' := T15) (g' := (mkF m 108 #[.val (.long i0), .second, .val (.long i1), .second, .val (.int i2), .val (.int i3), .val (.int (i2 &&& (3 : Int32))), .val (.int (0 : Int32)), .val (.ref a2), .val (.long i1), .second, .val (.ref a6), .val (.int (0 : Int32))] [])) (fun t k => XS.ifNo C15.here C15.hx rfl (C15.dec at_105) rfl (XT.i0_eq_f (by decide)) k) ?_
        refine Endw.st (T' := T15) (g' := (mkF m 109 #[.val (.long i0), .second, .val (.long i1), .second, .val (.int i2), .val (.int i3), .val (.int (i2 &&& (3 : Int32))), .val (.int (0 : Int32)), .val (.ref a2), .val (.long i1), .second, .val (.ref a6), .val (.int (0 : Int32))] [(.int (1 : Int32))])) (fun t k => XS.iconst C15.here C15.hx rfl (C15.dec at_108) k) ?_
        refine Endw.st (T' := T15) (g' := (mkF m 113 #[.val (.long i0), .second, .val (.long i1), .second, .val (.int i2), .val (.int i3), .val (.int (i2 &&& (3 : Int32))), .val (.int (0 : Int32)), .val (.ref a2), .val (.long i1), .second, .val (.ref a6), .val (.int (0 : Int32))] [(.int (1 : Int32))])) (fun t k => XS.goto C15.here C15.hx rfl (pc0 := 109) rfl (C15.dec at_109) (by decide) rfl k) ?_
        exact C15.retI (t := .boolean) rfl (by simp) rfl at_113 (by decide) (by decide) rfl
    · refine Endw.st (T' := T4) (g' := (mkF m 114 #[.val (.long i0), .second, .val (.long i1), .second, .val (.int i2), .val (.int i3), .val (.int (i2 &&& (3 : Int32))), .val (.int (0 : Int32)), .val (.ref a2), .unset, .unset, .unset, .unset] [])) (fun t k => XS.ifYes C4.here C4.hx rfl (pc0 := 34) rfl (C4.dec at_34) rfl (XT.i0_ne_t c5) (by decide) rfl k) ?_
      refine Endw.st (T' := T4) (g' := (mkF m 116 #[.val (.long i0), .second, .val (.long i1), .second, .val (.int i2), .val (.int i3), .val (.int (i2 &&& (3 : Int32))), .val (.int (0 : Int32)), .val (.ref a2), .unset, .unset, .unset, .unset] [(.int (i2 &&& (3 : Int32)))])) (fun t k => XS.iload C4.here C4.hx rfl (C4.dec at_114) rfl k) ?_
      refine Endw.st (T' := T4) (g' := (mkF m 117 #[.val (.long i0), .second, .val (.long i1), .second, .val (.int i2), .val (.int i3), .val (.int (i2 &&& (3 : Int32))), .val (.int (0 : Int32)), .val (.ref a2), .unset, .unset, .unset, .unset] [(.int (1 : Int32)), (.int (i2 &&& (3 : Int32)))])) (fun t k => XS.iconst C4.here C4.hx rfl (C4.dec at_116) k) ?_
      by_cases c16 : (i2 &&& (3 : Int32)) = (1 : Int32)
      · refine Endw.st (T' := T4) (g' := (mkF m 120 #[.val (.long i0), .second, .val (.long i1), .second, .val (.int i2), .val (.int i3), .val (.int (i2 &&& (3 : Int32))), .val (.int (0 : Int32)), .val (.ref a2), .unset, .unset, .unset, .unset] [])) (fun t k => XS.icmpNo C4.here C4.hx rfl (C4.dec at_117) rfl (XT.ii_ne_f c16) k) ?_
        refine Endw.st (T' := T4) (g' := (mkF m 122 #[.val (.long i0), .second, .val (.long i1), .second, .val (.int i2), .val (.int i3), .val (.int (i2 &&& (3 : Int32))), .val (.int (0 : Int32)), .val (.ref a2), .unset, .unset, .unset, .unset] [(.ref a2)])) (fun t k => XS.aload C4.here C4.hx rfl (C4.dec at_120) rfl rfl k) ?_
        refine Endw.st (T' := T4) (g' := (mkF m 123 #[.val (.long i0), .second, .val (.long i1), .second, .val (.int i2), .val (.int i3), .val (.int (i2 &&& (3 : Int32))), .val (.int (0 : Int32)), .val (.ref a2), .unset, .unset, .unset, .unset] [.null, (.ref a2)])) (fun t k => XS.aconstNull C4.here C4.hx rfl (C4.dec at_122) k) ?_
        refine C4.virtual (y := (⟨"com/example/tessera/tessera/Value$IntegerValue", "equals", "(Ljava/lang/Object;)Z"⟩ : MethodName)) (z := (⟨"com/example/tessera/tessera/Value$IntegerValue", "equals", "(Ljava/lang/Object;)Z"⟩ : MethodName)) (W := 0) (a := a2) (argsL := [.null]) (rest := []) (W16 hw) (W17 hw) (fun _ q => notFace_of_selects (args := #[]) (mvT q (W19 hw))) (W19 hw) (W18 hw) (W20 hw) (W2 hw) (by decide) (rm_EqN l Z a0 EL G a2 h4 C4.old) rfl E4 all0 (by decide) (by decide) (by decide) (by decide) (lenOf pd_7 rfl) rfl (Nat.le_of_ble_eq_true rfl) rfl at_123 (pc' := 126) rfl ?_
        intro vm17 T17 h17 v17 C17 A17 q17
        obtain ⟨rfl, rfl⟩ := q17
        show Endw p e below T17 (mkF m 126 #[.val (.long i0), .second, .val (.long i1), .second, .val (.int i2), .val (.int i3), .val (.int (i2 &&& (3 : Int32))), .val (.int (0 : Int32)), .val (.ref a2), .unset, .unset, .unset, .unset] [(.int (0 : Int32))]) _
        refine Endw.st (T' := T17) (g' := (mkF m 129 #[.val (.long i0), .second, .val (.long i1), .second, .val (.int i2), .val (.int i3), .val (.int (i2 &&& (3 : Int32))), .val (.int (0 : Int32)), .val (.ref a2), .unset, .unset, .unset, .unset] [])) (fun t k => XS.ifNo C17.here C17.hx rfl (C17.dec at_126) rfl (XT.i0_ne_f (by decide)) k) ?_
        refine Endw.st (T' := T17) (g' := (mkF m 130 #[.val (.long i0), .second, .val (.long i1), .second, .val (.int i2), .val (.int i3), .val (.int (i2 &&& (3 : Int32))), .val (.int (0 : Int32)), .val (.ref a2), .unset, .unset, .unset, .unset] [(.int (1 : Int32))])) (fun t k => XS.iconst C17.here C17.hx rfl (C17.dec at_129) k) ?_
        refine Endw.st (T' := T17) (g' := (mkF m 134 #[.val (.long i0), .second, .val (.long i1), .second, .val (.int i2), .val (.int i3), .val (.int (i2 &&& (3 : Int32))), .val (.int (0 : Int32)), .val (.ref a2), .unset, .unset, .unset, .unset] [(.int (1 : Int32))])) (fun t k => XS.goto C17.here C17.hx rfl (pc0 := 130) rfl (C17.dec at_130) (by decide) rfl k) ?_
        exact C17.retI (t := .boolean) rfl (by simp) rfl at_134 (by decide) (by decide) rfl
      · refine Endw.st (T' := T4) (g' := (mkF m 135 #[.val (.long i0), .second, .val (.long i1), .second, .val (.int i2), .val (.int i3), .val (.int (i2 &&& (3 : Int32))), .val (.int (0 : Int32)), .val (.ref a2), .unset, .unset, .unset, .unset] [])) (fun t k => XS.icmpYes C4.here C4.hx rfl (pc0 := 117) rfl (C4.dec at_117) rfl (XT.ii_ne_t c16) (by decide) rfl k) ?_
        refine Endw.st (T' := T4) (g' := (mkF m 137 #[.val (.long i0), .second, .val (.long i1), .second, .val (.int i2), .val (.int i3), .val (.int (i2 &&& (3 : Int32))), .val (.int (0 : Int32)), .val (.ref a2), .unset, .unset, .unset, .unset] [(.int (i2 &&& (3 : Int32)))])) (fun t k => XS.iload C4.here C4.hx rfl (C4.dec at_135) rfl k) ?_
        refine Endw.st (T' := T4) (g' := (mkF m 138 #[.val (.long i0), .second, .val (.long i1), .second, .val (.int i2), .val (.int i3), .val (.int (i2 &&& (3 : Int32))), .val (.int (0 : Int32)), .val (.ref a2), .unset, .unset, .unset, .unset] [(.int (2 : Int32)), (.int (i2 &&& (3 : Int32)))])) (fun t k => XS.iconst C4.here C4.hx rfl (C4.dec at_137) k) ?_
        by_cases c18 : (i2 &&& (3 : Int32)) = (2 : Int32)
        · refine Endw.st (T' := T4) (g' := (mkF m 141 #[.val (.long i0), .second, .val (.long i1), .second, .val (.int i2), .val (.int i3), .val (.int (i2 &&& (3 : Int32))), .val (.int (0 : Int32)), .val (.ref a2), .unset, .unset, .unset, .unset] [])) (fun t k => XS.icmpNo C4.here C4.hx rfl (C4.dec at_138) rfl (XT.ii_ne_f c18) k) ?_
          refine Endw.st (T' := T4) (g' := (mkF m 142 #[.val (.long i0), .second, .val (.long i1), .second, .val (.int i2), .val (.int i3), .val (.int (i2 &&& (3 : Int32))), .val (.int (0 : Int32)), .val (.ref a2), .unset, .unset, .unset, .unset] [(.long i0)])) (fun t k => XS.lloadN C4.here C4.hx rfl (C4.dec at_141) rfl k) ?_
          refine Endw.st (T' := T4) (g' := (mkF m 145 #[.val (.long i0), .second, .val (.long i1), .second, .val (.int i2), .val (.int i3), .val (.int (i2 &&& (3 : Int32))), .val (.int (0 : Int32)), .val (.ref a2), .unset, .unset, .unset, .unset] [(.long (65535 : Int64)), (.long i0)])) (fun t k => own_ldc2J C4 (W59 hw) rfl at_142 k) ?_
          refine Endw.st (T' := T4) (g' := (mkF m 146 #[.val (.long i0), .second, .val (.long i1), .second, .val (.int i2), .val (.int i3), .val (.int (i2 &&& (3 : Int32))), .val (.int (0 : Int32)), .val (.ref a2), .unset, .unset, .unset, .unset] [(.long (i0 &&& (65535 : Int64)))])) (fun t k => XS.land C4.here C4.hx rfl (C4.dec at_145) rfl k) ?_
          refine Endw.st (T' := T4) (g' := (mkF m 147 #[.val (.long i0), .second, .val (.long i1), .second, .val (.int i2), .val (.int i3), .val (.int (i2 &&& (3 : Int32))), .val (.int (0 : Int32)), .val (.ref a2), .unset, .unset, .unset, .unset] [(.int ((i0 &&& (65535 : Int64)).toInt32))])) (fun t k => XS.l2i C4.here C4.hx rfl (C4.dec at_146) rfl k) ?_
          refine Endw.st (T' := T4) (g' := (mkF m 149 #[.val (.long i0), .second, .val (.long i1), .second, .val (.int i2), .val (.int i3), .val (.int (i2 &&& (3 : Int32))), .val (.int (0 : Int32)), .val (.ref a2), .unset, .unset, .unset, .unset] [(.int (32768 : Int32)), (.int ((i0 &&& (65535 : Int64)).toInt32))])) (fun t k => own_ldcI C4 (W60 hw) rfl at_147 k) ?_
          refine Endw.st (T' := T4) (g' := (mkF m 150 #[.val (.long i0), .second, .val (.long i1), .second, .val (.int i2), .val (.int i3), .val (.int (i2 &&& (3 : Int32))), .val (.int (0 : Int32)), .val (.ref a2), .unset, .unset, .unset, .unset] [(.int (((i0 &&& (65535 : Int64)).toInt32) - (32768 : Int32)))])) (fun t k => XS.isub C4.here C4.hx rfl (C4.dec at_149) rfl k) ?_
          refine Endw.st (T' := T4) (g' := (mkF m 152 #[.val (.long i0), .second, .val (.long i1), .second, .val (.int i2), .val (.int i3), .val (.int (i2 &&& (3 : Int32))), .val (.int (0 : Int32)), .val (.ref a2), .val (.int (((i0 &&& (65535 : Int64)).toInt32) - (32768 : Int32))), .unset, .unset, .unset] [])) (fun t k => XS.istore C4.here C4.hx rfl (C4.dec at_150) rfl (l' := #[.val (.long i0), .second, .val (.long i1), .second, .val (.int i2), .val (.int i3), .val (.int (i2 &&& (3 : Int32))), .val (.int (0 : Int32)), .val (.ref a2), .val (.int (((i0 &&& (65535 : Int64)).toInt32) - (32768 : Int32))), .unset, .unset, .unset]) rfl k) ?_
          refine C4.new (W0 hw) (W1 hw) (W2 hw) at_152 (pc' := 155) rfl (by decide) (by decide) ?_
          intro T19 h19 a19 C19 K19 A19 ge19 zg19 E19 D19 S19
          show Endw p e below T19 (mkF m 155 #[.val (.long i0), .second, .val (.long i1), .second, .val (.int i2), .val (.int i3), .val (.int (i2 &&& (3 : Int32))), .val (.int (0 : Int32)), .val (.ref a2), .val (.int (((i0 &&& (65535 : Int64)).toInt32) - (32768 : Int32))), .unset, .unset, .unset] [(.ref a19)]) _
          refine Endw.st (T' := T19) (g' := (mkF m 156 #[.val (.long i0), .second, .val (.long i1), .second, .val (.int i2), .val (.int i3), .val (.int (i2 &&& (3 : Int32))), .val (.int (0 : Int32)), .val (.ref a2), .val (.int (((i0 &&& (65535 : Int64)).toInt32) - (32768 : Int32))), .unset, .unset, .unset] [(.ref a19), (.ref a19)])) (fun t k => XS.dup C19.here C19.hx rfl (C19.dec at_155) rfl rfl k) ?_
          refine Endw.st (T' := T19) (g' := (mkF m 158 #[.val (.long i0), .second, .val (.long i1), .second, .val (.int i2), .val (.int i3), .val (.int (i2 &&& (3 : Int32))), .val (.int (0 : Int32)), .val (.ref a2), .val (.int (((i0 &&& (65535 : Int64)).toInt32) - (32768 : Int32))), .unset, .unset, .unset] [(.int (((i0 &&& (65535 : Int64)).toInt32) - (32768 : Int32))), (.ref a19), (.ref a19)])) (fun t k => XS.iload C19.here C19.hx rfl (C19.dec at_156) rfl k) ?_
          refine Endw.st (T' := T19) (g' := (mkF m 159 #[.val (.long i0), .second, .val (.long i1), .second, .val (.int i2), .val (.int i3), .val (.int (i2 &&& (3 : Int32))), .val (.int (0 : Int32)), .val (.ref a2), .val (.int (((i0 &&& (65535 : Int64)).toInt32) - (32768 : Int32))), .unset, .unset, .unset] [(.long ((((i0 &&& (65535 : Int64)).toInt32) - (32768 : Int32)).toInt64)), (.ref a19), (.ref a19)])) (fun t k => XS.i2l C19.here C19.hx rfl (C19.dec at_158) rfl k) ?_
          have f20 : Fld Z h19 a19 "com/example/tessera/tessera/Value$IntegerValue" "value" "J" (.long (0 : Int64)) := D19 (Or.inr (W15 hw)) (ty := .long) (by decide)
          refine C19.special (y := (⟨"com/example/tessera/tessera/Value$IntegerValue", "<init>", "(J)V"⟩ : MethodName)) (W := 1) (a := a19) (argsL := [(.long ((((i0 &&& (65535 : Int64)).toInt32) - (32768 : Int32)).toInt64))]) (rest := [(.ref a19)]) rfl (W3 hw) (W4 hw) (W5 hw) (W2 hw) (by decide) (rm_IV l Z a0 EL G a19 ((((i0 &&& (65535 : Int64)).toInt32) - (32768 : Int32)).toInt64) h19 C19.old E19 f20 zg19) rfl all0 (by decide) (by decide) (by decide) (by decide) (lenOf pd_284a2956 rfl) rfl (Nat.le_of_ble_eq_true rfl) rfl at_159 (pc' := 162) rfl ?_
          intro vm21 T21 h21 v21 C21 A21 q21
          obtain ⟨rfl, K21, E21, F21_0⟩ := q21
          show Endw p e below T21 (mkF m 162 #[.val (.long i0), .second, .val (.long i1), .second, .val (.int i2), .val (.int i3), .val (.int (i2 &&& (3 : Int32))), .val (.int (0 : Int32)), .val (.ref a2), .val (.int (((i0 &&& (65535 : Int64)).toInt32) - (32768 : Int32))), .unset, .unset, .unset] [(.ref a19)]) _
          refine Endw.st (T' := T21) (g' := (mkF m 164 #[.val (.long i0), .second, .val (.long i1), .second, .val (.int i2), .val (.int i3), .val (.int (i2 &&& (3 : Int32))), .val (.int (0 : Int32)), .val (.ref a2), .val (.int (((i0 &&& (65535 : Int64)).toInt32) - (32768 : Int32))), .val (.ref a19), .unset, .unset] [])) (fun t k => XS.astore C21.here C21.hx rfl (C21.dec at_162) rfl rfl (l' := #[.val (.long i0), .second, .val (.long i1), .second, .val (.int i2), .val (.int i3), .val (.int (i2 &&& (3 : Int32))), .val (.int (0 : Int32)), .val (.ref a2), .val (.int (((i0 &&& (65535 : Int64)).toInt32) - (32768 : Int32))), .val (.ref a19), .unset, .unset]) rfl k) ?_
          refine C21.new (W61 hw) (W62 hw) (W63 hw) at_164 (pc' := 167) rfl (by decide) (by decide) ?_
          intro T22 h22 a22 C22 K22 A22 ge22 zg22 E22 D22 S22
          show Endw p e below T22 (mkF m 167 #[.val (.long i0), .second, .val (.long i1), .second, .val (.int i2), .val (.int i3), .val (.int (i2 &&& (3 : Int32))), .val (.int (0 : Int32)), .val (.ref a2), .val (.int (((i0 &&& (65535 : Int64)).toInt32) - (32768 : Int32))), .val (.ref a19), .unset, .unset] [(.ref a22)]) _
          refine Endw.st (T' := T22) (g' := (mkF m 168 #[.val (.long i0), .second, .val (.long i1), .second, .val (.int i2), .val (.int i3), .val (.int (i2 &&& (3 : Int32))), .val (.int (0 : Int32)), .val (.ref a2), .val (.int (((i0 &&& (65535 : Int64)).toInt32) - (32768 : Int32))), .val (.ref a19), .unset, .unset] [(.ref a22), (.ref a22)])) (fun t k => XS.dup C22.here C22.hx rfl (C22.dec at_167) rfl rfl k) ?_
          refine Endw.st (T' := T22) (g' := (mkF m 170 #[.val (.long i0), .second, .val (.long i1), .second, .val (.int i2), .val (.int i3), .val (.int (i2 &&& (3 : Int32))), .val (.int (0 : Int32)), .val (.ref a2), .val (.int (((i0 &&& (65535 : Int64)).toInt32) - (32768 : Int32))), .val (.ref a19), .unset, .unset] [(.int (((i0 &&& (65535 : Int64)).toInt32) - (32768 : Int32))), (.ref a22), (.ref a22)])) (fun t k => XS.iload C22.here C22.hx rfl (C22.dec at_168) rfl k) ?_
          refine Endw.st (T' := T22) (g' := (mkF m 171 #[.val (.long i0), .second, .val (.long i1), .second, .val (.int i2), .val (.int i3), .val (.int (i2 &&& (3 : Int32))), .val (.int (0 : Int32)), .val (.ref a2), .val (.int (((i0 &&& (65535 : Int64)).toInt32) - (32768 : Int32))), .val (.ref a19), .unset, .unset] [(.double (FP.i2d (((i0 &&& (65535 : Int64)).toInt32) - (32768 : Int32)))), (.ref a22), (.ref a22)])) (fun t k => XS.i2dS C22.here C22.hx rfl (C22.dec at_170) rfl rfl k) ?_
          have f23 : Fld Z h22 a22 "com/example/tessera/tessera/Value$FloatValue" "value" "D" (.double 0) := D22 (Or.inr (W69 hw)) (ty := .double) (by decide)
          refine C22.special (y := (⟨"com/example/tessera/tessera/Value$FloatValue", "<init>", "(D)V"⟩ : MethodName)) (W := 1) (a := a22) (argsL := [(.double (FP.i2d (((i0 &&& (65535 : Int64)).toInt32) - (32768 : Int32))))]) (rest := [(.ref a22)]) rfl (W64 hw) (W65 hw) (W66 hw) (W63 hw) (by decide) (rm_FV l Z a0 EL G a22 (FP.i2d (((i0 &&& (65535 : Int64)).toInt32) - (32768 : Int32))) h22 C22.old E22 f23 zg22) rfl all0 (by decide) (by decide) (by decide) (by decide) (lenOf pd_28442956 rfl) rfl (Nat.le_of_ble_eq_true rfl) rfl at_171 (pc' := 174) rfl ?_
          intro vm24 T24 h24 v24 C24 A24 q24
          obtain ⟨rfl, K24, E24, F24_0⟩ := q24
          show Endw p e below T24 (mkF m 174 #[.val (.long i0), .second, .val (.long i1), .second, .val (.int i2), .val (.int i3), .val (.int (i2 &&& (3 : Int32))), .val (.int (0 : Int32)), .val (.ref a2), .val (.int (((i0 &&& (65535 : Int64)).toInt32) - (32768 : Int32))), .val (.ref a19), .unset, .unset] [(.ref a22)]) _
          refine Endw.st (T' := T24) (g' := (mkF m 176 #[.val (.long i0), .second, .val (.long i1), .second, .val (.int i2), .val (.int i3), .val (.int (i2 &&& (3 : Int32))), .val (.int (0 : Int32)), .val (.ref a2), .val (.int (((i0 &&& (65535 : Int64)).toInt32) - (32768 : Int32))), .val (.ref a19), .val (.ref a22), .unset] [])) (fun t k => XS.astore C24.here C24.hx rfl (C24.dec at_174) rfl rfl (l' := #[.val (.long i0), .second, .val (.long i1), .second, .val (.int i2), .val (.int i3), .val (.int (i2 &&& (3 : Int32))), .val (.int (0 : Int32)), .val (.ref a2), .val (.int (((i0 &&& (65535 : Int64)).toInt32) - (32768 : Int32))), .val (.ref a19), .val (.ref a22), .unset]) rfl k) ?_
          refine Endw.st (T' := T24) (g' := (mkF m 178 #[.val (.long i0), .second, .val (.long i1), .second, .val (.int i2), .val (.int i3), .val (.int (i2 &&& (3 : Int32))), .val (.int (0 : Int32)), .val (.ref a2), .val (.int (((i0 &&& (65535 : Int64)).toInt32) - (32768 : Int32))), .val (.ref a19), .val (.ref a22), .unset] [(.ref a19)])) (fun t k => XS.aload C24.here C24.hx rfl (C24.dec at_176) rfl rfl k) ?_
          refine Endw.st (T' := T24) (g' := (mkF m 180 #[.val (.long i0), .second, .val (.long i1), .second, .val (.int i2), .val (.int i3), .val (.int (i2 &&& (3 : Int32))), .val (.int (0 : Int32)), .val (.ref a2), .val (.int (((i0 &&& (65535 : Int64)).toInt32) - (32768 : Int32))), .val (.ref a19), .val (.ref a22), .unset] [(.ref a22), (.ref a19)])) (fun t k => XS.aload C24.here C24.hx rfl (C24.dec at_178) rfl rfl k) ?_
          have f26 := ((E21.keep K22).keep K24)
          refine C24.virtual (y := (⟨"com/example/tessera/tessera/Value$IntegerValue", "equals", "(Ljava/lang/Object;)Z"⟩ : MethodName)) (z := (⟨"com/example/tessera/tessera/Value$IntegerValue", "equals", "(Ljava/lang/Object;)Z"⟩ : MethodName)) (W := 0) (a := a19) (argsL := [(.ref a22)]) (rest := []) (W16 hw) (W17 hw) (fun _ q => notFace_of_selects (args := #[]) (mvT q (W19 hw))) (W19 hw) (W18 hw) (W20 hw) (W2 hw) (by decide) (rm_EqF l Z a0 EL G a19 a22 h24 C24.old E24) rfl f26 all0 (by decide) (by decide) (by decide) (by decide) (lenOf pd_7 rfl) rfl (Nat.le_of_ble_eq_true rfl) rfl at_180 (pc' := 183) rfl ?_
          intro vm25 T25 h25 v25 C25 A25 q25
          obtain ⟨rfl, rfl⟩ := q25
          show Endw p e below T25 (mkF m 183 #[.val (.long i0), .second, .val (.long i1), .second, .val (.int i2), .val (.int i3), .val (.int (i2 &&& (3 : Int32))), .val (.int (0 : Int32)), .val (.ref a2), .val (.int (((i0 &&& (65535 : Int64)).toInt32) - (32768 : Int32))), .val (.ref a19), .val (.ref a22), .unset] [(.int (0 : Int32))]) _
          refine Endw.st (T' := T25) (g' := (mkF m 186 #[.val (.long i0), .second, .val (.long i1), .second, .val (.int i2), .val (.int i3), .val (.int (i2 &&& (3 : Int32))), .val (.int (0 : Int32)), .val (.ref a2), .val (.int (((i0 &&& (65535 : Int64)).toInt32) - (32768 : Int32))), .val (.ref a19), .val (.ref a22), .unset] [])) (fun t k => XS.ifNo C25.here C25.hx rfl (C25.dec at_183) rfl (XT.i0_ne_f (by decide)) k) ?_
          refine Endw.st (T' := T25) (g' := (mkF m 187 #[.val (.long i0), .second, .val (.long i1), .second, .val (.int i2), .val (.int i3), .val (.int (i2 &&& (3 : Int32))), .val (.int (0 : Int32)), .val (.ref a2), .val (.int (((i0 &&& (65535 : Int64)).toInt32) - (32768 : Int32))), .val (.ref a19), .val (.ref a22), .unset] [(.int (1 : Int32))])) (fun t k => XS.iconst C25.here C25.hx rfl (C25.dec at_186) k) ?_
          refine Endw.st (T' := T25) (g' := (mkF m 191 #[.val (.long i0), .second, .val (.long i1), .second, .val (.int i2), .val (.int i3), .val (.int (i2 &&& (3 : Int32))), .val (.int (0 : Int32)), .val (.ref a2), .val (.int (((i0 &&& (65535 : Int64)).toInt32) - (32768 : Int32))), .val (.ref a19), .val (.ref a22), .unset] [(.int (1 : Int32))])) (fun t k => XS.goto C25.here C25.hx rfl (pc0 := 187) rfl (C25.dec at_187) (by decide) rfl k) ?_
          exact C25.retI (t := .boolean) rfl (by simp) rfl at_191 (by decide) (by decide) rfl
        · refine Endw.st (T' := T4) (g' := (mkF m 192 #[.val (.long i0), .second, .val (.long i1), .second, .val (.int i2), .val (.int i3), .val (.int (i2 &&& (3 : Int32))), .val (.int (0 : Int32)), .val (.ref a2), .unset, .unset, .unset, .unset] [])) (fun t k => XS.icmpYes C4.here C4.hx rfl (pc0 := 138) rfl (C4.dec at_138) rfl (XT.ii_ne_t c18) (by decide) rfl k) ?_
          refine C4.new (W23 hw) (W24 hw) (W25 hw) at_192 (pc' := 195) rfl (by decide) (by decide) ?_
          intro T27 h27 a27 C27 K27 A27 ge27 zg27 E27 D27 S27
          show Endw p e below T27 (mkF m 195 #[.val (.long i0), .second, .val (.long i1), .second, .val (.int i2), .val (.int i3), .val (.int (i2 &&& (3 : Int32))), .val (.int (0 : Int32)), .val (.ref a2), .unset, .unset, .unset, .unset] [(.ref a27)]) _
          refine Endw.st (T' := T27) (g' := (mkF m 196 #[.val (.long i0), .second, .val (.long i1), .second, .val (.int i2), .val (.int i3), .val (.int (i2 &&& (3 : Int32))), .val (.int (0 : Int32)), .val (.ref a2), .unset, .unset, .unset, .unset] [(.ref a27), (.ref a27)])) (fun t k => XS.dup C27.here C27.hx rfl (C27.dec at_195) rfl rfl k) ?_
          refine Endw.st (T' := T27) (g' := (mkF m 198 #[.val (.long i0), .second, .val (.long i1), .second, .val (.int i2), .val (.int i3), .val (.int (i2 &&& (3 : Int32))), .val (.int (0 : Int32)), .val (.ref a2), .unset, .unset, .unset, .unset] [(.int i3), (.ref a27), (.ref a27)])) (fun t k => XS.iload C27.here C27.hx rfl (C27.dec at_196) rfl k) ?_
          refine Endw.st (T' := T27) (g' := (mkF m 201 #[.val (.long i0), .second, .val (.long i1), .second, .val (.int i2), .val (.int i3), .val (.int (i2 &&& (3 : Int32))), .val (.int (0 : Int32)), .val (.ref a2), .unset, .unset, .unset, .unset] [(.int (255 : Int32)), (.int i3), (.ref a27), (.ref a27)])) (fun t k => XS.sipush C27.here C27.hx rfl (C27.dec at_198) k) ?_
          refine Endw.st (T' := T27) (g' := (mkF m 202 #[.val (.long i0), .second, .val (.long i1), .second, .val (.int i2), .val (.int i3), .val (.int (i2 &&& (3 : Int32))), .val (.int (0 : Int32)), .val (.ref a2), .unset, .unset, .unset, .unset] [(.int (i3 &&& (255 : Int32))), (.ref a27), (.ref a27)])) (fun t k => XS.iand C27.here C27.hx rfl (C27.dec at_201) rfl k) ?_
          refine Endw.st (T' := T27) (g' := (mkF m 203 #[.val (.long i0), .second, .val (.long i1), .second, .val (.int i2), .val (.int i3), .val (.int (i2 &&& (3 : Int32))), .val (.int (0 : Int32)), .val (.ref a2), .unset, .unset, .unset, .unset] [(.int ((i3 &&& (255 : Int32)).toUInt32.toUInt16.toUInt32.toInt32)), (.ref a27), (.ref a27)])) (fun t k => XS.i2c C27.here C27.hx rfl (C27.dec at_202) rfl k) ?_
          rw [show (i3 &&& (255 : Int32)).toUInt32.toUInt16.toUInt32.toInt32 = (i3 &&& (255 : Int32)) from i2c_mask _]
          refine C27.static (y := (⟨"java/lang/String", "valueOf", "(C)Ljava/lang/String;"⟩ : MethodName)) (W := 2) (argsL := [(.int (i3 &&& (255 : Int32)))]) (rest := [(.ref a27), (.ref a27)]) (W26 hw) (W27 hw) (W29 hw) (W28 hw) (by decide) (rm_valueOfC l Z a0 EL G (i3 &&& (255 : Int32)) (own_mask255 _) h27 C27.old) rfl all0 (by decide) (by decide) (by decide) (by decide) (lenOf pd_1 rfl) rfl (Nat.le_of_ble_eq_true rfl) rfl at_203 (pc' := 206) rfl ?_
          intro vm28 T28 h28 v28 C28 A28 q28
          obtain ⟨a28, t28, kb28, rfl, K28, ge28, gt28, zg28, zt28, Z28⟩ := q28
          show Endw p e below T28 (mkF m 206 #[.val (.long i0), .second, .val (.long i1), .second, .val (.int i2), .val (.int i3), .val (.int (i2 &&& (3 : Int32))), .val (.int (0 : Int32)), .val (.ref a2), .unset, .unset, .unset, .unset] [(.ref a28), (.ref a27), (.ref a27)]) _
          have f29 : Fld Z h27 a27 "com/example/tessera/tessera/Value$SymbolValue" "name" "Ljava/lang/String;" .null := D27 (Or.inr (W55 hw)) (ty := (.object "java/lang/String")) (by decide)
          have f30 := (f29.keep K28 nin0)
          have f31 := (E27.keep K28)
          refine C28.special (y := (⟨"com/example/tessera/tessera/Value$SymbolValue", "<init>", "(Ljava/lang/String;)V"⟩ : MethodName)) (W := 1) (a := a27) (argsL := [(.ref a28)]) (rest := [(.ref a27)]) rfl (W50 hw) (W51 hw) (W52 hw) (W25 hw) (by decide) (rm_SV l Z a0 EL G a27 (.ref a28) rfl h28 C28.old f31 f30 zg27) rfl all0 (by decide) (by decide) (by decide) (by decide) (lenOf pd_8 rfl) rfl (Nat.le_of_ble_eq_true rfl) rfl at_206 (pc' := 209) rfl ?_
          intro vm32 T32 h32 v32 C32 A32 q32
          obtain ⟨rfl, K32, E32, F32_0⟩ := q32
          show Endw p e below T32 (mkF m 209 #[.val (.long i0), .second, .val (.long i1), .second, .val (.int i2), .val (.int i3), .val (.int (i2 &&& (3 : Int32))), .val (.int (0 : Int32)), .val (.ref a2), .unset, .unset, .unset, .unset] [(.ref a27)]) _
          refine Endw.st (T' := T32) (g' := (mkF m 211 #[.val (.long i0), .second, .val (.long i1), .second, .val (.int i2), .val (.int i3), .val (.int (i2 &&& (3 : Int32))), .val (.int (0 : Int32)), .val (.ref a2), .val (.ref a27), .unset, .unset, .unset] [])) (fun t k => XS.astore C32.here C32.hx rfl (C32.dec at_209) rfl rfl (l' := #[.val (.long i0), .second, .val (.long i1), .second, .val (.int i2), .val (.int i3), .val (.int (i2 &&& (3 : Int32))), .val (.int (0 : Int32)), .val (.ref a2), .val (.ref a27), .unset, .unset, .unset]) rfl k) ?_
          refine Endw.st (T' := T32) (g' := (mkF m 213 #[.val (.long i0), .second, .val (.long i1), .second, .val (.int i2), .val (.int i3), .val (.int (i2 &&& (3 : Int32))), .val (.int (0 : Int32)), .val (.ref a2), .val (.ref a27), .unset, .unset, .unset] [(.ref a2)])) (fun t k => XS.aload C32.here C32.hx rfl (C32.dec at_211) rfl rfl k) ?_
          refine Endw.st (T' := T32) (g' := (mkF m 215 #[.val (.long i0), .second, .val (.long i1), .second, .val (.int i2), .val (.int i3), .val (.int (i2 &&& (3 : Int32))), .val (.int (0 : Int32)), .val (.ref a2), .val (.ref a27), .unset, .unset, .unset] [(.ref a27), (.ref a2)])) (fun t k => XS.aload C32.here C32.hx rfl (C32.dec at_213) rfl rfl k) ?_
          have f34 := (((E4.keep K27).keep K28).keep K32)
          refine C32.virtual (y := (⟨"com/example/tessera/tessera/Value$IntegerValue", "equals", "(Ljava/lang/Object;)Z"⟩ : MethodName)) (z := (⟨"com/example/tessera/tessera/Value$IntegerValue", "equals", "(Ljava/lang/Object;)Z"⟩ : MethodName)) (W := 0) (a := a2) (argsL := [(.ref a27)]) (rest := []) (W16 hw) (W17 hw) (fun _ q => notFace_of_selects (args := #[]) (mvT q (W19 hw))) (W19 hw) (W18 hw) (W20 hw) (W2 hw) (by decide) (rm_EqS l Z a0 EL G a2 a27 h32 C32.old E32) rfl f34 all0 (by decide) (by decide) (by decide) (by decide) (lenOf pd_7 rfl) rfl (Nat.le_of_ble_eq_true rfl) rfl at_215 (pc' := 218) rfl ?_
          intro vm33 T33 h33 v33 C33 A33 q33
          obtain ⟨rfl, rfl⟩ := q33
          show Endw p e below T33 (mkF m 218 #[.val (.long i0), .second, .val (.long i1), .second, .val (.int i2), .val (.int i3), .val (.int (i2 &&& (3 : Int32))), .val (.int (0 : Int32)), .val (.ref a2), .val (.ref a27), .unset, .unset, .unset] [(.int (0 : Int32))]) _
          refine Endw.st (T' := T33) (g' := (mkF m 221 #[.val (.long i0), .second, .val (.long i1), .second, .val (.int i2), .val (.int i3), .val (.int (i2 &&& (3 : Int32))), .val (.int (0 : Int32)), .val (.ref a2), .val (.ref a27), .unset, .unset, .unset] [])) (fun t k => XS.ifNo C33.here C33.hx rfl (C33.dec at_218) rfl (XT.i0_ne_f (by decide)) k) ?_
          refine Endw.st (T' := T33) (g' := (mkF m 222 #[.val (.long i0), .second, .val (.long i1), .second, .val (.int i2), .val (.int i3), .val (.int (i2 &&& (3 : Int32))), .val (.int (0 : Int32)), .val (.ref a2), .val (.ref a27), .unset, .unset, .unset] [(.int (1 : Int32))])) (fun t k => XS.iconst C33.here C33.hx rfl (C33.dec at_221) k) ?_
          refine Endw.st (T' := T33) (g' := (mkF m 226 #[.val (.long i0), .second, .val (.long i1), .second, .val (.int i2), .val (.int i3), .val (.int (i2 &&& (3 : Int32))), .val (.int (0 : Int32)), .val (.ref a2), .val (.ref a27), .unset, .unset, .unset] [(.int (1 : Int32))])) (fun t k => XS.goto C33.here C33.hx rfl (pc0 := 222) rfl (C33.dec at_222) (by decide) rfl k) ?_
          exact C33.retI (t := .boolean) rfl (by simp) rfl at_226 (by decide) (by decide) rfl
  · refine Endw.st (T' := T0) (g' := (mkF m 15 #[.val (.long i0), .second, .val (.long i1), .second, .val (.int i2), .val (.int i3), .val (.int (i2 &&& (3 : Int32))), .unset, .unset, .unset, .unset, .unset, .unset] [])) (fun t k => XS.ifNo C0.here C0.hx rfl (C0.dec at_12) rfl (XT.i0_eq_f c1) k) ?_
    refine Endw.st (T' := T0) (g' := (mkF m 16 #[.val (.long i0), .second, .val (.long i1), .second, .val (.int i2), .val (.int i3), .val (.int (i2 &&& (3 : Int32))), .unset, .unset, .unset, .unset, .unset, .unset] [(.int (1 : Int32))])) (fun t k => XS.iconst C0.here C0.hx rfl (C0.dec at_15) k) ?_
    refine Endw.st (T' := T0) (g' := (mkF m 20 #[.val (.long i0), .second, .val (.long i1), .second, .val (.int i2), .val (.int i3), .val (.int (i2 &&& (3 : Int32))), .unset, .unset, .unset, .unset, .unset, .unset] [(.int (1 : Int32))])) (fun t k => XS.goto C0.here C0.hx rfl (pc0 := 16) rfl (C0.dec at_16) (by decide) rfl k) ?_
    refine Endw.st (T' := T0) (g' := (mkF m 22 #[.val (.long i0), .second, .val (.long i1), .second, .val (.int i2), .val (.int i3), .val (.int (i2 &&& (3 : Int32))), .val (.int (1 : Int32)), .unset, .unset, .unset, .unset, .unset] [])) (fun t k => XS.istore C0.here C0.hx rfl (C0.dec at_20) rfl (l' := #[.val (.long i0), .second, .val (.long i1), .second, .val (.int i2), .val (.int i3), .val (.int (i2 &&& (3 : Int32))), .val (.int (1 : Int32)), .unset, .unset, .unset, .unset, .unset]) rfl k) ?_
    refine C0.new (W0 hw) (W1 hw) (W2 hw) at_22 (pc' := 25) rfl (by decide) (by decide) ?_
    intro T35 h35 a35 C35 K35 A35 ge35 zg35 E35 D35 S35
    show Endw p e below T35 (mkF m 25 #[.val (.long i0), .second, .val (.long i1), .second, .val (.int i2), .val (.int i3), .val (.int (i2 &&& (3 : Int32))), .val (.int (1 : Int32)), .unset, .unset, .unset, .unset, .unset] [(.ref a35)]) _
    refine Endw.st (T' := T35) (g' := (mkF m 26 #[.val (.long i0), .second, .val (.long i1), .second, .val (.int i2), .val (.int i3), .val (.int (i2 &&& (3 : Int32))), .val (.int (1 : Int32)), .unset, .unset, .unset, .unset, .unset] [(.ref a35), (.ref a35)])) (fun t k => XS.dup C35.here C35.hx rfl (C35.dec at_25) rfl rfl k) ?_
    refine Endw.st (T' := T35) (g' := (mkF m 27 #[.val (.long i0), .second, .val (.long i1), .second, .val (.int i2), .val (.int i3), .val (.int (i2 &&& (3 : Int32))), .val (.int (1 : Int32)), .unset, .unset, .unset, .unset, .unset] [(.long i0), (.ref a35), (.ref a35)])) (fun t k => XS.lloadN C35.here C35.hx rfl (C35.dec at_26) rfl k) ?_
    have f36 : Fld Z h35 a35 "com/example/tessera/tessera/Value$IntegerValue" "value" "J" (.long (0 : Int64)) := D35 (Or.inr (W15 hw)) (ty := .long) (by decide)
    refine C35.special (y := (⟨"com/example/tessera/tessera/Value$IntegerValue", "<init>", "(J)V"⟩ : MethodName)) (W := 1) (a := a35) (argsL := [(.long i0)]) (rest := [(.ref a35)]) rfl (W3 hw) (W4 hw) (W5 hw) (W2 hw) (by decide) (rm_IV l Z a0 EL G a35 i0 h35 C35.old E35 f36 zg35) rfl all0 (by decide) (by decide) (by decide) (by decide) (lenOf pd_284a2956 rfl) rfl (Nat.le_of_ble_eq_true rfl) rfl at_27 (pc' := 30) rfl ?_
    intro vm37 T37 h37 v37 C37 A37 q37
    obtain ⟨rfl, K37, E37, F37_0⟩ := q37
    show Endw p e below T37 (mkF m 30 #[.val (.long i0), .second, .val (.long i1), .second, .val (.int i2), .val (.int i3), .val (.int (i2 &&& (3 : Int32))), .val (.int (1 : Int32)), .unset, .unset, .unset, .unset, .unset] [(.ref a35)]) _
    refine Endw.st (T' := T37) (g' := (mkF m 32 #[.val (.long i0), .second, .val (.long i1), .second, .val (.int i2), .val (.int i3), .val (.int (i2 &&& (3 : Int32))), .val (.int (1 : Int32)), .val (.ref a35), .unset, .unset, .unset, .unset] [])) (fun t k => XS.astore C37.here C37.hx rfl (C37.dec at_30) rfl rfl (l' := #[.val (.long i0), .second, .val (.long i1), .second, .val (.int i2), .val (.int i3), .val (.int (i2 &&& (3 : Int32))), .val (.int (1 : Int32)), .val (.ref a35), .unset, .unset, .unset, .unset]) rfl k) ?_
    refine Endw.st (T' := T37) (g' := (mkF m 34 #[.val (.long i0), .second, .val (.long i1), .second, .val (.int i2), .val (.int i3), .val (.int (i2 &&& (3 : Int32))), .val (.int (1 : Int32)), .val (.ref a35), .unset, .unset, .unset, .unset] [(.int (i2 &&& (3 : Int32)))])) (fun t k => XS.iload C37.here C37.hx rfl (C37.dec at_32) rfl k) ?_
    by_cases c38 : (i2 &&& (3 : Int32)) = (0 : Int32)
    · refine Endw.st (T' := T37) (g' := (mkF m 37 #[.val (.long i0), .second, .val (.long i1), .second, .val (.int i2), .val (.int i3), .val (.int (i2 &&& (3 : Int32))), .val (.int (1 : Int32)), .val (.ref a35), .unset, .unset, .unset, .unset] [])) (fun t k => XS.ifNo C37.here C37.hx rfl (C37.dec at_34) rfl (XT.i0_ne_f c38) k) ?_
      refine Endw.st (T' := T37) (g' := (mkF m 39 #[.val (.long i0), .second, .val (.long i1), .second, .val (.int i2), .val (.int i3), .val (.int (i2 &&& (3 : Int32))), .val (.int (1 : Int32)), .val (.ref a35), .unset, .unset, .unset, .unset] [(.int (1 : Int32))])) (fun t k => XS.iload C37.here C37.hx rfl (C37.dec at_37) rfl k) ?_
      refine Endw.st (T' := T37) (g' := (mkF m 42 #[.val (.long i0), .second, .val (.long i1), .second, .val (.int i2), .val (.int i3), .val (.int (i2 &&& (3 : Int32))), .val (.int (1 : Int32)), .val (.ref a35), .unset, .unset, .unset, .unset] [])) (fun t k => XS.ifNo C37.here C37.hx rfl (C37.dec at_39) rfl (XT.i0_eq_f (by decide)) k) ?_
      refine Endw.st (T' := T37) (g' := (mkF m 43 #[.val (.long i0), .second, .val (.long i1), .second, .val (.int i2), .val (.int i3), .val (.int (i2 &&& (3 : Int32))), .val (.int (1 : Int32)), .val (.ref a35), .unset, .unset, .unset, .unset] [(.long i0)])) (fun t k => XS.lloadN C37.here C37.hx rfl (C37.dec at_42) rfl k) ?_
      refine Endw.st (T' := T37) (g' := (mkF m 47 #[.val (.long i0), .second, .val (.long i1), .second, .val (.int i2), .val (.int i3), .val (.int (i2 &&& (3 : Int32))), .val (.int (1 : Int32)), .val (.ref a35), .unset, .unset, .unset, .unset] [(.long i0)])) (fun t k => XS.goto C37.here C37.hx rfl (pc0 := 43) rfl (C37.dec at_43) (by decide) rfl k) ?_
      refine Endw.st (T' := T37) (g' := (mkF m 49 #[.val (.long i0), .second, .val (.long i1), .second, .val (.int i2), .val (.int i3), .val (.int (i2 &&& (3 : Int32))), .val (.int (1 : Int32)), .val (.ref a35), .val (.long i0), .second, .unset, .unset] [])) (fun t k => XS.lstore C37.here C37.hx rfl (C37.dec at_47) rfl (l' := #[.val (.long i0), .second, .val (.long i1), .second, .val (.int i2), .val (.int i3), .val (.int (i2 &&& (3 : Int32))), .val (.int (1 : Int32)), .val (.ref a35), .val (.long i0), .second, .unset, .unset]) rfl k) ?_
      refine C37.new (W0 hw) (W1 hw) (W2 hw) at_49 (pc' := 52) rfl (by decide) (by decide) ?_
      intro T39 h39 a39 C39 K39 A39 ge39 zg39 E39 D39 S39
      show Endw p e below T39 (mkF m 52 #[.val (.long i0), .second, .val (.long i1), .second, .val (.int i2), .val (.int i3), .val (.int (i2 &&& (3 : Int32))), .val (.int (1 : Int32)), .val (.ref a35), .val (.long i0), .second, .unset, .unset] [(.ref a39)]) _
      refine Endw.st (T' := T39) (g' := (mkF m 53 #[.val (.long i0), .second, .val (.long i1), .second, .val (.int i2), .val (.int i3), .val (.int (i2 &&& (3 : Int32))), .val (.int (1 : Int32)), .val (.ref a35), .val (.long i0), .second, .unset, .unset] [(.ref a39), (.ref a39)])) (fun t k => XS.dup C39.here C39.hx rfl (C39.dec at_52) rfl rfl k) ?_
      refine Endw.st (T' := T39) (g' := (mkF m 55 #[.val (.long i0), .second, .val (.long i1), .second, .val (.int i2), .val (.int i3), .val (.int (i2 &&& (3 : Int32))), .val (.int (1 : Int32)), .val (.ref a35), .val (.long i0), .second, .unset, .unset] [(.long i0), (.ref a39), (.ref a39)])) (fun t k => XS.lload C39.here C39.hx rfl (C39.dec at_53) rfl k) ?_
      have f40 : Fld Z h39 a39 "com/example/tessera/tessera/Value$IntegerValue" "value" "J" (.long (0 : Int64)) := D39 (Or.inr (W15 hw)) (ty := .long) (by decide)
      refine C39.special (y := (⟨"com/example/tessera/tessera/Value$IntegerValue", "<init>", "(J)V"⟩ : MethodName)) (W := 1) (a := a39) (argsL := [(.long i0)]) (rest := [(.ref a39)]) rfl (W3 hw) (W4 hw) (W5 hw) (W2 hw) (by decide) (rm_IV l Z a0 EL G a39 i0 h39 C39.old E39 f40 zg39) rfl all0 (by decide) (by decide) (by decide) (by decide) (lenOf pd_284a2956 rfl) rfl (Nat.le_of_ble_eq_true rfl) rfl at_55 (pc' := 58) rfl ?_
      intro vm41 T41 h41 v41 C41 A41 q41
      obtain ⟨rfl, K41, E41, F41_0⟩ := q41
      show Endw p e below T41 (mkF m 58 #[.val (.long i0), .second, .val (.long i1), .second, .val (.int i2), .val (.int i3), .val (.int (i2 &&& (3 : Int32))), .val (.int (1 : Int32)), .val (.ref a35), .val (.long i0), .second, .unset, .unset] [(.ref a39)]) _
      refine Endw.st (T' := T41) (g' := (mkF m 60 #[.val (.long i0), .second, .val (.long i1), .second, .val (.int i2), .val (.int i3), .val (.int (i2 &&& (3 : Int32))), .val (.int (1 : Int32)), .val (.ref a35), .val (.long i0), .second, .val (.ref a39), .unset] [])) (fun t k => XS.astore C41.here C41.hx rfl (C41.dec at_58) rfl rfl (l' := #[.val (.long i0), .second, .val (.long i1), .second, .val (.int i2), .val (.int i3), .val (.int (i2 &&& (3 : Int32))), .val (.int (1 : Int32)), .val (.ref a35), .val (.long i0), .second, .val (.ref a39), .unset]) rfl k) ?_
      refine Endw.st (T' := T41) (g' := (mkF m 62 #[.val (.long i0), .second, .val (.long i1), .second, .val (.int i2), .val (.int i3), .val (.int (i2 &&& (3 : Int32))), .val (.int (1 : Int32)), .val (.ref a35), .val (.long i0), .second, .val (.ref a39), .unset] [(.ref a35)])) (fun t k => XS.aload C41.here C41.hx rfl (C41.dec at_60) rfl rfl k) ?_
      refine Endw.st (T' := T41) (g' := (mkF m 64 #[.val (.long i0), .second, .val (.long i1), .second, .val (.int i2), .val (.int i3), .val (.int (i2 &&& (3 : Int32))), .val (.int (1 : Int32)), .val (.ref a35), .val (.long i0), .second, .val (.ref a39), .unset] [(.ref a39), (.ref a35)])) (fun t k => XS.aload C41.here C41.hx rfl (C41.dec at_62) rfl rfl k) ?_
      have f42 := ((F37_0.keep K39 nin0).keep K41 (ninS (Nat.ne_of_lt (Nat.lt_of_lt_of_le (Nat.lt_of_lt_of_le E35.lt K37.1) ge39)) nin0))
      have f44 := ((E37.keep K39).keep K41)
      refine C41.virtual (y := (⟨"com/example/tessera/tessera/Value$IntegerValue", "equals", "(Ljava/lang/Object;)Z"⟩ : MethodName)) (z := (⟨"com/example/tessera/tessera/Value$IntegerValue", "equals", "(Ljava/lang/Object;)Z"⟩ : MethodName)) (W := 0) (a := a35) (argsL := [(.ref a39)]) (rest := []) (W16 hw) (W17 hw) (fun _ q => notFace_of_selects (args := #[]) (mvT q (W19 hw))) (W19 hw) (W18 hw) (W20 hw) (W2 hw) (by decide) (rm_EqI l Z a0 EL G a35 a39 i0 i0 h41 C41.old E41 f42 F41_0) rfl f44 all0 (by decide) (by decide) (by decide) (by decide) (lenOf pd_7 rfl) rfl (Nat.le_of_ble_eq_true rfl) rfl at_64 (pc' := 67) rfl ?_
      intro vm43 T43 h43 v43 C43 A43 q43
      obtain ⟨z43, rfl, q43, rfl⟩ := q43
      obtain rfl : z43 = 1 := q43.elim (fun q => q.2) (fun q => absurd rfl q.1)
      show Endw p e below T43 (mkF m 67 #[.val (.long i0), .second, .val (.long i1), .second, .val (.int i2), .val (.int i3), .val (.int (i2 &&& (3 : Int32))), .val (.int (1 : Int32)), .val (.ref a35), .val (.long i0), .second, .val (.ref a39), .unset] [(.int (1 : Int32))]) _
      refine Endw.st (T' := T43) (g' := (mkF m 69 #[.val (.long i0), .second, .val (.long i1), .second, .val (.int i2), .val (.int i3), .val (.int (i2 &&& (3 : Int32))), .val (.int (1 : Int32)), .val (.ref a35), .val (.long i0), .second, .val (.ref a39), .val (.int (1 : Int32))] [])) (fun t k => XS.istore C43.here C43.hx rfl (C43.dec at_67) rfl (l' := #[.val (.long i0), .second, .val (.long i1), .second, .val (.int i2), .val (.int i3), .val (.int (i2 &&& (3 : Int32))), .val (.int (1 : Int32)), .val (.ref a35), .val (.long i0), .second, .val (.ref a39), .val (.int (1 : Int32))]) rfl k) ?_
      refine Endw.st (T' := T43) (g' := (mkF m 71 #[.val (.long i0), .second, .val (.long i1), .second, .val (.int i2), .val (.int i3), .val (.int (i2 &&& (3 : Int32))), .val (.int (1 : Int32)), .val (.ref a35), .val (.long i0), .second, .val (.ref a39), .val (.int (1 : Int32))] [(.int (1 : Int32))])) (fun t k => XS.iload C43.here C43.hx rfl (C43.dec at_69) rfl k) ?_
      refine Endw.st (T' := T43) (g' := (mkF m 72 #[.val (.long i0), .second, .val (.long i1), .second, .val (.int i2), .val (.int i3), .val (.int (i2 &&& (3 : Int32))), .val (.int (1 : Int32)), .val (.ref a35), .val (.long i0), .second, .val (.ref a39), .val (.int (1 : Int32))] [(.long i0), (.int (1 : Int32))])) (fun t k => XS.lloadN C43.here C43.hx rfl (C43.dec at_71) rfl k) ?_
      refine Endw.st (T' := T43) (g' := (mkF m 74 #[.val (.long i0), .second, .val (.long i1), .second, .val (.int i2), .val (.int i3), .val (.int (i2 &&& (3 : Int32))), .val (.int (1 : Int32)), .val (.ref a35), .val (.long i0), .second, .val (.ref a39), .val (.int (1 : Int32))] [(.long i0), (.long i0), (.int (1 : Int32))])) (fun t k => XS.lload C43.here C43.hx rfl (C43.dec at_72) rfl k) ?_
      refine Endw.st (T' := T43) (g' := (mkF m 75 #[.val (.long i0), .second, .val (.long i1), .second, .val (.int i2), .val (.int i3), .val (.int (i2 &&& (3 : Int32))), .val (.int (1 : Int32)), .val (.ref a35), .val (.long i0), .second, .val (.ref a39), .val (.int (1 : Int32))] [(.int (XT.cmpL i0 i0)), (.int (1 : Int32))])) (fun t k => XS.lcmp C43.here C43.hx rfl (C43.dec at_74) rfl k) ?_
      refine Endw.st (T' := T43) (g' := (mkF m 78 #[.val (.long i0), .second, .val (.long i1), .second, .val (.int i2), .val (.int i3), .val (.int (i2 &&& (3 : Int32))), .val (.int (1 : Int32)), .val (.ref a35), .val (.long i0), .second, .val (.ref a39), .val (.int (1 : Int32))] [(.int (1 : Int32))])) (fun t k => XS.ifNo C43.here C43.hx rfl (C43.dec at_75) rfl (XT.ll_ne_f rfl) k) ?_
      refine Endw.st (T' := T43) (g' := (mkF m 79 #[.val (.long i0), .second, .val (.long i1), .second, .val (.int i2), .val (.int i3), .val (.int (i2 &&& (3 : Int32))), .val (.int (1 : Int32)), .val (.ref a35), .val (.long i0), .second, .val (.ref a39), .val (.int (1 : Int32))] [(.int (1 : Int32)), (.int (1 : Int32))])) (fun t k => XS.iconst C43.here C43.hx rfl (C43.dec at_78) k) ?_
      refine Endw.st (T' := T43) (g' := (mkF m 83 #[.val (.long i0), .second, .val (.long i1), .second, .val (.int i2), .val (.int i3), .val (.int (i2 &&& (3 : Int32))), .val (.int (1 : Int32)), .val (.ref a35), .val (.long i0), .second, .val (.ref a39), .val (.int (1 : Int32))] [(.int (1 : Int32)), (.int (1 : Int32))])) (fun t k => XS.goto C43.here C43.hx rfl (pc0 := 79) rfl (C43.dec at_79) (by decide) rfl k) ?_
      refine Endw.st (T' := T43) (g' := (mkF m 86 #[.val (.long i0), .second, .val (.long i1), .second, .val (.int i2), .val (.int i3), .val (.int (i2 &&& (3 : Int32))), .val (.int (1 : Int32)), .val (.ref a35), .val (.long i0), .second, .val (.ref a39), .val (.int (1 : Int32))] [])) (fun t k => XS.icmpNo C43.here C43.hx rfl (C43.dec at_83) rfl (XT.ii_ne_f (by decide)) k) ?_
      refine Endw.st (T' := T43) (g' := (mkF m 88 #[.val (.long i0), .second, .val (.long i1), .second, .val (.int i2), .val (.int i3), .val (.int (i2 &&& (3 : Int32))), .val (.int (1 : Int32)), .val (.ref a35), .val (.long i0), .second, .val (.ref a39), .val (.int (1 : Int32))] [(.int (1 : Int32))])) (fun t k => XS.iload C43.here C43.hx rfl (C43.dec at_86) rfl k) ?_
      refine Endw.st (T' := T43) (g' := (mkF m 90 #[.val (.long i0), .second, .val (.long i1), .second, .val (.int i2), .val (.int i3), .val (.int (i2 &&& (3 : Int32))), .val (.int (1 : Int32)), .val (.ref a35), .val (.long i0), .second, .val (.ref a39), .val (.int (1 : Int32))] [(.ref a39), (.int (1 : Int32))])) (fun t k => XS.aload C43.here C43.hx rfl (C43.dec at_88) rfl rfl k) ?_
      refine Endw.st (T' := T43) (g' := (mkF m 92 #[.val (.long i0), .second, .val (.long i1), .second, .val (.int i2), .val (.int i3), .val (.int (i2 &&& (3 : Int32))), .val (.int (1 : Int32)), .val (.ref a35), .val (.long i0), .second, .val (.ref a39), .val (.int (1 : Int32))] [(.ref a35), (.ref a39), (.int (1 : Int32))])) (fun t k => XS.aload C43.here C43.hx rfl (C43.dec at_90) rfl rfl k) ?_
      refine C43.virtual (y := (⟨"com/example/tessera/tessera/Value$IntegerValue", "equals", "(Ljava/lang/Object;)Z"⟩ : MethodName)) (z := (⟨"com/example/tessera/tessera/Value$IntegerValue", "equals", "(Ljava/lang/Object;)Z"⟩ : MethodName)) (W := 1) (a := a39) (argsL := [(.ref a35)]) (rest := [(.int (1 : Int32))]) (W16 hw) (W17 hw) (fun _ q => notFace_of_selects (args := #[]) (mvT q (W19 hw))) (W19 hw) (W18 hw) (W20 hw) (W2 hw) (by decide) (rm_EqI l Z a0 EL G a39 a35 i0 i0 h41 C43.old f44 F41_0 f42) rfl E41 all0 (by decide) (by decide) (by decide) (by decide) (lenOf pd_7 rfl) rfl (Nat.le_of_ble_eq_true rfl) rfl at_92 (pc' := 95) rfl ?_
      intro vm45 T45 h45 v45 C45 A45 q45
      obtain ⟨z45, rfl, q45, rfl⟩ := q45
      obtain rfl : z45 = 1 := q45.elim (fun q => q.2) (fun q => absurd rfl.symm q.1)
      show Endw p e below T45 (mkF m 95 #[.val (.long i0), .second, .val (.long i1), .second, .val (.int i2), .val (.int i3), .val (.int (i2 &&& (3 : Int32))), .val (.int (1 : Int32)), .val (.ref a35), .val (.long i0), .second, .val (.ref a39), .val (.int (1 : Int32))] [(.int (1 : Int32)), (.int (1 : Int32))]) _
      refine Endw.st (T' := T45) (g' := (mkF m 98 #[.val (.long i0), .second, .val (.long i1), .second, .val (.int i2), .val (.int i3), .val (.int (i2 &&& (3 : Int32))), .val (.int (1 : Int32)), .val (.ref a35), .val (.long i0), .second, .val (.ref a39), .val (.int (1 : Int32))] [])) (fun t k => XS.icmpNo C45.here C45.hx rfl (C45.dec at_95) rfl (XT.ii_ne_f (by decide)) k) ?_
      refine Endw.st (T' := T45) (g' := (mkF m 100 #[.val (.long i0), .second, .val (.long i1), .second, .val (.int i2), .val (.int i3), .val (.int (i2 &&& (3 : Int32))), .val (.int (1 : Int32)), .val (.ref a35), .val (.long i0), .second, .val (.ref a39), .val (.int (1 : Int32))] [(.ref a35)])) (fun t k => XS.aload C45.here C45.hx rfl (C45.dec at_98) rfl rfl k) ?_
      refine Endw.st (T' := T45) (g' := (mkF m 102 #[.val (.long i0), .second, .val (.long i1), .second, .val (.int i2), .val (.int i3), .val (.int (i2 &&& (3 : Int32))), .val (.int (1 : Int32)), .val (.ref a35), .val (.long i0), .second, .val (.ref a39), .val (.int (1 : Int32))] [(.ref a35), (.ref a35)])) (fun t k => XS.aload C45.here C45.hx rfl (C45.dec at_100) rfl rfl k) ?_
      refine C45.virtual (y := (⟨"com/example/tessera/tessera/Value$IntegerValue", "equals", "(Ljava/lang/Object;)Z"⟩ : MethodName)) (z := (⟨"com/example/tessera/tessera/Value$IntegerValue", "equals", "(Ljava/lang/Object;)Z"⟩ : MethodName)) (W := 0) (a := a35) (argsL := [(.ref a35)]) (rest := []) (W16 hw) (W17 hw) (fun _ q => notFace_of_selects (args := #[]) (mvT q (W19 hw))) (W19 hw) (W18 hw) (W20 hw) (W2 hw) (by decide) (rm_EqI l Z a0 EL G a35 a35 i0 i0 h41 C45.old f44 f42 f42) rfl f44 all0 (by decide) (by decide) (by decide) (by decide) (lenOf pd_7 rfl) rfl (Nat.le_of_ble_eq_true rfl) rfl at_102 (pc' := 105) rfl ?_
      intro vm46 T46 h46 v46 C46 A46 q46
      obtain ⟨z46, rfl, q46, rfl⟩ := q46
      obtain rfl : z46 = 1 := q46.elim (fun q => q.2) (fun q => absurd rfl.symm.symm q.1)
      show Endw p e below T46 (mkF m 105 #[.val (.long i0), .second, .val (.long i1), .second, .val (.int i2), .val (.int i3), .val (.int (i2 &&& (3 : Int32))), .val (.int (1 : Int32)), .val (.ref a35), .val (.long i0), .second, .val (.ref a39), .val (.int (1 : Int32))] [(.int (1 : Int32))]) _
      refine Endw.st (T' := T46) (g' := (mkF m 108 #[.val (.long i0), .second, .val (.long i1), .second, .val (.int i2), .val (.int i3), .val (.int (i2 &&& (3 : Int32))), .val (.int (1 : Int32)), .val (.ref a35), .val (.long i0), .second, .val (.ref a39), .val (.int (1 : Int32))] [])) (fun t k => XS.ifNo C46.here C46.hx rfl (C46.dec at_105) rfl (XT.i0_eq_f (by decide)) k) ?_
      refine Endw.st (T' := T46) (g' := (mkF m 109 #[.val (.long i0), .second, .val (.long i1), .second, .val (.int i2), .val (.int i3), .val (.int (i2 &&& (3 : Int32))), .val (.int (1 : Int32)), .val (.ref a35), .val (.long i0), .second, .val (.ref a39), .val (.int (1 : Int32))] [(.int (1 : Int32))])) (fun t k => XS.iconst C46.here C46.hx rfl (C46.dec at_108) k) ?_
      refine Endw.st (T' := T46) (g' := (mkF m 113 #[.val (.long i0), .second, .val (.long i1), .second, .val (.int i2), .val (.int i3), .val (.int (i2 &&& (3 : Int32))), .val (.int (1 : Int32)), .val (.ref a35), .val (.long i0), .second, .val (.ref a39), .val (.int (1 : Int32))] [(.int (1 : Int32))])) (fun t k => XS.goto C46.here C46.hx rfl (pc0 := 109) rfl (C46.dec at_109) (by decide) rfl k) ?_
      exact C46.retI (t := .boolean) rfl (by simp) rfl at_113 (by decide) (by decide) rfl
    · refine Endw.st (T' := T37) (g' := (mkF m 114 #[.val (.long i0), .second, .val (.long i1), .second, .val (.int i2), .val (.int i3), .val (.int (i2 &&& (3 : Int32))), .val (.int (1 : Int32)), .val (.ref a35), .unset, .unset, .unset, .unset] [])) (fun t k => XS.ifYes C37.here C37.hx rfl (pc0 := 34) rfl (C37.dec at_34) rfl (XT.i0_ne_t c38) (by decide) rfl k) ?_
      refine Endw.st (T' := T37) (g' := (mkF m 116 #[.val (.long i0), .second, .val (.long i1), .second, .val (.int i2), .val (.int i3), .val (.int (i2 &&& (3 : Int32))), .val (.int (1 : Int32)), .val (.ref a35), .unset, .unset, .unset, .unset] [(.int (i2 &&& (3 : Int32)))])) (fun t k => XS.iload C37.here C37.hx rfl (C37.dec at_114) rfl k) ?_
      refine Endw.st (T' := T37) (g' := (mkF m 117 #[.val (.long i0), .second, .val (.long i1), .second, .val (.int i2), .val (.int i3), .val (.int (i2 &&& (3 : Int32))), .val (.int (1 : Int32)), .val (.ref a35), .unset, .unset, .unset, .unset] [(.int (1 : Int32)), (.int (i2 &&& (3 : Int32)))])) (fun t k => XS.iconst C37.here C37.hx rfl (C37.dec at_116) k) ?_
      by_cases c47 : (i2 &&& (3 : Int32)) = (1 : Int32)
      · refine Endw.st (T' := T37) (g' := (mkF m 120 #[.val (.long i0), .second, .val (.long i1), .second, .val (.int i2), .val (.int i3), .val (.int (i2 &&& (3 : Int32))), .val (.int (1 : Int32)), .val (.ref a35), .unset, .unset, .unset, .unset] [])) (fun t k => XS.icmpNo C37.here C37.hx rfl (C37.dec at_117) rfl (XT.ii_ne_f c47) k) ?_
        refine Endw.st (T' := T37) (g' := (mkF m 122 #[.val (.long i0), .second, .val (.long i1), .second, .val (.int i2), .val (.int i3), .val (.int (i2 &&& (3 : Int32))), .val (.int (1 : Int32)), .val (.ref a35), .unset, .unset, .unset, .unset] [(.ref a35)])) (fun t k => XS.aload C37.here C37.hx rfl (C37.dec at_120) rfl rfl k) ?_
        refine Endw.st (T' := T37) (g' := (mkF m 123 #[.val (.long i0), .second, .val (.long i1), .second, .val (.int i2), .val (.int i3), .val (.int (i2 &&& (3 : Int32))), .val (.int (1 : Int32)), .val (.ref a35), .unset, .unset, .unset, .unset] [.null, (.ref a35)])) (fun t k => XS.aconstNull C37.here C37.hx rfl (C37.dec at_122) k) ?_
        refine C37.virtual (y := (⟨"com/example/tessera/tessera/Value$IntegerValue", "equals", "(Ljava/lang/Object;)Z"⟩ : MethodName)) (z := (⟨"com/example/tessera/tessera/Value$IntegerValue", "equals", "(Ljava/lang/Object;)Z"⟩ : MethodName)) (W := 0) (a := a35) (argsL := [.null]) (rest := []) (W16 hw) (W17 hw) (fun _ q => notFace_of_selects (args := #[]) (mvT q (W19 hw))) (W19 hw) (W18 hw) (W20 hw) (W2 hw) (by decide) (rm_EqN l Z a0 EL G a35 h37 C37.old) rfl E37 all0 (by decide) (by decide) (by decide) (by decide) (lenOf pd_7 rfl) rfl (Nat.le_of_ble_eq_true rfl) rfl at_123 (pc' := 126) rfl ?_
        intro vm48 T48 h48 v48 C48 A48 q48
        obtain ⟨rfl, rfl⟩ := q48
        show Endw p e below T48 (mkF m 126 #[.val (.long i0), .second, .val (.long i1), .second, .val (.int i2), .val (.int i3), .val (.int (i2 &&& (3 : Int32))), .val (.int (1 : Int32)), .val (.ref a35), .unset, .unset, .unset, .unset] [(.int (0 : Int32))]) _
        refine Endw.st (T' := T48) (g' := (mkF m 129 #[.val (.long i0), .second, .val (.long i1), .second, .val (.int i2), .val (.int i3), .val (.int (i2 &&& (3 : Int32))), .val (.int (1 : Int32)), .val (.ref a35), .unset, .unset, .unset, .unset] [])) (fun t k => XS.ifNo C48.here C48.hx rfl (C48.dec at_126) rfl (XT.i0_ne_f (by decide)) k) ?_
        refine Endw.st (T' := T48) (g' := (mkF m 130 #[.val (.long i0), .second, .val (.long i1), .second, .val (.int i2), .val (.int i3), .val (.int (i2 &&& (3 : Int32))), .val (.int (1 : Int32)), .val (.ref a35), .unset, .unset, .unset, .unset] [(.int (1 : Int32))])) (fun t k => XS.iconst C48.here C48.hx rfl (C48.dec at_129) k) ?_
        refine Endw.st (T' := T48) (g' := (mkF m 134 #[.val (.long i0), .second, .val (.long i1), .second, .val (.int i2), .val (.int i3), .val (.int (i2 &&& (3 : Int32))), .val (.int (1 : Int32)), .val (.ref a35), .unset, .unset, .unset, .unset] [(.int (1 : Int32))])) (fun t k => XS.goto C48.here C48.hx rfl (pc0 := 130) rfl (C48.dec at_130) (by decide) rfl k) ?_
        exact C48.retI (t := .boolean) rfl (by simp) rfl at_134 (by decide) (by decide) rfl
      · refine Endw.st (T' := T37) (g' := (mkF m 135 #[.val (.long i0), .second, .val (.long i1), .second, .val (.int i2), .val (.int i3), .val (.int (i2 &&& (3 : Int32))), .val (.int (1 : Int32)), .val (.ref a35), .unset, .unset, .unset, .unset] [])) (fun t k => XS.icmpYes C37.here C37.hx rfl (pc0 := 117) rfl (C37.dec at_117) rfl (XT.ii_ne_t c47) (by decide) rfl k) ?_
        refine Endw.st (T' := T37) (g' := (mkF m 137 #[.val (.long i0), .second, .val (.long i1), .second, .val (.int i2), .val (.int i3), .val (.int (i2 &&& (3 : Int32))), .val (.int (1 : Int32)), .val (.ref a35), .unset, .unset, .unset, .unset] [(.int (i2 &&& (3 : Int32)))])) (fun t k => XS.iload C37.here C37.hx rfl (C37.dec at_135) rfl k) ?_
        refine Endw.st (T' := T37) (g' := (mkF m 138 #[.val (.long i0), .second, .val (.long i1), .second, .val (.int i2), .val (.int i3), .val (.int (i2 &&& (3 : Int32))), .val (.int (1 : Int32)), .val (.ref a35), .unset, .unset, .unset, .unset] [(.int (2 : Int32)), (.int (i2 &&& (3 : Int32)))])) (fun t k => XS.iconst C37.here C37.hx rfl (C37.dec at_137) k) ?_
        by_cases c49 : (i2 &&& (3 : Int32)) = (2 : Int32)
        · refine Endw.st (T' := T37) (g' := (mkF m 141 #[.val (.long i0), .second, .val (.long i1), .second, .val (.int i2), .val (.int i3), .val (.int (i2 &&& (3 : Int32))), .val (.int (1 : Int32)), .val (.ref a35), .unset, .unset, .unset, .unset] [])) (fun t k => XS.icmpNo C37.here C37.hx rfl (C37.dec at_138) rfl (XT.ii_ne_f c49) k) ?_
          refine Endw.st (T' := T37) (g' := (mkF m 142 #[.val (.long i0), .second, .val (.long i1), .second, .val (.int i2), .val (.int i3), .val (.int (i2 &&& (3 : Int32))), .val (.int (1 : Int32)), .val (.ref a35), .unset, .unset, .unset, .unset] [(.long i0)])) (fun t k => XS.lloadN C37.here C37.hx rfl (C37.dec at_141) rfl k) ?_
          refine Endw.st (T' := T37) (g' := (mkF m 145 #[.val (.long i0), .second, .val (.long i1), .second, .val (.int i2), .val (.int i3), .val (.int (i2 &&& (3 : Int32))), .val (.int (1 : Int32)), .val (.ref a35), .unset, .unset, .unset, .unset] [(.long (65535 : Int64)), (.long i0)])) (fun t k => own_ldc2J C37 (W59 hw) rfl at_142 k) ?_
          refine Endw.st (T' := T37) (g' := (mkF m 146 #[.val (.long i0), .second, .val (.long i1), .second, .val (.int i2), .val (.int i3), .val (.int (i2 &&& (3 : Int32))), .val (.int (1 : Int32)), .val (.ref a35), .unset, .unset, .unset, .unset] [(.long (i0 &&& (65535 : Int64)))])) (fun t k => XS.land C37.here C37.hx rfl (C37.dec at_145) rfl k) ?_
          refine Endw.st (T' := T37) (g' := (mkF m 147 #[.val (.long i0), .second, .val (.long i1), .second, .val (.int i2), .val (.int i3), .val (.int (i2 &&& (3 : Int32))), .val (.int (1 : Int32)), .val (.ref a35), .unset, .unset, .unset, .unset] [(.int ((i0 &&& (65535 : Int64)).toInt32))])) (fun t k => XS.l2i C37.here C37.hx rfl (C37.dec at_146) rfl k) ?_
          refine Endw.st (T' := T37) (g' := (mkF m 149 #[.val (.long i0), .second, .val (.long i1), .second, .val (.int i2), .val (.int i3), .val (.int (i2 &&& (3 : Int32))), .val (.int (1 : Int32)), .val (.ref a35), .unset, .unset, .unset, .unset] [(.int (32768 : Int32)), (.int ((i0 &&& (65535 : Int64)).toInt32))])) (fun t k => own_ldcI C37 (W60 hw) rfl at_147 k) ?_
          refine Endw.st (T' := T37) (g' := (mkF m 150 #[.val (.long i0), .second, .val (.long i1), .second, .val (.int i2), .val (.int i3), .val (.int (i2 &&& (3 : Int32))), .val (.int (1 : Int32)), .val (.ref a35), .unset, .unset, .unset, .unset] [(.int (((i0 &&& (65535 : Int64)).toInt32) - (32768 : Int32)))])) (fun t k => XS.isub C37.here C37.hx rfl (C37.dec at_149) rfl k) ?_
          refine Endw.st (T' := T37) (g' := (mkF m 152 #[.val (.long i0), .second, .val (.long i1), .second, .val (.int i2), .val (.int i3), .val (.int (i2 &&& (3 : Int32))), .val (.int (1 : Int32)), .val (.ref a35), .val (.int (((i0 &&& (65535 : Int64)).toInt32) - (32768 : Int32))), .unset, .unset, .unset] [])) (fun t k => XS.istore C37.here C37.hx rfl (C37.dec at_150) rfl (l' := #[.val (.long i0), .second, .val (.long i1), .second, .val (.int i2), .val (.int i3), .val (.int (i2 &&& (3 : Int32))), .val (.int (1 : Int32)), .val (.ref a35), .val (.int (((i0 &&& (65535 : Int64)).toInt32) - (32768 : Int32))), .unset, .unset, .unset]) rfl k) ?_
          refine C37.new (W0 hw) (W1 hw) (W2 hw) at_152 (pc' := 155) rfl (by decide) (by decide) ?_
          intro T50 h50 a50 C50 K50 A50 ge50 zg50 E50 D50 S50
          show Endw p e below T50 (mkF m 155 #[.val (.long i0), .second, .val (.long i1), .second, .val (.int i2), .val (.int i3), .val (.int (i2 &&& (3 : Int32))), .val (.int (1 : Int32)), .val (.ref a35), .val (.int (((i0 &&& (65535 : Int64)).toInt32) - (32768 : Int32))), .unset, .unset, .unset] [(.ref a50)]) _
          refine Endw.st (T' := T50) (g' := (mkF m 156 #[.val (.long i0), .second, .val (.long i1), .second, .val (.int i2), .val (.int i3), .val (.int (i2 &&& (3 : Int32))), .val (.int (1 : Int32)), .val (.ref a35), .val (.int (((i0 &&& (65535 : Int64)).toInt32) - (32768 : Int32))), .unset, .unset, .unset] [(.ref a50), (.ref a50)])) (fun t k => XS.dup C50.here C50.hx rfl (C50.dec at_155) rfl rfl k) ?_
          refine Endw.st (T' := T50) (g' := (mkF m 158 #[.val (.long i0), .second, .val (.long i1), .second, .val (.int i2), .val (.int i3), .val (.int (i2 &&& (3 : Int32))), .val (.int (1 : Int32)), .val (.ref a35), .val (.int (((i0 &&& (65535 : Int64)).toInt32) - (32768 : Int32))), .unset, .unset, .unset] [(.int (((i0 &&& (65535 : Int64)).toInt32) - (32768 : Int32))), (.ref a50), (.ref a50)])) (fun t k => XS.iload C50.here C50.hx rfl (C50.dec at_156) rfl k) ?_
          refine Endw.st (T' := T50) (g' := (mkF m 159 #[.val (.long i0), .second, .val (.long i1), .second, .val (.int i2), .val (.int i3), .val (.int (i2 &&& (3 : Int32))), .val (.int (1 : Int32)), .val (.ref a35), .val (.int (((i0 &&& (65535 : Int64)).toInt32) - (32768 : Int32))), .unset, .unset, .unset] [(.long ((((i0 &&& (65535 : Int64)).toInt32) - (32768 : Int32)).toInt64)), (.ref a50), (.ref a50)])) (fun t k => XS.i2l C50.here C50.hx rfl (C50.dec at_158) rfl k) ?_
          have f51 : Fld Z h50 a50 "com/example/tessera/tessera/Value$IntegerValue" "value" "J" (.long (0 : Int64)) := D50 (Or.inr (W15 hw)) (ty := .long) (by decide)
          refine C50.special (y := (⟨"com/example/tessera/tessera/Value$IntegerValue", "<init>", "(J)V"⟩ : MethodName)) (W := 1) (a := a50) (argsL := [(.long ((((i0 &&& (65535 : Int64)).toInt32) - (32768 : Int32)).toInt64))]) (rest := [(.ref a50)]) rfl (W3 hw) (W4 hw) (W5 hw) (W2 hw) (by decide) (rm_IV l Z a0 EL G a50 ((((i0 &&& (65535 : Int64)).toInt32) - (32768 : Int32)).toInt64) h50 C50.old E50 f51 zg50) rfl all0 (by decide) (by decide) (by decide) (by decide) (lenOf pd_284a2956 rfl) rfl (Nat.le_of_ble_eq_true rfl) rfl at_159 (pc' := 162) rfl ?_
          intro vm52 T52 h52 v52 C52 A52 q52
          obtain ⟨rfl, K52, E52, F52_0⟩ := q52
          show Endw p e below T52 (mkF m 162 #[.val (.long i0), .second, .val (.long i1), .second, .val (.int i2), .val (.int i3), .val (.int (i2 &&& (3 : Int32))), .val (.int (1 : Int32)), .val (.ref a35), .val (.int (((i0 &&& (65535 : Int64)).toInt32) - (32768 : Int32))), .unset, .unset, .unset] [(.ref a50)]) _
          refine Endw.st (T' := T52) (g' := (mkF m 164 #[.val (.long i0), .second, .val (.long i1), .second, .val (.int i2), .val (.int i3), .val (.int (i2 &&& (3 : Int32))), .val (.int (1 : Int32)), .val (.ref a35), .val (.int (((i0 &&& (65535 : Int64)).toInt32) - (32768 : Int32))), .val (.ref a50), .unset, .unset] [])) (fun t k => XS.astore C52.here C52.hx rfl (C52.dec at_162) rfl rfl (l' := #[.val (.long i0), .second, .val (.long i1), .second, .val (.int i2), .val (.int i3), .val (.int (i2 &&& (3 : Int32))), .val (.int (1 : Int32)), .val (.ref a35), .val (.int (((i0 &&& (65535 : Int64)).toInt32) - (32768 : Int32))), .val (.ref a50), .unset, .unset]) rfl k) ?_
          refine C52.new (W61 hw) (W62 hw) (W63 hw) at_164 (pc' := 167) rfl (by decide) (by decide) ?_
          intro T53 h53 a53 C53 K53 A53 ge53 zg53 E53 D53 S53
          show Endw p e below T53 (mkF m 167 #[.val (.long i0), .second, .val (.long i1), .second, .val (.int i2), .val (.int i3), .val (.int (i2 &&& (3 : Int32))), .val (.int (1 : Int32)), .val (.ref a35), .val (.int (((i0 &&& (65535 : Int64)).toInt32) - (32768 : Int32))), .val (.ref a50), .unset, .unset] [(.ref a53)]) _
          refine Endw.st (T' := T53) (g' := (mkF m 168 #[.val (.long i0), .second, .val (.long i1), .second, .val (.int i2), .val (.int i3), .val (.int (i2 &&& (3 : Int32))), .val (.int (1 : Int32)), .val (.ref a35), .val (.int (((i0 &&& (65535 : Int64)).toInt32) - (32768 : Int32))), .val (.ref a50), .unset, .unset] [(.ref a53), (.ref a53)])) (fun t k => XS.dup C53.here C53.hx rfl (C53.dec at_167) rfl rfl k) ?_
          refine Endw.st (T' := T53) (g' := (mkF m 170 #[.val (.long i0), .second, .val (.long i1), .second, .val (.int i2), .val (.int i3), .val (.int (i2 &&& (3 : Int32))), .val (.int (1 : Int32)), .val (.ref a35), .val (.int (((i0 &&& (65535 : Int64)).toInt32) - (32768 : Int32))), .val (.ref a50), .unset, .unset] [(.int (((i0 &&& (65535 : Int64)).toInt32) - (32768 : Int32))), (.ref a53), (.ref a53)])) (fun t k => XS.iload C53.here C53.hx rfl (C53.dec at_168) rfl k) ?_
          refine Endw.st (T' := T53) (g' := (mkF m 171 #[.val (.long i0), .second, .val (.long i1), .second, .val (.int i2), .val (.int i3), .val (.int (i2 &&& (3 : Int32))), .val (.int (1 : Int32)), .val (.ref a35), .val (.int (((i0 &&& (65535 : Int64)).toInt32) - (32768 : Int32))), .val (.ref a50), .unset, .unset] [(.double (FP.i2d (((i0 &&& (65535 : Int64)).toInt32) - (32768 : Int32)))), (.ref a53), (.ref a53)])) (fun t k => XS.i2dS C53.here C53.hx rfl (C53.dec at_170) rfl rfl k) ?_
          have f54 : Fld Z h53 a53 "com/example/tessera/tessera/Value$FloatValue" "value" "D" (.double 0) := D53 (Or.inr (W69 hw)) (ty := .double) (by decide)
          refine C53.special (y := (⟨"com/example/tessera/tessera/Value$FloatValue", "<init>", "(D)V"⟩ : MethodName)) (W := 1) (a := a53) (argsL := [(.double (FP.i2d (((i0 &&& (65535 : Int64)).toInt32) - (32768 : Int32))))]) (rest := [(.ref a53)]) rfl (W64 hw) (W65 hw) (W66 hw) (W63 hw) (by decide) (rm_FV l Z a0 EL G a53 (FP.i2d (((i0 &&& (65535 : Int64)).toInt32) - (32768 : Int32))) h53 C53.old E53 f54 zg53) rfl all0 (by decide) (by decide) (by decide) (by decide) (lenOf pd_28442956 rfl) rfl (Nat.le_of_ble_eq_true rfl) rfl at_171 (pc' := 174) rfl ?_
          intro vm55 T55 h55 v55 C55 A55 q55
          obtain ⟨rfl, K55, E55, F55_0⟩ := q55
          show Endw p e below T55 (mkF m 174 #[.val (.long i0), .second, .val (.long i1), .second, .val (.int i2), .val (.int i3), .val (.int (i2 &&& (3 : Int32))), .val (.int (1 : Int32)), .val (.ref a35), .val (.int (((i0 &&& (65535 : Int64)).toInt32) - (32768 : Int32))), .val (.ref a50), .unset, .unset] [(.ref a53)]) _
          refine Endw.st (T' := T55) (g' := (mkF m 176 #[.val (.long i0), .second, .val (.long i1), .second, .val (.int i2), .val (.int i3), .val (.int (i2 &&& (3 : Int32))), .val (.int (1 : Int32)), .val (.ref a35), .val (.int (((i0 &&& (65535 : Int64)).toInt32) - (32768 : Int32))), .val (.ref a50), .val (.ref a53), .unset] [])) (fun t k => XS.astore C55.here C55.hx rfl (C55.dec at_174) rfl rfl (l' := #[.val (.long i0), .second, .val (.long i1), .second, .val (.int i2), .val (.int i3), .val (.int (i2 &&& (3 : Int32))), .val (.int (1 : Int32)), .val (.ref a35), .val (.int (((i0 &&& (65535 : Int64)).toInt32) - (32768 : Int32))), .val (.ref a50), .val (.ref a53), .unset]) rfl k) ?_
          refine Endw.st (T' := T55) (g' := (mkF m 178 #[.val (.long i0), .second, .val (.long i1), .second, .val (.int i2), .val (.int i3), .val (.int (i2 &&& (3 : Int32))), .val (.int (1 : Int32)), .val (.ref a35), .val (.int (((i0 &&& (65535 : Int64)).toInt32) - (32768 : Int32))), .val (.ref a50), .val (.ref a53), .unset] [(.ref a50)])) (fun t k => XS.aload C55.here C55.hx rfl (C55.dec at_176) rfl rfl k) ?_
          refine Endw.st (T' := T55) (g' := (mkF m 180 #[.val (.long i0), .second, .val (.long i1), .second, .val (.int i2), .val (.int i3), .val (.int (i2 &&& (3 : Int32))), .val (.int (1 : Int32)), .val (.ref a35), .val (.int (((i0 &&& (65535 : Int64)).toInt32) - (32768 : Int32))), .val (.ref a50), .val (.ref a53), .unset] [(.ref a53), (.ref a50)])) (fun t k => XS.aload C55.here C55.hx rfl (C55.dec at_178) rfl rfl k) ?_
          have f57 := ((E52.keep K53).keep K55)
          refine C55.virtual (y := (⟨"com/example/tessera/tessera/Value$IntegerValue", "equals", "(Ljava/lang/Object;)Z"⟩ : MethodName)) (z := (⟨"com/example/tessera/tessera/Value$IntegerValue", "equals", "(Ljava/lang/Object;)Z"⟩ : MethodName)) (W := 0) (a := a50) (argsL := [(.ref a53)]) (rest := []) (W16 hw) (W17 hw) (fun _ q => notFace_of_selects (args := #[]) (mvT q (W19 hw))) (W19 hw) (W18 hw) (W20 hw) (W2 hw) (by decide) (rm_EqF l Z a0 EL G a50 a53 h55 C55.old E55) rfl f57 all0 (by decide) (by decide) (by decide) (by decide) (lenOf pd_7 rfl) rfl (Nat.le_of_ble_eq_true rfl) rfl at_180 (pc' := 183) rfl ?_
          intro vm56 T56 h56 v56 C56 A56 q56
          obtain ⟨rfl, rfl⟩ := q56
          show Endw p e below T56 (mkF m 183 #[.val (.long i0), .second, .val (.long i1), .second, .val (.int i2), .val (.int i3), .val (.int (i2 &&& (3 : Int32))), .val (.int (1 : Int32)), .val (.ref a35), .val (.int (((i0 &&& (65535 : Int64)).toInt32) - (32768 : Int32))), .val (.ref a50), .val (.ref a53), .unset] [(.int (0 : Int32))]) _
          refine Endw.st (T' := T56) (g' := (mkF m 186 #[.val (.long i0), .second, .val (.long i1), .second, .val (.int i2), .val (.int i3), .val (.int (i2 &&& (3 : Int32))), .val (.int (1 : Int32)), .val (.ref a35), .val (.int (((i0 &&& (65535 : Int64)).toInt32) - (32768 : Int32))), .val (.ref a50), .val (.ref a53), .unset] [])) (fun t k => XS.ifNo C56.here C56.hx rfl (C56.dec at_183) rfl (XT.i0_ne_f (by decide)) k) ?_
          refine Endw.st (T' := T56) (g' := (mkF m 187 #[.val (.long i0), .second, .val (.long i1), .second, .val (.int i2), .val (.int i3), .val (.int (i2 &&& (3 : Int32))), .val (.int (1 : Int32)), .val (.ref a35), .val (.int (((i0 &&& (65535 : Int64)).toInt32) - (32768 : Int32))), .val (.ref a50), .val (.ref a53), .unset] [(.int (1 : Int32))])) (fun t k => XS.iconst C56.here C56.hx rfl (C56.dec at_186) k) ?_
          refine Endw.st (T' := T56) (g' := (mkF m 191 #[.val (.long i0), .second, .val (.long i1), .second, .val (.int i2), .val (.int i3), .val (.int (i2 &&& (3 : Int32))), .val (.int (1 : Int32)), .val (.ref a35), .val (.int (((i0 &&& (65535 : Int64)).toInt32) - (32768 : Int32))), .val (.ref a50), .val (.ref a53), .unset] [(.int (1 : Int32))])) (fun t k => XS.goto C56.here C56.hx rfl (pc0 := 187) rfl (C56.dec at_187) (by decide) rfl k) ?_
          exact C56.retI (t := .boolean) rfl (by simp) rfl at_191 (by decide) (by decide) rfl
        · refine Endw.st (T' := T37) (g' := (mkF m 192 #[.val (.long i0), .second, .val (.long i1), .second, .val (.int i2), .val (.int i3), .val (.int (i2 &&& (3 : Int32))), .val (.int (1 : Int32)), .val (.ref a35), .unset, .unset, .unset, .unset] [])) (fun t k => XS.icmpYes C37.here C37.hx rfl (pc0 := 138) rfl (C37.dec at_138) rfl (XT.ii_ne_t c49) (by decide) rfl k) ?_
          refine C37.new (W23 hw) (W24 hw) (W25 hw) at_192 (pc' := 195) rfl (by decide) (by decide) ?_
          intro T58 h58 a58 C58 K58 A58 ge58 zg58 E58 D58 S58
          show Endw p e below T58 (mkF m 195 #[.val (.long i0), .second, .val (.long i1), .second, .val (.int i2), .val (.int i3), .val (.int (i2 &&& (3 : Int32))), .val (.int (1 : Int32)), .val (.ref a35), .unset, .unset, .unset, .unset] [(.ref a58)]) _
          refine Endw.st (T' := T58) (g' := (mkF m 196 #[.val (.long i0), .second, .val (.long i1), .second, .val (.int i2), .val (.int i3), .val (.int (i2 &&& (3 : Int32))), .val (.int (1 : Int32)), .val (.ref a35), .unset, .unset, .unset, .unset] [(.ref a58), (.ref a58)])) (fun t k => XS.dup C58.here C58.hx rfl (C58.dec at_195) rfl rfl k) ?_
          refine Endw.st (T' := T58) (g' := (mkF m 198 #[.val (.long i0), .second, .val (.long i1), .second, .val (.int i2), .val (.int i3), .val (.int (i2 &&& (3 : Int32))), .val (.int (1 : Int32)), .val (.ref a35), .unset, .unset, .unset, .unset] [(.int i3), (.ref a58), (.ref a58)])) (fun t k => XS.iload C58.here C58.hx rfl (C58.dec at_196) rfl k) ?_
          refine Endw.st (T' := T58) (g' := (mkF m 201 #[.val (.long i0), .second, .val (.long i1), .second, .val (.int i2), .val (.int i3), .val (.int (i2 &&& (3 : Int32))), .val (.int (1 : Int32)), .val (.ref a35), .unset, .unset, .unset, .unset] [(.int (255 : Int32)), (.int i3), (.ref a58), (.ref a58)])) (fun t k => XS.sipush C58.here C58.hx rfl (C58.dec at_198) k) ?_
          refine Endw.st (T' := T58) (g' := (mkF m 202 #[.val (.long i0), .second, .val (.long i1), .second, .val (.int i2), .val (.int i3), .val (.int (i2 &&& (3 : Int32))), .val (.int (1 : Int32)), .val (.ref a35), .unset, .unset, .unset, .unset] [(.int (i3 &&& (255 : Int32))), (.ref a58), (.ref a58)])) (fun t k => XS.iand C58.here C58.hx rfl (C58.dec at_201) rfl k) ?_
          refine Endw.st (T' := T58) (g' := (mkF m 203 #[.val (.long i0), .second, .val (.long i1), .second, .val (.int i2), .val (.int i3), .val (.int (i2 &&& (3 : Int32))), .val (.int (1 : Int32)), .val (.ref a35), .unset, .unset, .unset, .unset] [(.int ((i3 &&& (255 : Int32)).toUInt32.toUInt16.toUInt32.toInt32)), (.ref a58), (.ref a58)])) (fun t k => XS.i2c C58.here C58.hx rfl (C58.dec at_202) rfl k) ?_
          rw [show (i3 &&& (255 : Int32)).toUInt32.toUInt16.toUInt32.toInt32 = (i3 &&& (255 : Int32)) from i2c_mask _]
          refine C58.static (y := (⟨"java/lang/String", "valueOf", "(C)Ljava/lang/String;"⟩ : MethodName)) (W := 2) (argsL := [(.int (i3 &&& (255 : Int32)))]) (rest := [(.ref a58), (.ref a58)]) (W26 hw) (W27 hw) (W29 hw) (W28 hw) (by decide) (rm_valueOfC l Z a0 EL G (i3 &&& (255 : Int32)) (own_mask255 _) h58 C58.old) rfl all0 (by decide) (by decide) (by decide) (by decide) (lenOf pd_1 rfl) rfl (Nat.le_of_ble_eq_true rfl) rfl at_203 (pc' := 206) rfl ?_
          intro vm59 T59 h59 v59 C59 A59 q59
          obtain ⟨a59, t59, kb59, rfl, K59, ge59, gt59, zg59, zt59, Z59⟩ := q59
          show Endw p e below T59 (mkF m 206 #[.val (.long i0), .second, .val (.long i1), .second, .val (.int i2), .val (.int i3), .val (.int (i2 &&& (3 : Int32))), .val (.int (1 : Int32)), .val (.ref a35), .unset, .unset, .unset, .unset] [(.ref a59), (.ref a58), (.ref a58)]) _
          have f60 : Fld Z h58 a58 "com/example/tessera/tessera/Value$SymbolValue" "name" "Ljava/lang/String;" .null := D58 (Or.inr (W55 hw)) (ty := (.object "java/lang/String")) (by decide)
          have f61 := (f60.keep K59 nin0)
          have f62 := (E58.keep K59)
          refine C59.special (y := (⟨"com/example/tessera/tessera/Value$SymbolValue", "<init>", "(Ljava/lang/String;)V"⟩ : MethodName)) (W := 1) (a := a58) (argsL := [(.ref a59)]) (rest := [(.ref a58)]) rfl (W50 hw) (W51 hw) (W52 hw) (W25 hw) (by decide) (rm_SV l Z a0 EL G a58 (.ref a59) rfl h59 C59.old f62 f61 zg58) rfl all0 (by decide) (by decide) (by decide) (by decide) (lenOf pd_8 rfl) rfl (Nat.le_of_ble_eq_true rfl) rfl at_206 (pc' := 209) rfl ?_
          intro vm63 T63 h63 v63 C63 A63 q63
          obtain ⟨rfl, K63, E63, F63_0⟩ := q63
          show Endw p e below T63 (mkF m 209 #[.val (.long i0), .second, .val (.long i1), .second, .val (.int i2), .val (.int i3), .val (.int (i2 &&& (3 : Int32))), .val (.int (1 : Int32)), .val (.ref a35), .unset, .unset, .unset, .unset] [(.ref a58)]) _
          refine Endw.st (T' := T63) (g' := (mkF m 211 #[.val (.long i0), .second, .val (.long i1), .second, .val (.int i2), .val (.int i3), .val (.int (i2 &&& (3 : Int32))), .val (.int (1 : Int32)), .val (.ref a35), .val (.ref a58), .unset, .unset, .unset] [])) (fun t k => XS.astore C63.here C63.hx rfl (C63.dec at_209) rfl rfl (l' := #[.val (.long i0), .second, .val (.long i1), .second, .val (.int i2), .val (.int i3), .val (.int (i2 &&& (3 : Int32))), .val (.int (1 : Int32)), .val (.ref a35), .val (.ref a58), .unset, .unset, .unset]) rfl k) ?_
          refine Endw.st (T' := T63) (g' := (mkF m 213 #[.val (.long i0), .second, .val (.long i1), .second, .val (.int i2), .val (.int i3), .val (.int (i2 &&& (3 : Int32))), .val (.int (1 : Int32)), .val (.ref a35), .val (.ref a58), .unset, .unset, .unset] [(.ref a35)])) (fun t k => XS.aload C63.here C63.hx rfl (C63.dec at_211) rfl rfl k) ?_
          refine Endw.st (T' := T63) (g' := (mkF m 215 #[.val (.long i0), .second, .val (.long i1), .second, .val (.int i2), .val (.int i3), .val (.int (i2 &&& (3 : Int32))), .val (.int (1 : Int32)), .val (.ref a35), .val (.ref a58), .unset, .unset, .unset] [(.ref a58), (.ref a35)])) (fun t k => XS.aload C63.here C63.hx rfl (C63.dec at_213) rfl rfl k) ?_
          have f65 := (((E37.keep K58).keep K59).keep K63)
          refine C63.virtual (y := (⟨"com/example/tessera/tessera/Value$IntegerValue", "equals", "(Ljava/lang/Object;)Z"⟩ : MethodName)) (z := (⟨"com/example/tessera/tessera/Value$IntegerValue", "equals", "(Ljava/lang/Object;)Z"⟩ : MethodName)) (W := 0) (a := a35) (argsL := [(.ref a58)]) (rest := []) (W16 hw) (W17 hw) (fun _ q => notFace_of_selects (args := #[]) (mvT q (W19 hw))) (W19 hw) (W18 hw) (W20 hw) (W2 hw) (by decide) (rm_EqS l Z a0 EL G a35 a58 h63 C63.old E63) rfl f65 all0 (by decide) (by decide) (by decide) (by decide) (lenOf pd_7 rfl) rfl (Nat.le_of_ble_eq_true rfl) rfl at_215 (pc' := 218) rfl ?_
          intro vm64 T64 h64 v64 C64 A64 q64
          obtain ⟨rfl, rfl⟩ := q64
          show Endw p e below T64 (mkF m 218 #[.val (.long i0), .second, .val (.long i1), .second, .val (.int i2), .val (.int i3), .val (.int (i2 &&& (3 : Int32))), .val (.int (1 : Int32)), .val (.ref a35), .val (.ref a58), .unset, .unset, .unset] [(.int (0 : Int32))]) _
          refine Endw.st (T' := T64) (g' := (mkF m 221 #[.val (.long i0), .second, .val (.long i1), .second, .val (.int i2), .val (.int i3), .val (.int (i2 &&& (3 : Int32))), .val (.int (1 : Int32)), .val (.ref a35), .val (.ref a58), .unset, .unset, .unset] [])) (fun t k => XS.ifNo C64.here C64.hx rfl (C64.dec at_218) rfl (XT.i0_ne_f (by decide)) k) ?_
          refine Endw.st (T' := T64) (g' := (mkF m 222 #[.val (.long i0), .second, .val (.long i1), .second, .val (.int i2), .val (.int i3), .val (.int (i2 &&& (3 : Int32))), .val (.int (1 : Int32)), .val (.ref a35), .val (.ref a58), .unset, .unset, .unset] [(.int (1 : Int32))])) (fun t k => XS.iconst C64.here C64.hx rfl (C64.dec at_221) k) ?_
          refine Endw.st (T' := T64) (g' := (mkF m 226 #[.val (.long i0), .second, .val (.long i1), .second, .val (.int i2), .val (.int i3), .val (.int (i2 &&& (3 : Int32))), .val (.int (1 : Int32)), .val (.ref a35), .val (.ref a58), .unset, .unset, .unset] [(.int (1 : Int32))])) (fun t k => XS.goto C64.here C64.hx rfl (pc0 := 222) rfl (C64.dec at_222) (by decide) rfl k) ?_
          exact C64.retI (t := .boolean) rfl (by simp) rfl at_226 (by decide) (by decide) rfl
set_option maxRecDepth 65536 in
set_option maxHeartbeats 40000000 in
theorem comes_1 {Post : Tables → Env → Array Value → State → Outcome → State → Prop} (hpost : ∀ tb e args s v u, (limb_1_1.after args s (.returned v) u = true ∧ limb_1_2.after args s (.returned v) u = true ∧ True) → FrameEnd s (.returned v) u (Jvm.fieldLocs frame_1_writes args s ++ Jvm.arrayLocs frame_1_arrays args s ++ Jvm.staticLocs frame_1_statics s) 16 128 → Post tb e args s (.returned v) u) :
    ArmFor flags0 classFile x code maxLocals ret World_1 tables_1 room_1 Calls_1 rest_1 Pre_1 Post := by
  intro l hfl _ _ p e ha hc hk s m args below hf hA hF happ hP
  obtain ⟨hcalls, hrest, hpre⟩ := hP
  obtain ⟨-, -, -, hnamed, -, -, -, hat⟩ := (Spec.applies_iff hf).mp happ
  obtain ⟨hg, hn⟩ := and_e (Cond.before_iff.mp (show (Jvm.Cond.and given_1 narrow_1).before args s = true from hpre))
  obtain ⟨h1, g0⟩ := and_e hg
  obtain ⟨a0, g1⟩ := and_e g0
  obtain ⟨a1, g2⟩ := and_e g1
  obtain ⟨a2, g3⟩ := and_e g2
  have a3 := g3
  obtain ⟨w0, w1, w2, w3, rfl⟩ : ∃ w0 w1 w2 w3 : Value, args = #[w0, w1, w2, w3] := by
    have hs : args.size = 4 := by simpa [Cond.value, given_1] using h1
    obtain ⟨L⟩ := args
    match L, hs with
    | [w0, w1, w2, w3], _ => exact ⟨w0, w1, w2, w3, rfl⟩
  have hw := fun d (hd : d ∈ tables_1) => atoms_spec (ws := Jvm.Cond.code x code maxLocals ret :: tables_1) hat d (List.mem_cons_of_mem _ hd)
  obtain ⟨hsets, hown0⟩ := atoms_of _ (rest_1_c_eq ▸ (show rest_1_c.before _ s = true from hrest))
  obtain ⟨i0, e0⟩ := isL_v a0
  obtain rfl : w0 = (.long i0) := Option.some.inj e0
  obtain ⟨i1, e1⟩ := isL_v a1
  obtain rfl : w1 = (.long i1) := Option.some.inj e1
  obtain ⟨i2, e2⟩ := is_v a2
  obtain rfl : w2 = (.int i2) := Option.some.inj e2
  obtain ⟨i3, e3⟩ := is_v a3
  obtain rfl : w3 = (.int i3) := Option.some.inj e3
  have n5 := not_v (Cond.before_iff.mp (hsets _ (List.mem_of_getElem? (i := 2) rfl)))
  obtain ⟨zc, ec⟩ := is_v (Cond.before_iff.mp (hsets _ (List.mem_of_getElem? (i := 1) rfl)))
  have Sc : Sta s s.heap "java/lang/String" "COMPACT_STRINGS" "Z" (.int zc) := Sta.start ec (Or.inl (hsets _ (List.mem_of_getElem? (i := 0) rfl)))
  have hzc : ¬ (zc = (0 : Int32)) := gotF (Cond.eq_ints ec (Term.int_eval (0))) n5
  obtain ⟨vf, ef, rf⟩ := isR_v (Cond.before_iff.mp (hsets _ (List.mem_of_getElem? (i := 8) rfl)))
  have Sf : Sta s s.heap "jdk/internal/util/Preconditions" "SIOOBE_FORMATTER" "Ljava/util/function/BiFunction;" vf := Sta.start ef (Or.inl (hsets _ (List.mem_of_getElem? (i := 7) rfl)))
  have hEW : EW s #[(.long i0), (.long i1), (.int i2), (.int i3)] [] := EW.nil
  have hG : Glob s #[(.long i0), (.long i1), (.int i2), (.int i3)] [] := ⟨hw, hEW, rfl, ⟨zc, Sc, hzc⟩, ⟨vf, Sf, rf⟩⟩
  have hCH : CHv s [] s.vm s.heap := fun p hp => by cases hp
  obtain ⟨n, o, h1, h2, h3, v, L, rfl, ⟨rfl, N, -⟩, ⟨-, hwm⟩, hq⟩ := rm_law l s _ [] hG i0 i1 i2 i3 s.heap ⟨Nat.le_refl _, fun _ _ q => q⟩ p e ha hc hk s m _ below hf ((Spec.applies_iff_loose hf).mp happ).1 ⟨rfl, State.Warmed39.refl s, rfl, hCH, all0⟩ trivial
  refine ⟨n, _, h1, h2, h3, hpost _ _ _ _ _ _ ⟨Cond.after_iff.mpr rfl, Cond.after_iff.mpr (eq_i res_at (Term.int_eval (1)) rfl), trivial⟩ ⟨hq.1, hwm rfl, (hq.2.2.2.sift fun y hy => Or.inr (N y hy)).mono (by decide) (by decide)⟩⟩
theorem main_1_1 : Claimed_1_1 := comes_1 fun _ _ _ _ _ _ h hF => ⟨h.1, hF⟩
theorem main_1_2 : Claimed_1_2 := comes_1 fun _ _ _ _ _ _ h hF => ⟨h.2.1, hF⟩
end Jvm.Pilot.@@N@@
namespace Jvm.Pilot.@@N@@
open Jvm Jvm.ClassFile Sem Op Lib Jvm.Free Jvm.Stand Jvm.Pilot.@@N@@.Jvm.D
/-! MADE BY PROGRAM (witnessworld.py) out of the Statement's table words and the real class files: 22 classes; the members and pool entries that the words name. The judged class is class 1, her method 1. -/
namespace start1
open Jvm.ClassFile
def u (s : String) : CpInfo := .utf8 (stringToUtf16 s)
/-- a pool by its gaps: so many unusable entries, then the entry; so many at the end -/
def gap : Nat → List CpInfo → List CpInfo
  | 0, r => r
  | n + 1, r => .unusable :: gap n r
def poolList (es : List (Nat × CpInfo)) (last : Nat) : List CpInfo := es.foldr (fun e r => gap e.1 (e.2 :: r)) (gap last [])
def pool (es : List (Nat × CpInfo)) (last : Nat) : Array CpInfo := ⟨poolList es last⟩
def fileOf (pool : Array CpInfo) (this : Nat) (attrs : Array Attribute := #[]) (ms : Array MethodInfo := #[]) (fl : Nat := 33) (sup : Nat := 0) (ifs : Array Nat := #[]) (fds : Array FieldInfo := #[]) : ClassFile where
  minorVersion := 0
  majorVersion := 65
  constantPool := pool
  accessFlags := fl
  thisClass := this
  superClass := sup
  interfaces := ifs
  fields := fds
  methods := ms
  attributes := attrs
def plain (name : String) (sup : Option ClassId) : Class where
  name := name
  kind := .ordinary
  loader := none
  accessFlags := 33
  super := sup
  interfaces := #[]
  cf := none
  fields := #[]
  methods := #[]
  instanceTypes := #[]
  staticTypes := #[]
  resolved := #[]
  callSites := []
  init := .initialized
  statics := none
  mirror := none

def pool0 : Array CpInfo := pool [(5, u "<init>"), (0, u "()V"), (1, .class_ 10), (1, u "java/lang/Object")] 113

def k0c0 : Code := { maxStack := 0, maxLocals := 1, code := object_method_1_code, exceptionTable := #[], attributes := #[] }
def k0m0 : Method := { name := "<init>", desc := "()V", sig := { parameters := [], returnType := none }, accessFlags := 1, code := some k0c0 }
/-- java/lang/Object -/
def k0 : Class := { plain "java/lang/Object" none with
  accessFlags := 33
  interfaces := #[]
  cf := some (fileOf pool0 8 #[] #[{ accessFlags := 1, nameIndex := 5, descriptorIndex := 6, attributes := #[] }] 33 0 #[] #[])
  fields := #[]
  methods := #[k0m0]
  instanceTypes := #[]
  staticTypes := #[]
  resolved := Array.replicate 124 none
  statics := none }

def pool1 : Array CpInfo := pool [(2, .class_ 4), (1, u "java/lang/Object"), (0, u "<init>"), (0, u "()V"), (0, .class_ 8), (0, u "com/example/tessera/tessera/Value$IntegerValue"), (0, .methodref 7 10), (0, .nameAndType 5 11), (0, u "(J)V"), (0, .methodref 7 13), (0, .nameAndType 14 15), (0, u "equals"), (0, u "(Ljava/lang/Object;)Z"), (0, .long 65535), (1, .integer 32768), (0, .class_ 20), (0, u "com/example/tessera/tessera/Value$FloatValue"), (0, .methodref 19 22), (0, .nameAndType 5 23), (0, u "(D)V"), (0, .class_ 25), (0, u "com/example/tessera/tessera/Value$SymbolValue"), (0, .methodref 27 28), (0, .class_ 29), (0, .nameAndType 30 31), (0, u "java/lang/String"), (0, u "valueOf"), (0, u "(C)Ljava/lang/String;"), (0, .methodref 24 33), (0, .nameAndType 5 34), (0, u "(Ljava/lang/String;)V"), (0, .class_ 36), (0, u "com/example/tessera/tessera/IntegerValueEqualsPinLaw"), (2, u "law"), (0, u "(JJII)Z")] 9

def k1m0 : Method := { name := "<init>", desc := "()V", sig := { parameters := [], returnType := none }, accessFlags := 1, code := none }
def k1c1 : Code := { maxStack := 5, maxLocals := 13, code := code, exceptionTable := #[], attributes := #[] }
def k1m1 : Method := { name := "law", desc := "(JJII)Z", sig := { parameters := [.long, .long, .int, .int], returnType := some .boolean }, accessFlags := 9, code := some k1c1 }
/-- com/example/tessera/tessera/IntegerValueEqualsPinLaw -/
def k1 : Class := { plain "com/example/tessera/tessera/IntegerValueEqualsPinLaw" (some 0) with
  accessFlags := 49
  interfaces := #[]
  cf := some (fileOf pool1 35 #[] #[{ accessFlags := 1, nameIndex := 5, descriptorIndex := 6, attributes := #[] }, { accessFlags := 9, nameIndex := 39, descriptorIndex := 40, attributes := #[] }] 49 2 #[] #[])
  fields := #[]
  methods := #[k1m0, k1m1]
  instanceTypes := #[]
  staticTypes := #[]
  resolved := Array.replicate 50 none
  statics := none }

def pool2 : Array CpInfo := pool [(1, .methodref 2 3), (0, .class_ 4), (0, .nameAndType 5 6), (0, u "java/lang/Object"), (0, u "<init>"), (0, u "()V"), (0, .class_ 8), (0, u "java/lang/Record")] 13

def k2c0 : Code := { maxStack := 1, maxLocals := 1, code := jdk_30_method_1_code, exceptionTable := #[], attributes := #[] }
def k2m0 : Method := { name := "<init>", desc := "()V", sig := { parameters := [], returnType := none }, accessFlags := 4, code := some k2c0 }
/-- java/lang/Record -/
def k2 : Class := { plain "java/lang/Record" (some 0) with
  accessFlags := 1057
  interfaces := #[]
  cf := some (fileOf pool2 7 #[] #[{ accessFlags := 4, nameIndex := 5, descriptorIndex := 6, attributes := #[] }] 1057 2 #[] #[])
  fields := #[]
  methods := #[k2m0]
  instanceTypes := #[]
  staticTypes := #[]
  resolved := Array.replicate 22 none
  statics := none }

def pool3 : Array CpInfo := pool [(2, .class_ 4), (1, u "com/example/tessera/tessera/Value"), (3, .class_ 10), (1, u "com/example/tessera/tessera/Value$SymbolValue"), (6, .class_ 18), (0, u "java/lang/Object"), (9, .class_ 29), (0, u "com/example/tessera/tessera/Value$FloatValue"), (0, .class_ 31), (0, u "com/example/tessera/tessera/Value$IntegerValue"), (0, .class_ 33), (0, u "com/example/tessera/tessera/Value$NumberValue"), (0, .class_ 35), (0, u "com/example/tessera/tessera/Value$FactAddressValue"), (0, .class_ 37), (0, u "com/example/tessera/tessera/Value$MultifieldValue"), (0, .class_ 39), (0, u "com/example/tessera/tessera/Value$StringValue")] 9

/-- com/example/tessera/tessera/Value -/
def k3 : Class := { plain "com/example/tessera/tessera/Value" (some 0) with
  accessFlags := 1536
  interfaces := #[]
  cf := some (fileOf pool3 2 #[.nestMembers #[28, 30, 32, 34, 36, 38, 8]] #[] 1536 17 #[] #[])
  fields := #[]
  methods := #[]
  instanceTypes := #[]
  staticTypes := #[]
  resolved := Array.replicate 49 none
  statics := none }

def pool4 : Array CpInfo := pool [(1, .class_ 2), (0, u "com/example/tessera/tessera/Value$NumberValue"), (0, .class_ 4), (0, u "java/lang/Object"), (0, .class_ 6), (0, u "com/example/tessera/tessera/Value")] 16

/-- com/example/tessera/tessera/Value$NumberValue -/
def k4 : Class := { plain "com/example/tessera/tessera/Value$NumberValue" (some 0) with
  accessFlags := 1537
  interfaces := #[3]
  cf := some (fileOf pool4 1 #[.nestHost 5] #[] 1537 3 #[5] #[])
  fields := #[]
  methods := #[]
  instanceTypes := #[]
  staticTypes := #[]
  resolved := Array.replicate 23 none
  statics := none }

def pool5 : Array CpInfo := pool [(1, .methodref 2 3), (0, .class_ 4), (0, .nameAndType 5 6), (0, u "java/lang/Record"), (0, u "<init>"), (0, u "()V"), (0, .fieldref 8 9), (0, .class_ 10), (0, .nameAndType 11 12), (0, u "com/example/tessera/tessera/Value$IntegerValue"), (0, u "value"), (0, u "J"), (13, .class_ 27), (0, u "com/example/tessera/tessera/Value$NumberValue"), (0, u "(J)V"), (9, u "equals"), (0, u "(Ljava/lang/Object;)Z"), (5, .class_ 46), (0, u "com/example/tessera/tessera/Value")] 19

def k5c0 : Code := { maxStack := 3, maxLocals := 3, code := prog_117_method_1_code, exceptionTable := #[], attributes := #[] }
def k5m0 : Method := { name := "<init>", desc := "(J)V", sig := { parameters := [.long], returnType := none }, accessFlags := 1, code := some k5c0 }
def k5c1 : Code := { maxStack := 4, maxLocals := 3, code := prog_117_method_5_code, exceptionTable := #[], attributes := #[] }
def k5m1 : Method := { name := "equals", desc := "(Ljava/lang/Object;)Z", sig := { parameters := [(.object "java/lang/Object")], returnType := some .boolean }, accessFlags := 1, code := some k5c1 }
/-- com/example/tessera/tessera/Value$IntegerValue -/
def k5 : Class := { plain "com/example/tessera/tessera/Value$IntegerValue" (some 2) with
  accessFlags := 49
  interfaces := #[4]
  cf := some (fileOf pool5 8 #[.nestHost 45] #[{ accessFlags := 1, nameIndex := 5, descriptorIndex := 28, attributes := #[] }, { accessFlags := 1, nameIndex := 38, descriptorIndex := 39, attributes := #[] }] 49 2 #[26] #[{ accessFlags := 18, nameIndex := 11, descriptorIndex := 12, attributes := #[] }])
  fields := #[{ name := "value", type := .long, accessFlags := 18, slot := 0, constantValue := 0 }]
  methods := #[k5m0, k5m1]
  instanceTypes := #[.long]
  staticTypes := #[]
  resolved := Array.replicate 66 none
  statics := none }

def pool6 : Array CpInfo := pool [(1, .methodref 2 3), (0, .class_ 4), (0, .nameAndType 5 6), (0, u "java/lang/Record"), (0, u "<init>"), (0, u "()V"), (0, .fieldref 8 9), (0, .class_ 10), (0, .nameAndType 11 12), (0, u "com/example/tessera/tessera/Value$SymbolValue"), (0, u "name"), (0, u "Ljava/lang/String;"), (2, u "TRUE"), (0, u "Lcom/example/tessera/tessera/Value$SymbolValue;"), (2, u "FALSE"), (17, u "(Ljava/lang/String;)V"), (2, u "EOF"), (2, .class_ 44), (0, u "com/example/tessera/tessera/Value")] 30

def k6c0 : Code := { maxStack := 2, maxLocals := 2, code := prog_121_method_1_code, exceptionTable := #[], attributes := #[] }
def k6m0 : Method := { name := "<init>", desc := "(Ljava/lang/String;)V", sig := { parameters := [(.object "java/lang/String")], returnType := none }, accessFlags := 1, code := some k6c0 }
/-- com/example/tessera/tessera/Value$SymbolValue -/
def k6 : Class := { plain "com/example/tessera/tessera/Value$SymbolValue" (some 2) with
  accessFlags := 49
  interfaces := #[3]
  cf := some (fileOf pool6 8 #[.nestHost 43] #[{ accessFlags := 1, nameIndex := 5, descriptorIndex := 37, attributes := #[] }] 49 2 #[43] #[{ accessFlags := 18, nameIndex := 11, descriptorIndex := 12, attributes := #[] }, { accessFlags := 24, nameIndex := 19, descriptorIndex := 16, attributes := #[] }, { accessFlags := 24, nameIndex := 15, descriptorIndex := 16, attributes := #[] }, { accessFlags := 24, nameIndex := 40, descriptorIndex := 16, attributes := #[] }])
  fields := #[{ name := "name", type := (.object "java/lang/String"), accessFlags := 18, slot := 0, constantValue := 0 }, { name := "FALSE", type := (.object "com/example/tessera/tessera/Value$SymbolValue"), accessFlags := 24, slot := 0, constantValue := 0 }, { name := "TRUE", type := (.object "com/example/tessera/tessera/Value$SymbolValue"), accessFlags := 24, slot := 1, constantValue := 0 }, { name := "EOF", type := (.object "com/example/tessera/tessera/Value$SymbolValue"), accessFlags := 24, slot := 2, constantValue := 0 }]
  methods := #[k6m0]
  instanceTypes := #[(.object "java/lang/String")]
  staticTypes := #[(.object "com/example/tessera/tessera/Value$SymbolValue"), (.object "com/example/tessera/tessera/Value$SymbolValue"), (.object "com/example/tessera/tessera/Value$SymbolValue")]
  resolved := Array.replicate 75 none
  statics := none }

def pool7 : Array CpInfo := pool [(1, .class_ 2), (0, u "java/io/Serializable"), (0, .class_ 4), (0, u "java/lang/Object")] 2

/-- java/io/Serializable -/
def k7 : Class := { plain "java/io/Serializable" (some 0) with
  accessFlags := 1537
  interfaces := #[]
  cf := some (fileOf pool7 1 #[] #[] 1537 3 #[] #[])
  fields := #[]
  methods := #[]
  instanceTypes := #[]
  staticTypes := #[]
  resolved := Array.replicate 7 none
  statics := none }

def pool8 : Array CpInfo := pool [(1, .class_ 2), (0, u "java/lang/Comparable"), (0, .class_ 4), (0, u "java/lang/Object")] 7

/-- java/lang/Comparable -/
def k8 : Class := { plain "java/lang/Comparable" (some 0) with
  accessFlags := 1537
  interfaces := #[]
  cf := some (fileOf pool8 1 #[] #[] 1537 3 #[] #[])
  fields := #[]
  methods := #[]
  instanceTypes := #[]
  staticTypes := #[]
  resolved := Array.replicate 12 none
  statics := none }

def pool9 : Array CpInfo := pool [(2, .class_ 4), (1, u "java/lang/CharSequence"), (42, .class_ 48), (0, u "java/lang/CharSequence$1CodePointIterator"), (10, .class_ 60), (0, u "java/lang/CharSequence$1CharIterator"), (5, .class_ 67), (0, u "java/lang/Object")] 63

/-- java/lang/CharSequence -/
def k9 : Class := { plain "java/lang/CharSequence" (some 0) with
  accessFlags := 1537
  interfaces := #[]
  cf := some (fileOf pool9 2 #[.nestMembers #[47, 59]] #[] 1537 66 #[] #[])
  fields := #[]
  methods := #[]
  instanceTypes := #[]
  staticTypes := #[]
  resolved := Array.replicate 131 none
  statics := none }

def pool10 : Array CpInfo := pool [(1, .class_ 2), (0, u "java/lang/constant/Constable"), (0, .class_ 4), (0, u "java/lang/Object")] 6

/-- java/lang/constant/Constable -/
def k10 : Class := { plain "java/lang/constant/Constable" (some 0) with
  accessFlags := 1537
  interfaces := #[]
  cf := some (fileOf pool10 1 #[] #[] 1537 3 #[] #[])
  fields := #[]
  methods := #[]
  instanceTypes := #[]
  staticTypes := #[]
  resolved := Array.replicate 11 none
  statics := none }

def pool11 : Array CpInfo := pool [(1, .class_ 2), (0, u "java/lang/constant/ConstantDesc"), (0, .class_ 4), (0, u "java/lang/Object")] 32

/-- java/lang/constant/ConstantDesc -/
def k11 : Class := { plain "java/lang/constant/ConstantDesc" (some 0) with
  accessFlags := 1537
  interfaces := #[]
  cf := some (fileOf pool11 1 #[] #[] 1537 3 #[] #[])
  fields := #[]
  methods := #[]
  instanceTypes := #[]
  staticTypes := #[]
  resolved := Array.replicate 37 none
  statics := none }

def pool12 : Array CpInfo := pool [(1, .methodref 2 3), (0, .class_ 4), (0, .nameAndType 5 6), (0, u "java/lang/Object"), (0, u "<init>"), (0, u "()V"), (2, .fieldref 10 11), (0, .class_ 12), (0, .nameAndType 13 14), (0, u "java/lang/String"), (0, u "value"), (0, u "[B"), (0, .fieldref 10 16), (0, .nameAndType 17 18), (0, u "coder"), (0, u "B"), (2, u "hash"), (0, u "I"), (2, u "hashIsZero"), (0, u "Z"), (11, .fieldref 10 39), (0, .nameAndType 40 26), (0, u "COMPACT_STRINGS"), (12, u "toBytes"), (53, .class_ 109), (1, u "java/lang/StringLatin1"), (99, .methodref 10 210), (0, .nameAndType 5 211), (0, u "([BB)V"), (157, u "(C)Z"), (205, .class_ 576), (0, u "java/lang/CharSequence"), (22, u "CASE_INSENSITIVE_ORDER"), (0, u "Ljava/util/Comparator;"), (181, u "valueOf"), (0, u "(C)Ljava/lang/String;"), (231, .methodref 107 1016), (0, .nameAndType 1017 369), (0, u "canEncode"), (0, .methodref 107 1019), (0, .nameAndType 53 1020), (0, u "(C)[B"), (80, u "serialPersistentFields"), (0, u "[Ljava/io/ObjectStreamField;"), (0, .class_ 1104), (0, u "java/lang/String$CaseInsensitiveComparator"), (1, .class_ 1107), (0, u "java/io/Serializable"), (0, .class_ 1109), (0, u "java/lang/Comparable"), (0, .class_ 1111), (0, u "java/lang/constant/Constable"), (0, .class_ 1113), (0, u "java/lang/constant/ConstantDesc"), (2, u "serialVersionUID"), (0, u "J"), (3, u "REPL"), (0, u "C"), (2, u "LATIN1"), (1, u "UTF16")] 323

def k12m0 : Method := { name := "<init>", desc := "()V", sig := { parameters := [], returnType := none }, accessFlags := 1, code := none }
def k12c1 : Code := { maxStack := 4, maxLocals := 1, code := jdk_42_method_139_code, exceptionTable := #[], attributes := #[] }
def k12m1 : Method := { name := "valueOf", desc := "(C)Ljava/lang/String;", sig := { parameters := [.char], returnType := some (.object "java/lang/String") }, accessFlags := 9, code := some k12c1 }
def k12c2 : Code := { maxStack := 2, maxLocals := 3, code := jdk_42_method_151_code, exceptionTable := #[], attributes := #[] }
def k12m2 : Method := { name := "<init>", desc := "([BB)V", sig := { parameters := [(.array .byte), .byte], returnType := none }, accessFlags := 0, code := some k12c2 }
/-- java/lang/String -/
def k12 : Class := { plain "java/lang/String" (some 0) with
  accessFlags := 49
  interfaces := #[7, 8, 9, 10, 11]
  cf := some (fileOf pool12 10 #[.nestMembers #[1103]] #[{ accessFlags := 1, nameIndex := 5, descriptorIndex := 6, attributes := #[] }, { accessFlags := 9, nameIndex := 782, descriptorIndex := 783, attributes := #[] }, { accessFlags := 0, nameIndex := 5, descriptorIndex := 211, attributes := #[] }] 49 2 #[1106, 1108, 575, 1110, 1112] #[{ accessFlags := 18, nameIndex := 13, descriptorIndex := 14, attributes := #[] }, { accessFlags := 18, nameIndex := 17, descriptorIndex := 18, attributes := #[] }, { accessFlags := 2, nameIndex := 21, descriptorIndex := 22, attributes := #[] }, { accessFlags := 2, nameIndex := 25, descriptorIndex := 26, attributes := #[] }, { accessFlags := 26, nameIndex := 1116, descriptorIndex := 1117, attributes := #[] }, { accessFlags := 24, nameIndex := 40, descriptorIndex := 26, attributes := #[] }, { accessFlags := 26, nameIndex := 1101, descriptorIndex := 1102, attributes := #[] }, { accessFlags := 26, nameIndex := 1121, descriptorIndex := 1122, attributes := #[] }, { accessFlags := 25, nameIndex := 599, descriptorIndex := 600, attributes := #[] }, { accessFlags := 24, nameIndex := 1125, descriptorIndex := 18, attributes := #[] }, { accessFlags := 24, nameIndex := 1127, descriptorIndex := 18, attributes := #[] }])
  fields := #[{ name := "value", type := (.array .byte), accessFlags := 18, slot := 0, constantValue := 0 }, { name := "coder", type := .byte, accessFlags := 18, slot := 1, constantValue := 0 }, { name := "hash", type := .int, accessFlags := 2, slot := 2, constantValue := 0 }, { name := "hashIsZero", type := .boolean, accessFlags := 2, slot := 3, constantValue := 0 }, { name := "serialVersionUID", type := .long, accessFlags := 26, slot := 0, constantValue := 0 }, { name := "COMPACT_STRINGS", type := .boolean, accessFlags := 24, slot := 1, constantValue := 0 }, { name := "serialPersistentFields", type := (.array (.object "java/io/ObjectStreamField")), accessFlags := 26, slot := 2, constantValue := 0 }, { name := "REPL", type := .char, accessFlags := 26, slot := 3, constantValue := 0 }, { name := "CASE_INSENSITIVE_ORDER", type := (.object "java/util/Comparator"), accessFlags := 25, slot := 4, constantValue := 0 }, { name := "LATIN1", type := .byte, accessFlags := 24, slot := 5, constantValue := 0 }, { name := "UTF16", type := .byte, accessFlags := 24, slot := 6, constantValue := 0 }]
  methods := #[k12m0, k12m1, k12m2]
  instanceTypes := #[(.array .byte), .byte, .int, .boolean]
  staticTypes := #[.long, .boolean, (.array (.object "java/io/ObjectStreamField")), .char, (.object "java/util/Comparator"), .byte, .byte]
  resolved := Array.replicate 1451 none
  statics := some 0 }

def pool13 : Array CpInfo := pool [(4, .class_ 6), (1, u "java/lang/Object"), (0, u "<init>"), (0, u "()V"), (5, .class_ 16), (1, u "java/lang/StringLatin1"), (73, u "canEncode"), (14, u "(C)Z"), (15, u "$assertionsDisabled"), (0, u "Z"), (98, .class_ 223), (1, u "java/lang/StringLatin1$LinesSpliterator"), (156, u "toBytes"), (1, u "(C)[B"), (7, .class_ 391), (0, u "java/lang/StringLatin1$CharsSpliterator")] 3

def k13m0 : Method := { name := "<init>", desc := "()V", sig := { parameters := [], returnType := none }, accessFlags := 0, code := none }
def k13c1 : Code := { maxStack := 2, maxLocals := 1, code := jdk_43_method_3_code, exceptionTable := #[], attributes := #[] }
def k13m1 : Method := { name := "canEncode", desc := "(C)Z", sig := { parameters := [.char], returnType := some .boolean }, accessFlags := 9, code := some k13c1 }
def k13c2 : Code := { maxStack := 4, maxLocals := 1, code := jdk_43_method_46_code, exceptionTable := #[], attributes := #[] }
def k13m2 : Method := { name := "toBytes", desc := "(C)[B", sig := { parameters := [.char], returnType := some (.array .byte) }, accessFlags := 9, code := some k13c2 }
/-- java/lang/StringLatin1 -/
def k13 : Class := { plain "java/lang/StringLatin1" (some 0) with
  accessFlags := 48
  interfaces := #[]
  cf := some (fileOf pool13 14 #[.nestMembers #[390, 221]] #[{ accessFlags := 0, nameIndex := 7, descriptorIndex := 8, attributes := #[] }, { accessFlags := 9, nameIndex := 90, descriptorIndex := 105, attributes := #[] }, { accessFlags := 9, nameIndex := 380, descriptorIndex := 382, attributes := #[] }] 48 4 #[] #[{ accessFlags := 4120, nameIndex := 121, descriptorIndex := 122, attributes := #[] }])
  fields := #[{ name := "$assertionsDisabled", type := .boolean, accessFlags := 4120, slot := 0, constantValue := 0 }]
  methods := #[k13m0, k13m1, k13m2]
  instanceTypes := #[]
  staticTypes := #[.boolean]
  resolved := Array.replicate 395 none
  statics := none }

def pool14 : Array CpInfo := pool [(1, .methodref 2 3), (0, .class_ 4), (0, .nameAndType 5 6), (0, u "java/lang/Record"), (0, u "<init>"), (0, u "()V"), (0, .fieldref 8 9), (0, .class_ 10), (0, .nameAndType 11 12), (0, u "com/example/tessera/tessera/Value$FloatValue"), (0, u "value"), (0, u "D"), (57, .class_ 71), (0, u "com/example/tessera/tessera/Value$NumberValue"), (0, u "DIGITS"), (0, u "I"), (2, u "(D)V"), (16, .class_ 94), (0, u "com/example/tessera/tessera/Value")] 31

def k14c0 : Code := { maxStack := 3, maxLocals := 3, code := prog_116_method_1_code, exceptionTable := #[], attributes := #[] }
def k14m0 : Method := { name := "<init>", desc := "(D)V", sig := { parameters := [.double], returnType := none }, accessFlags := 1, code := some k14c0 }
/-- com/example/tessera/tessera/Value$FloatValue -/
def k14 : Class := { plain "com/example/tessera/tessera/Value$FloatValue" (some 2) with
  accessFlags := 49
  interfaces := #[4]
  cf := some (fileOf pool14 8 #[.nestHost 93] #[{ accessFlags := 1, nameIndex := 5, descriptorIndex := 76, attributes := #[] }] 49 2 #[70] #[{ accessFlags := 18, nameIndex := 11, descriptorIndex := 12, attributes := #[] }, { accessFlags := 26, nameIndex := 72, descriptorIndex := 73, attributes := #[] }])
  fields := #[{ name := "value", type := .double, accessFlags := 18, slot := 0, constantValue := 0 }, { name := "DIGITS", type := .int, accessFlags := 26, slot := 0, constantValue := 0 }]
  methods := #[k14m0]
  instanceTypes := #[.double]
  staticTypes := #[.int]
  resolved := Array.replicate 126 none
  statics := none }

def pool15 : Array CpInfo := pool [(2, .class_ 4), (1, u "java/lang/Object"), (0, u "<init>"), (0, u "()V"), (17, .class_ 26), (1, u "jdk/internal/util/Preconditions"), (28, .class_ 56), (0, u "jdk/internal/util/Preconditions$4"), (57, .class_ 115), (0, u "jdk/internal/util/Preconditions$1"), (7, u "SIOOBE_FORMATTER"), (0, u "Ljava/util/function/BiFunction;"), (0, .class_ 126), (0, u "jdk/internal/util/Preconditions$2"), (3, u "AIOOBE_FORMATTER"), (0, .class_ 132), (0, u "jdk/internal/util/Preconditions$3"), (3, u "IOOBE_FORMATTER")] 57

def k15m0 : Method := { name := "<init>", desc := "()V", sig := { parameters := [], returnType := none }, accessFlags := 1, code := none }
/-- jdk/internal/util/Preconditions -/
def k15 : Class := { plain "jdk/internal/util/Preconditions" (some 0) with
  accessFlags := 33
  interfaces := #[]
  cf := some (fileOf pool15 24 #[.nestMembers #[55, 131, 125, 114]] #[{ accessFlags := 1, nameIndex := 5, descriptorIndex := 6, attributes := #[] }] 33 2 #[] #[{ accessFlags := 25, nameIndex := 123, descriptorIndex := 124, attributes := #[] }, { accessFlags := 25, nameIndex := 130, descriptorIndex := 124, attributes := #[] }, { accessFlags := 25, nameIndex := 136, descriptorIndex := 124, attributes := #[] }])
  fields := #[{ name := "SIOOBE_FORMATTER", type := (.object "java/util/function/BiFunction"), accessFlags := 25, slot := 0, constantValue := 0 }, { name := "AIOOBE_FORMATTER", type := (.object "java/util/function/BiFunction"), accessFlags := 25, slot := 1, constantValue := 0 }, { name := "IOOBE_FORMATTER", type := (.object "java/util/function/BiFunction"), accessFlags := 25, slot := 2, constantValue := 0 }]
  methods := #[k15m0]
  instanceTypes := #[]
  staticTypes := #[(.object "java/util/function/BiFunction"), (.object "java/util/function/BiFunction"), (.object "java/util/function/BiFunction")]
  resolved := Array.replicate 194 none
  statics := some 1 }

def pool16 : Array CpInfo := pool [(9, u "<init>"), (6, .class_ 18), (1, u "java/lang/Object"), (0, u "()V"), (1, .class_ 23), (1, u "jdk/internal/util/ArraysSupport"), (0, u "LOG2_ARRAY_LONG_INDEX_SCALE"), (0, u "I"), (2, u "U"), (0, u "Ljdk/internal/misc/Unsafe;"), (8, u "BIG_ENDIAN"), (0, u "Z"), (8, u "LOG2_BYTE_BIT_SIZE"), (4, u "LOG2_ARRAY_INT_INDEX_SCALE"), (54, u "JLA"), (0, u "Ljdk/internal/access/JavaLangAccess;"), (11, u "LOG2_ARRAY_BOOLEAN_INDEX_SCALE"), (9, u "LOG2_ARRAY_BYTE_INDEX_SCALE"), (5, u "LOG2_ARRAY_CHAR_INDEX_SCALE"), (5, u "LOG2_ARRAY_SHORT_INDEX_SCALE"), (18, u "LOG2_ARRAY_FLOAT_INDEX_SCALE"), (24, u "LOG2_ARRAY_DOUBLE_INDEX_SCALE"), (89, u "T_BOOLEAN"), (2, u "T_CHAR"), (1, u "T_FLOAT"), (1, u "T_DOUBLE"), (1, u "T_BYTE"), (1, u "T_SHORT"), (1, u "T_INT"), (1, u "T_LONG"), (1, u "SOFT_MAX_ARRAY_LENGTH")] 83

def k16m0 : Method := { name := "<init>", desc := "()V", sig := { parameters := [], returnType := none }, accessFlags := 2, code := none }
/-- jdk/internal/util/ArraysSupport -/
def k16 : Class := { plain "jdk/internal/util/ArraysSupport" (some 0) with
  accessFlags := 33
  interfaces := #[]
  cf := some (fileOf pool16 21 #[] #[{ accessFlags := 2, nameIndex := 9, descriptorIndex := 19, attributes := #[] }] 33 16 #[] #[{ accessFlags := 24, nameIndex := 28, descriptorIndex := 29, attributes := #[] }, { accessFlags := 26, nameIndex := 38, descriptorIndex := 39, attributes := #[] }, { accessFlags := 25, nameIndex := 121, descriptorIndex := 25, attributes := #[] }, { accessFlags := 25, nameIndex := 131, descriptorIndex := 25, attributes := #[] }, { accessFlags := 25, nameIndex := 137, descriptorIndex := 25, attributes := #[] }, { accessFlags := 25, nameIndex := 143, descriptorIndex := 25, attributes := #[] }, { accessFlags := 25, nameIndex := 53, descriptorIndex := 25, attributes := #[] }, { accessFlags := 25, nameIndex := 24, descriptorIndex := 25, attributes := #[] }, { accessFlags := 25, nameIndex := 162, descriptorIndex := 25, attributes := #[] }, { accessFlags := 25, nameIndex := 187, descriptorIndex := 25, attributes := #[] }, { accessFlags := 26, nameIndex := 48, descriptorIndex := 25, attributes := #[] }, { accessFlags := 25, nameIndex := 277, descriptorIndex := 25, attributes := #[] }, { accessFlags := 25, nameIndex := 280, descriptorIndex := 25, attributes := #[] }, { accessFlags := 25, nameIndex := 282, descriptorIndex := 25, attributes := #[] }, { accessFlags := 25, nameIndex := 284, descriptorIndex := 25, attributes := #[] }, { accessFlags := 25, nameIndex := 286, descriptorIndex := 25, attributes := #[] }, { accessFlags := 25, nameIndex := 288, descriptorIndex := 25, attributes := #[] }, { accessFlags := 25, nameIndex := 290, descriptorIndex := 25, attributes := #[] }, { accessFlags := 25, nameIndex := 292, descriptorIndex := 25, attributes := #[] }, { accessFlags := 26, nameIndex := 108, descriptorIndex := 109, attributes := #[] }, { accessFlags := 25, nameIndex := 294, descriptorIndex := 25, attributes := #[] }])
  fields := #[{ name := "U", type := (.object "jdk/internal/misc/Unsafe"), accessFlags := 24, slot := 0, constantValue := 0 }, { name := "BIG_ENDIAN", type := .boolean, accessFlags := 26, slot := 1, constantValue := 0 }, { name := "LOG2_ARRAY_BOOLEAN_INDEX_SCALE", type := .int, accessFlags := 25, slot := 2, constantValue := 0 }, { name := "LOG2_ARRAY_BYTE_INDEX_SCALE", type := .int, accessFlags := 25, slot := 3, constantValue := 0 }, { name := "LOG2_ARRAY_CHAR_INDEX_SCALE", type := .int, accessFlags := 25, slot := 4, constantValue := 0 }, { name := "LOG2_ARRAY_SHORT_INDEX_SCALE", type := .int, accessFlags := 25, slot := 5, constantValue := 0 }, { name := "LOG2_ARRAY_INT_INDEX_SCALE", type := .int, accessFlags := 25, slot := 6, constantValue := 0 }, { name := "LOG2_ARRAY_LONG_INDEX_SCALE", type := .int, accessFlags := 25, slot := 7, constantValue := 0 }, { name := "LOG2_ARRAY_FLOAT_INDEX_SCALE", type := .int, accessFlags := 25, slot := 8, constantValue := 0 }, { name := "LOG2_ARRAY_DOUBLE_INDEX_SCALE", type := .int, accessFlags := 25, slot := 9, constantValue := 0 }, { name := "LOG2_BYTE_BIT_SIZE", type := .int, accessFlags := 26, slot := 10, constantValue := 0 }, { name := "T_BOOLEAN", type := .int, accessFlags := 25, slot := 11, constantValue := 0 }, { name := "T_CHAR", type := .int, accessFlags := 25, slot := 12, constantValue := 0 }, { name := "T_FLOAT", type := .int, accessFlags := 25, slot := 13, constantValue := 0 }, { name := "T_DOUBLE", type := .int, accessFlags := 25, slot := 14, constantValue := 0 }, { name := "T_BYTE", type := .int, accessFlags := 25, slot := 15, constantValue := 0 }, { name := "T_SHORT", type := .int, accessFlags := 25, slot := 16, constantValue := 0 }, { name := "T_INT", type := .int, accessFlags := 25, slot := 17, constantValue := 0 }, { name := "T_LONG", type := .int, accessFlags := 25, slot := 18, constantValue := 0 }, { name := "JLA", type := (.object "jdk/internal/access/JavaLangAccess"), accessFlags := 26, slot := 19, constantValue := 0 }, { name := "SOFT_MAX_ARRAY_LENGTH", type := .int, accessFlags := 25, slot := 20, constantValue := 0 }]
  methods := #[k16m0]
  instanceTypes := #[]
  staticTypes := #[(.object "jdk/internal/misc/Unsafe"), .boolean, .int, .int, .int, .int, .int, .int, .int, .int, .int, .int, .int, .int, .int, .int, .int, .int, .int, (.object "jdk/internal/access/JavaLangAccess"), .int]
  resolved := Array.replicate 378 none
  statics := none }

def pool17 : Array CpInfo := pool [(1, u "java/lang/Cloneable"), (0, .class_ 1), (0, u "java/lang/Object"), (0, .class_ 3)] 3

/-- java/lang/Cloneable -/
def k17 : Class := { plain "java/lang/Cloneable" (some 0) with
  accessFlags := 1537
  interfaces := #[]
  cf := some (fileOf pool17 2 #[] #[] 1537 4 #[] #[])
  fields := #[]
  methods := #[]
  instanceTypes := #[]
  staticTypes := #[]
  resolved := Array.replicate 8 none
  statics := none }

/-- the primitive byte -/
def k18 : Class := { plain "byte" none with kind := .primitive 'B', accessFlags := 0x411 }
/-- [B -/
def k19 : Class := { plain "[B" (some 0) with kind := .array 18 .byte, interfaces := #[17, 7], accessFlags := 1041 }

/-- the primitive int -/
def k20 : Class := { plain "int" none with kind := .primitive 'I', accessFlags := 0x411 }
/-- [I -/
def k21 : Class := { plain "[I" (some 0) with kind := .array 20 .int, interfaces := #[17, 7], accessFlags := 1041 }

def heap : Heap := #[{ cls := 12, slots := #[.long 0, .int 1, .null, .int 0, .null, .int 0, .int 0], vm := .statics 12 },
  { cls := 15, slots := #[.null, .null, .null], vm := .statics 15 }]
def classes : Array Class := #[k0, k1, k2, k3, k4, k5, k6, k7, k8, k9, k10, k11, k12, k13, k14, k15, k16, k17, k18, k19, k20, k21]
def interned : List (Array UInt16 × Addr) := []
def slotsUsed : Nat := 10
def theMethod : MethodId := ⟨1, 1⟩
def args0 : Array Value := #[.long 5, .long 6, .int 0, .int 65]
def aboutOver (below : List Frame) : State where
  vm := { classes := classes, interned := interned.toArray }
  heap := heap
  slotsUsed := slotsUsed
  threads := #[{ frames := .invoking theMethod args0 :: below }]
def below0 : List Frame := [.native { method := ⟨0, 0⟩, args := #[] }]
def about1 : State := aboutOver below0
def p0 : Program := .bare "" "" ""
def e0 : Env := launch0.env 0 0 0
theorem w_frames : about1.frames = Frame.invoking theMethod args0 :: below0 := rfl
set_option maxRecDepth 65536 in
theorem w_args : argsFit about1.vm theMethod args0 = true := by decide +kernel
set_option maxRecDepth 65536 in
theorem w_heap : heapFits about1 = true := by decide +kernel
set_option maxRecDepth 65536 in
theorem w_runnable : about1.curStatus? = some .runnable := by decide +kernel
set_option maxRecDepth 65536 in
theorem w_alone : about1.alone = true := by decide +kernel
set_option maxRecDepth 65536 in
theorem w_named : about1.methodNamed? x = some theMethod := by decide +kernel
set_option maxRecDepth 65536 in
theorem w_hears : about1.hears theMethod below0 = true := by decide +kernel
set_option maxRecDepth 65536 in
theorem w_ripe : about1.ripe theMethod args0 below0 = true := by decide +kernel
theorem w_running : about1.status = .running := rfl
set_option maxRecDepth 65536 in
theorem w_room : about1.hasRoom e0.platform room_1 = true :=
  launch0.hasRoom_least _ room_1 (by decide +kernel) (by decide +kernel) (by decide +kernel) (by decide +kernel) (by decide +kernel) (by decide +kernel)
theorem allAtoms_all (ts : List Jvm.Cond) (a : Array Jvm.Value) (st : Jvm.State) : (allAtoms ts).before a st = ts.all (fun c => c.before a st) := by
  induction ts with
  | nil => rfl
  | cons c t ih =>
    show (Jvm.Cond.and c (allAtoms t)).before a st = _
    rw [Jvm.Cond.before_and, ih, List.all_cons]
def words1 : List Jvm.Cond := Jvm.Cond.code x code maxLocals ret :: tables_1
/-- a 'code' word, met by the world's own term for the bytes: nothing is compared byte by byte -/
theorem code_word {y : MethodName} {bytes : ByteArray} {mx : Nat} {rt : Option FieldType} {a : Array Value} {s : State} {m : MethodId} {meth : Method} {c : Code} (h1 : s.methodNamed? y = some m) (h2 : s.vm.method? m = some meth) (h3 : meth.code = some c) (h4 : c.code = bytes)
    (h5 : (c.maxLocals == mx && c.exceptionTable.isEmpty && decide (c.maxStack ≤ mostOperands) && decide (meth.sig.returnType = rt) && !meth.locks && decide (parseMethodDescriptor y.desc = some meth.sig)) = true) : (Jvm.Cond.code y bytes mx rt).before a s = true := by
  simp only [Bool.and_eq_true, beq_iff_eq, Bool.not_eq_true', decide_eq_true_eq] at h5
  obtain ⟨⟨⟨⟨⟨g1, g2⟩, g3⟩, g4⟩, g5⟩, g6⟩ := h5
  simp [Cond.before, Cond.holds, Cond.value, h1, h2, h3, h4, g1, g2, g3, g4, g5, g6]
def isCode : Jvm.Cond → Bool
  | .code _ _ _ _ => true
  | _ => false
theorem all_split {L : List Jvm.Cond} {P : Jvm.Cond → Bool} (h1 : L.all (fun c => isCode c || P c) = true) (h2 : ∀ c ∈ L.filter isCode, P c = true) : L.all P = true := by
  refine List.all_eq_true.mpr fun c hc => ?_
  have h := List.all_eq_true.mp h1 c hc
  rcases Bool.eq_false_or_eq_true (isCode c) with hi | hi
  · exact h2 c (List.mem_filter.mpr ⟨hc, hi⟩)
  · simpa [hi] using h
set_option maxRecDepth 65536 in
theorem w_c0 : (Jvm.Cond.code x code maxLocals ret).before args0 about1 = true := code_word (m := ⟨1, 1⟩) (meth := k1m1) (c := k1c1) (by decide +kernel) rfl rfl rfl (by decide +kernel)
set_option maxRecDepth 65536 in
theorem w_c1 : (Jvm.Cond.code ({ cls := "com/example/tessera/tessera/Value$IntegerValue", name := "<init>", desc := "(J)V" } : Jvm.MethodName) prog_117_method_1_code (3 : Nat) (Option.none : Option Jvm.ClassFile.FieldType)).before args0 about1 = true := code_word (m := ⟨5, 0⟩) (meth := k5m0) (c := k5c0) (by decide +kernel) rfl rfl rfl (by decide +kernel)
set_option maxRecDepth 65536 in
theorem w_c2 : (Jvm.Cond.code ({ cls := "java/lang/Record", name := "<init>", desc := "()V" } : Jvm.MethodName) jdk_30_method_1_code (1 : Nat) (Option.none : Option Jvm.ClassFile.FieldType)).before args0 about1 = true := code_word (m := ⟨2, 0⟩) (meth := k2m0) (c := k2c0) (by decide +kernel) rfl rfl rfl (by decide +kernel)
set_option maxRecDepth 65536 in
theorem w_c3 : (Jvm.Cond.code ({ cls := "java/lang/Object", name := "<init>", desc := "()V" } : Jvm.MethodName) object_method_1_code (1 : Nat) (Option.none : Option Jvm.ClassFile.FieldType)).before args0 about1 = true := code_word (m := ⟨0, 0⟩) (meth := k0m0) (c := k0c0) (by decide +kernel) rfl rfl rfl (by decide +kernel)
set_option maxRecDepth 65536 in
theorem w_c4 : (Jvm.Cond.code ({ cls := "com/example/tessera/tessera/Value$IntegerValue", name := "equals", desc := "(Ljava/lang/Object;)Z" } : Jvm.MethodName) prog_117_method_5_code (3 : Nat) (Option.some Jvm.ClassFile.FieldType.boolean)).before args0 about1 = true := code_word (m := ⟨5, 1⟩) (meth := k5m1) (c := k5c1) (by decide +kernel) rfl rfl rfl (by decide +kernel)
set_option maxRecDepth 65536 in
theorem w_c5 : (Jvm.Cond.code ({ cls := "java/lang/String", name := "valueOf", desc := "(C)Ljava/lang/String;" } : Jvm.MethodName) jdk_42_method_139_code (1 : Nat) (Option.some (Jvm.ClassFile.FieldType.object "java/lang/String"))).before args0 about1 = true := code_word (m := ⟨12, 1⟩) (meth := k12m1) (c := k12c1) (by decide +kernel) rfl rfl rfl (by decide +kernel)
set_option maxRecDepth 65536 in
theorem w_c6 : (Jvm.Cond.code ({ cls := "java/lang/StringLatin1", name := "canEncode", desc := "(C)Z" } : Jvm.MethodName) jdk_43_method_3_code (1 : Nat) (Option.some Jvm.ClassFile.FieldType.boolean)).before args0 about1 = true := code_word (m := ⟨13, 1⟩) (meth := k13m1) (c := k13c1) (by decide +kernel) rfl rfl rfl (by decide +kernel)
set_option maxRecDepth 65536 in
theorem w_c7 : (Jvm.Cond.code ({ cls := "java/lang/StringLatin1", name := "toBytes", desc := "(C)[B" } : Jvm.MethodName) jdk_43_method_46_code (1 : Nat) (Option.some (Jvm.ClassFile.FieldType.array Jvm.ClassFile.FieldType.byte))).before args0 about1 = true := code_word (m := ⟨13, 2⟩) (meth := k13m2) (c := k13c2) (by decide +kernel) rfl rfl rfl (by decide +kernel)
set_option maxRecDepth 65536 in
theorem w_c8 : (Jvm.Cond.code ({ cls := "java/lang/String", name := "<init>", desc := "([BB)V" } : Jvm.MethodName) jdk_42_method_151_code (3 : Nat) (Option.none : Option Jvm.ClassFile.FieldType)).before args0 about1 = true := code_word (m := ⟨12, 2⟩) (meth := k12m2) (c := k12c2) (by decide +kernel) rfl rfl rfl (by decide +kernel)
set_option maxRecDepth 65536 in
theorem w_c9 : (Jvm.Cond.code ({ cls := "com/example/tessera/tessera/Value$SymbolValue", name := "<init>", desc := "(Ljava/lang/String;)V" } : Jvm.MethodName) prog_121_method_1_code (2 : Nat) (Option.none : Option Jvm.ClassFile.FieldType)).before args0 about1 = true := code_word (m := ⟨6, 0⟩) (meth := k6m0) (c := k6c0) (by decide +kernel) rfl rfl rfl (by decide +kernel)
set_option maxRecDepth 65536 in
theorem w_c10 : (Jvm.Cond.code ({ cls := "com/example/tessera/tessera/Value$FloatValue", name := "<init>", desc := "(D)V" } : Jvm.MethodName) prog_116_method_1_code (3 : Nat) (Option.none : Option Jvm.ClassFile.FieldType)).before args0 about1 = true := code_word (m := ⟨14, 0⟩) (meth := k14m0) (c := k14c0) (by decide +kernel) rfl rfl rfl (by decide +kernel)
def codes1 : List Jvm.Cond := [Jvm.Cond.code x code maxLocals ret, Jvm.Cond.code ({ cls := "com/example/tessera/tessera/Value$IntegerValue", name := "<init>", desc := "(J)V" } : Jvm.MethodName) prog_117_method_1_code (3 : Nat) (Option.none : Option Jvm.ClassFile.FieldType), Jvm.Cond.code ({ cls := "java/lang/Record", name := "<init>", desc := "()V" } : Jvm.MethodName) jdk_30_method_1_code (1 : Nat) (Option.none : Option Jvm.ClassFile.FieldType), Jvm.Cond.code ({ cls := "java/lang/Object", name := "<init>", desc := "()V" } : Jvm.MethodName) object_method_1_code (1 : Nat) (Option.none : Option Jvm.ClassFile.FieldType), Jvm.Cond.code ({ cls := "com/example/tessera/tessera/Value$IntegerValue", name := "equals", desc := "(Ljava/lang/Object;)Z" } : Jvm.MethodName) prog_117_method_5_code (3 : Nat) (Option.some Jvm.ClassFile.FieldType.boolean), Jvm.Cond.code ({ cls := "java/lang/String", name := "valueOf", desc := "(C)Ljava/lang/String;" } : Jvm.MethodName) jdk_42_method_139_code (1 : Nat) (Option.some (Jvm.ClassFile.FieldType.object "java/lang/String")), Jvm.Cond.code ({ cls := "java/lang/StringLatin1", name := "canEncode", desc := "(C)Z" } : Jvm.MethodName) jdk_43_method_3_code (1 : Nat) (Option.some Jvm.ClassFile.FieldType.boolean), Jvm.Cond.code ({ cls := "java/lang/StringLatin1", name := "toBytes", desc := "(C)[B" } : Jvm.MethodName) jdk_43_method_46_code (1 : Nat) (Option.some (Jvm.ClassFile.FieldType.array Jvm.ClassFile.FieldType.byte)), Jvm.Cond.code ({ cls := "java/lang/String", name := "<init>", desc := "([BB)V" } : Jvm.MethodName) jdk_42_method_151_code (3 : Nat) (Option.none : Option Jvm.ClassFile.FieldType), Jvm.Cond.code ({ cls := "com/example/tessera/tessera/Value$SymbolValue", name := "<init>", desc := "(Ljava/lang/String;)V" } : Jvm.MethodName) prog_121_method_1_code (2 : Nat) (Option.none : Option Jvm.ClassFile.FieldType), Jvm.Cond.code ({ cls := "com/example/tessera/tessera/Value$FloatValue", name := "<init>", desc := "(D)V" } : Jvm.MethodName) prog_116_method_1_code (3 : Nat) (Option.none : Option Jvm.ClassFile.FieldType)]
set_option maxRecDepth 65536 in
theorem codes_eq : words1.filter isCode = codes1 := rfl
theorem w_codes : ∀ c ∈ words1.filter isCode, c.before args0 about1 = true := by
  rw [codes_eq]
  intro c hc
  simp only [codes1, List.mem_cons, List.not_mem_nil, or_false] at hc
  rcases hc with rfl | rfl | rfl | rfl | rfl | rfl | rfl | rfl | rfl | rfl | rfl
  · exact w_c0
  · exact w_c1
  · exact w_c2
  · exact w_c3
  · exact w_c4
  · exact w_c5
  · exact w_c6
  · exact w_c7
  · exact w_c8
  · exact w_c9
  · exact w_c10
set_option maxRecDepth 65536 in
theorem w_t1 : (words1.take 24).all (fun c => isCode c || c.before args0 about1) = true := by decide +kernel
set_option maxRecDepth 65536 in
theorem w_t2 : ((words1.drop 24).take 24).all (fun c => isCode c || c.before args0 about1) = true := by decide +kernel
set_option maxRecDepth 65536 in
theorem w_t3 : ((words1.drop 24).drop 24).all (fun c => isCode c || c.before args0 about1) = true := by decide +kernel
theorem w_tables : (allAtoms (Jvm.Cond.code x code maxLocals ret :: tables_1)).before args0 about1 = true := by
  rw [allAtoms_all]
  show words1.all (fun c => c.before args0 about1) = true
  refine all_split ?_ w_codes
  rw [← List.take_append_drop 24 words1, List.all_append, w_t1, ← List.take_append_drop 24 (words1.drop 24), List.all_append, w_t2, w_t3]
  rfl
set_option maxRecDepth 65536 in
theorem w_rest : rest_1_c.before args0 about1 = true := by decide +kernel
set_option maxRecDepth 65536 in
theorem w_case : (Jvm.Cond.and given_1 narrow_1).before args0 about1 = true := by decide +kernel
theorem w_applies : (headSpec (Jvm.Cond.code x code maxLocals ret :: tables_1) room_1).applies x e0.platform about1 = true :=
  (Spec.applies_iff w_frames).mpr ⟨w_running, w_runnable, w_alone, w_named, w_hears, w_ripe, w_room, w_tables⟩
theorem atStart : AtStart classFile x code maxLocals ret World_1 tables_1 room_1 Calls_1 rest_1 Pre_1 launch0 p0 e0 about1 theMethod args0 below0 :=
  ⟨lists_1, trivial, launch0.admits_env _ _ _, launch0.least_env, fairChoices_fair.cas, fairChoices_fair.clock, w_frames, w_args, w_heap, w_applies, trivial, w_rest, w_case⟩
end start1
theorem witness_1 : WitnessClaimed_1 := ⟨start1.p0, start1.e0, start1.about1, start1.theMethod, start1.args0, start1.below0, start1.atStart⟩
end Jvm.Pilot.@@N@@
