import JvmDerived
import JvmDerived.Pilot.@@N@@Statement
import JvmDerived.Pilot.@@N@@Code
set_option linter.unusedVariables false
set_option linter.unusedSimpArgs false
namespace Jvm.Own
open Jvm Jvm.ClassFile Sem Op Lib Jvm.Free Jvm.Stand Jvm.LawKit Jvm.RoadKit Bundle
section Walk
/-- from this frame the body comes to its end, and the end is as F says -/
def Endw (p : Program) (e : Env) (below : List Frame) (T : State) (g : JFrame) (F : Outcome → State → Prop) : Prop :=
  ∃ s₂ o, Steps p.tables e below (T.setTop g) s₂ ∧ s₂.status = .running ∧ Ended s₂ below o ∧ F o s₂
/-- where a walk stands: its surroundings, its state, the heap at hand, what it has spent -/
def Core (p : Program) (l : Launch) (e : Env) (R : Room) (s : State) (m : MethodId) (args : Array Value) (below : List Frame) (meth : Method) (c : Code) (bs : ByteArray) (ml : Nat) (ret : Option FieldType) (nm own : String) (Z : State) (a0 : Array Value) (EL : List (String × Nat)) (nw : Bool) (vm : Vm) (T : State) (h : Heap) (k n : Nat) : Prop :=
  (p.tables.exec = Jvm.exec ∧ c.code = bs ∧ c.maxLocals = ml ∧ meth.sig.returnType = ret ∧ meth.locks = false ∧ meth.name = nm ∧ EW Z a0 EL) ∧
  (∃ L, Stand p l e R (s.setVm vm) m args below meth c T L k n ∧ Fr Z.heap.size L) ∧ T.heap = h ∧ Z.Warmed39 vm ∧ vm.findClass own = some m.cls ∧ (∃ k0, s.Since vm k0 ∧ k0 ≤ h.size) ∧ CHr Z EL s.vm s.heap vm h ∧ Ext Z.heap h ∧ (nw = true → s.WarmedH vm)
/-- what a body leaves behind -/
def Fin (s : State) (Z : State) (EL : List (String × Nat)) (nw : Bool) (Q : Option Value → Heap → Prop) (K N : Nat) (o : Outcome) (U : State) : Prop :=
  ∃ v L, o = .returned v ∧ (Q v U.heap ∧ Fr Z.heap.size L ∧ Ext Z.heap U.heap) ∧ (CHr Z EL s.vm s.heap U.vm U.heap ∧ (nw = true → s.WarmedH U.vm)) ∧ ReturnedEndW s o U L K N
/-- the contract of a body: the arguments, the heap at the call, the places that it may write though they be Strings or byte arrays, what comes back -/
def Met (l : Launch) (Z : State) (EL : List (String × Nat)) (nw : Bool) (y : MethodName) (bs : ByteArray) (ml : Nat) (ret : Option FieldType) (ws : List Jvm.Cond) (rm : Room) (as' : Array Value) (h : Heap) (xs : List Addr) (Q : Option Value → Heap → Prop) : Prop :=
  MetFree l y (head1 (Jvm.Cond.code y bs ml ret :: ws) rm) (fun a U => a = as' ∧ Z.Warmed39 U.vm ∧ U.heap = h ∧ CHv Z EL U.vm h ∧ ∀ x ∈ xs, Safe Z EL U.vm h x) (fun _ _ _ _ _ => True)
    (fun _ U o U' => Fin U Z EL nw Q rm.cells rm.slots o U')
variable {p : Program} {l : Launch} {e : Env} {R : Room} {s : State} {m : MethodId} {args : Array Value} {below : List Frame} {meth : Method} {c : Code}
variable {bs : ByteArray} {ml : Nat} {ret : Option FieldType} {nm own : String} {Z : State} {a0 : Array Value} {EL : List (String × Nat)} {nw : Bool} {vm : Vm} {T T' : State} {h h' : Heap} {k n k' n' : Nat} {F : Outcome → State → Prop} {pc pc' : Nat} {Ls : Array Slot} {rest : List Value} {g g' : JFrame} {Q : Option Value → Heap → Prop}
theorem Endw.st (q : ∀ t, Steps p.tables e below (T'.setTop g') t → Steps p.tables e below (T.setTop g) t) (E : Endw p e below T' g' F) : Endw p e below T g F := by
  obtain ⟨s₂, o, h1, h2⟩ := E; exact ⟨s₂, o, q _ h1, h2⟩
theorem Endw.ste (q : Steps p.tables e below (T.setTop g) (T'.setTop g')) (E : Endw p e below T' g' F) : Endw p e below T g F := Endw.st (fun _ r => q.trans r) E
theorem Endw.eq (q : g = g') (E : Endw p e below T g' F) : Endw p e below T g F := q ▸ E
section Reads
theorem Core.hx (C : Core p l e R s m args below meth c bs ml ret nm own Z a0 EL nw vm T h k n) : p.tables.exec = Jvm.exec := C.1.1
theorem Core.dec (C : Core p l e R s m args below meth c bs ml ret nm own Z a0 EL nw vm T h k n) {r : Except DecodeError (Instr × Nat)} (hd : decode bs pc = r) : decode c.code pc = r := hb C.1.2.1 hd
theorem Core.mlq (C : Core p l e R s m args below meth c bs ml ret nm own Z a0 EL nw vm T h k n) : c.maxLocals = ml := C.1.2.2.1
theorem Core.rtq (C : Core p l e R s m args below meth c bs ml ret nm own Z a0 EL nw vm T h k n) : meth.sig.returnType = ret := C.1.2.2.2.1
theorem Core.locks (C : Core p l e R s m args below meth c bs ml ret nm own Z a0 EL nw vm T h k n) : meth.locks = false := C.1.2.2.2.2.1
theorem Core.nam (C : Core p l e R s m args below meth c bs ml ret nm own Z a0 EL nw vm T h k n) : meth.name = nm := C.1.2.2.2.2.2.1
theorem Core.ew (C : Core p l e R s m args below meth c bs ml ret nm own Z a0 EL nw vm T h k n) : EW Z a0 EL := C.1.2.2.2.2.2.2
theorem Core.here (C : Core p l e R s m args below meth c bs ml ret nm own Z a0 EL nw vm T h k n) : At T m c below := by obtain ⟨-, ⟨_, X, -⟩, -⟩ := C; exact X.here
theorem Core.heq (C : Core p l e R s m args below meth c bs ml ret nm own Z a0 EL nw vm T h k n) : T.heap = h := C.2.2.1
theorem Core.warm (C : Core p l e R s m args below meth c bs ml ret nm own Z a0 EL nw vm T h k n) : Z.Warmed39 vm := C.2.2.2.1
theorem Core.hown (C : Core p l e R s m args below meth c bs ml ret nm own Z a0 EL nw vm T h k n) : vm.findClass own = some m.cls := C.2.2.2.2.1
theorem Core.since (C : Core p l e R s m args below meth c bs ml ret nm own Z a0 EL nw vm T h k n) : ∃ k0, s.Since vm k0 ∧ k0 ≤ h.size := C.2.2.2.2.2.1
theorem Core.chr (C : Core p l e R s m args below meth c bs ml ret nm own Z a0 EL nw vm T h k n) : CHr Z EL s.vm s.heap vm h := C.2.2.2.2.2.2.1
theorem Core.chv (C : Core p l e R s m args below meth c bs ml ret nm own Z a0 EL nw vm T h k n) : CHv Z EL vm h := C.chr.1
theorem Core.old (C : Core p l e R s m args below meth c bs ml ret nm own Z a0 EL nw vm T h k n) : Ext Z.heap h := C.2.2.2.2.2.2.2.1
theorem Core.nwm (C : Core p l e R s m args below meth c bs ml ret nm own Z a0 EL nw vm T h k n) : nw = true → s.WarmedH vm := C.2.2.2.2.2.2.2.2
theorem Core.le (C : Core p l e R s m args below meth c bs ml ret nm own Z a0 EL nw vm T h k n) : Z.heap.size ≤ h.size := C.old.1
end Reads
theorem CHr.step (A : CHr Z EL s.vm s.heap vm h) (B : CHr Z EL vm h vm h') : CHr Z EL s.vm s.heap vm h' := A.trans B
theorem old_keep {ws : List Addr} (O : Ext Z.heap h) (K : Keep h h' ws) (q : ∀ x ∈ ws, Z.heap.size ≤ x) : Ext Z.heap h' :=
  ⟨Nat.le_trans O.1 K.1, fun x c r => K.2.1 x c (O.2 x c r) fun z => absurd (Array.getElem?_eq_some_iff.mp r).1 (Nat.not_lt.mpr (q x z))⟩
theorem keep_of_ext (E : Ext h h') : Keep h h' [] := (Keep.refl h []).ext E
/-- the walk goes on with the same tables behind a step that keeps all but ws -/
theorem Core.on (C : Core p l e R s m args below meth c bs ml ret nm own Z a0 EL nw vm T h k n) {ws : List Addr} {L' : List Loc} (X' : Stand p l e R (s.setVm vm) m args below meth c T' L' k' n') (N : Fr Z.heap.size L') (e' : T'.heap = h') (K : Keep h h' ws) (q : ∀ x ∈ ws, Z.heap.size ≤ x) (S : ∀ x ∈ ws, Safe Z EL vm h x) :
    Core p l e R s m args below meth c bs ml ret nm own Z a0 EL nw vm T' h' k' n' :=
  ⟨C.1, ⟨L', X', N⟩, e', C.warm, C.hown, by obtain ⟨k0, h1, h2⟩ := C.since; exact ⟨k0, h1, Nat.le_trans h2 K.1⟩, CHr.step C.chr (CHr.keep K S C.chv), old_keep C.old K q, C.nwm⟩
theorem Core.same (C : Core p l e R s m args below meth c bs ml ret nm own Z a0 EL nw vm T h k n) {L' : List Loc} (X' : Stand p l e R (s.setVm vm) m args below meth c T' L' k' n') (N : Fr Z.heap.size L') (e' : T'.heap = h) :
    Core p l e R s m args below meth c bs ml ret nm own Z a0 EL nw vm T' h k' n' :=
  C.on (ws := []) X' N e' (Keep.refl _ _) all0 sf0
theorem Core.more (C : Core p l e R s m args below meth c bs ml ret nm own Z a0 EL nw vm T h k n) (hk : k ≤ k') (hn : n ≤ n') : Core p l e R s m args below meth c bs ml ret nm own Z a0 EL nw vm T h k' n' := by
  obtain ⟨h1, ⟨L, X, N⟩, r⟩ := C; exact ⟨h1, ⟨L, X.more hk hn, N⟩, r⟩
/-! ## steps -/
theorem Core.getF (C : Core p l e R s m args below meth c bs ml ret nm own Z a0 EL nw vm T h k n) {O nm' d : String} {ix : Nat} {a : Addr} {v : Value} (w : (Jvm.Cond.fieldLink own ix O nm' d).before a0 Z = true) (f : Fld Z h a O nm' d v) (hd : decode bs pc = .ok (.getfield ix, 3)) (hp : pc + 3 = pc')
    (K : ∀ T', Core p l e R s m args below meth c bs ml ret nm own Z a0 EL nw vm T' h k n → Endw p e below T' (mkF m pc' Ls (v :: rest)) F) : Endw p e below T (mkF m pc Ls (.ref a :: rest)) F := by
  subst hp
  obtain ⟨-, ⟨L, X, N⟩, -⟩ := id C
  obtain ⟨T', X', e', st⟩ := RoadKit.getF X C.hx C.warm C.hown (host := "") (Or.inl w) Via.refl C.heq f (g := mkF m pc Ls (.ref a :: rest)) rfl rfl (C.dec hd)
  exact Endw.st st (K T' (C.same X' N e'))
theorem Core.getFN (C : Core p l e R s m args below meth c bs ml ret nm own Z a0 EL nw vm T h k n) {O nm' d host : String} {ix : Nat} {a : Addr} {v : Value} (w : (Jvm.Cond.fieldLinkNest own ix O nm' d host).before a0 Z = true) (f : Fld Z h a O nm' d v) (hd : decode bs pc = .ok (.getfield ix, 3)) (hp : pc + 3 = pc')
    (K : ∀ T', Core p l e R s m args below meth c bs ml ret nm own Z a0 EL nw vm T' h k n → Endw p e below T' (mkF m pc' Ls (v :: rest)) F) : Endw p e below T (mkF m pc Ls (.ref a :: rest)) F := by
  subst hp
  obtain ⟨-, ⟨L, X, N⟩, -⟩ := id C
  obtain ⟨T', X', e', st⟩ := RoadKit.getF X C.hx C.warm C.hown (Or.inr w) Via.refl C.heq f (g := mkF m pc Ls (.ref a :: rest)) rfl rfl (C.dec hd)
  exact Endw.st st (K T' (C.same X' N e'))
theorem Core.getFV (C : Core p l e R s m args below meth c bs ml ret nm own Z a0 EL nw vm T h k n) {R0 O nm' d : String} {ix : Nat} {a : Addr} {v : Value} (w : (Jvm.Cond.fieldLink own ix R0 nm' d).before a0 Z = true) (via : Via Z R0 O nm' d) (f : Fld Z h a O nm' d v) (hd : decode bs pc = .ok (.getfield ix, 3)) (hp : pc + 3 = pc')
    (K : ∀ T', Core p l e R s m args below meth c bs ml ret nm own Z a0 EL nw vm T' h k n → Endw p e below T' (mkF m pc' Ls (v :: rest)) F) : Endw p e below T (mkF m pc Ls (.ref a :: rest)) F := by
  subst hp
  obtain ⟨-, ⟨L, X, N⟩, -⟩ := id C
  obtain ⟨T', X', e', st⟩ := RoadKit.getF X C.hx C.warm C.hown (host := "") (Or.inl w) via C.heq f (g := mkF m pc Ls (.ref a :: rest)) rfl rfl (C.dec hd)
  exact Endw.st st (K T' (C.same X' N e'))
theorem Core.getS (C : Core p l e R s m args below meth c bs ml ret nm own Z a0 EL nw vm T h k n) {O nm' d : String} {ix : Nat} {v : Value} (w : (Jvm.Cond.fieldLink own ix O nm' d).before a0 Z = true) (f : Sta Z Z.heap O nm' d v) (hd : decode bs pc = .ok (.getstatic ix, 3)) (hp : pc + 3 = pc')
    (K : ∀ T', Core p l e R s m args below meth c bs ml ret nm own Z a0 EL nw vm T' h k n → Endw p e below T' (mkF m pc' Ls (v :: rest)) F) : Endw p e below T (mkF m pc Ls rest) F := by
  subst hp
  obtain ⟨-, ⟨L, X, N⟩, -⟩ := id C
  obtain ⟨T', X', e', st⟩ := RoadKit.getS X C.hx C.warm C.hown (host := "") w Via.refl C.heq (f.ext C.old) (g := mkF m pc Ls rest) rfl (C.dec hd)
  exact Endw.st st (K T' (C.same X' N e'))
theorem Core.putF (C : Core p l e R s m args below meth c bs ml ret nm own Z a0 EL nw vm T h k n) {O nm' d Cl : String} {ix kk : Nat} {a : Addr} {v old : Value} {ty : FieldType} (w : (Jvm.Cond.fieldLink own ix O nm' d).before a0 Z = true) (f : Fld Z h a O nm' d old) (E : Exa Z h a Cl) (la : (Jvm.Cond.lays Cl O nm' d).before a0 Z = true ∨ ((Jvm.Cond.laysFinal Cl O nm' d).before a0 Z = true ∧ own = O ∧ nm = "<init>")) (wi : (Jvm.Cond.instantiable Cl kk).before a0 Z = true)
    (hty : parseFieldDescriptor d = some ty) (hn : narrow ty v = v) (hf : fits ty v = true) (ge : Z.heap.size ≤ a) (sf : Safe Z EL vm h a) (hd : decode bs pc = .ok (.putfield ix, 3)) (hp : pc + 3 = pc')
    (K : ∀ T' h', Core p l e R s m args below meth c bs ml ret nm own Z a0 EL nw vm T' h' k n → Keep h h' [a] → CHr Z EL vm h vm h' → Wr h h' a (RoadKit.slotOf Z O nm' d) v → Endw p e below T' (mkF m pc' Ls rest) F) : Endw p e below T (mkF m pc Ls (v :: .ref a :: rest)) F := by
  subst hp
  obtain ⟨-, ⟨L, X, N⟩, -⟩ := id C
  obtain ⟨T', h', X', e', W, st⟩ := RoadKit.putF X C.hx C.warm C.hown (host := "") (Or.inl w) Via.refl C.heq f E (la.imp id fun q => ⟨q.1, q.2.1, C.nam.trans q.2.2⟩) wi hty hn hf (g := mkF m pc Ls (v :: .ref a :: rest)) rfl rfl (C.dec hd)
  exact Endw.st st (K T' h' (C.on (ws := [a]) X' (N.app fun y hy => by cases List.mem_singleton.mp hy; exact ge) e' (Keep.of_wr W) (allS ge all0) (sfS sf sf0)) (Keep.of_wr W) (CHr.keep (Keep.of_wr W) (sfS sf sf0) C.chv) W)
theorem Core.new (C : Core p l e R s m args below meth c bs ml ret nm own Z a0 EL nw vm T h k n) {Cl : String} {ix nn : Nat} (w : (Jvm.Cond.classLink own ix Cl).before a0 Z = true) (wi : (Jvm.Cond.instantiable Cl nn).before a0 Z = true) (wz : (Jvm.Cond.initialized Cl).before a0 Z = true) (hd : decode bs pc = .ok (.new ix, 3)) (hp : pc + 3 = pc') (hk : k + 1 ≤ R.cells) (hn : n + nn ≤ R.slots)
    (K : ∀ T' h' x, Core p l e R s m args below meth c bs ml ret nm own Z a0 EL nw vm T' h' (k + 1) (n + nn) → Keep h h' [] → CHr Z EL vm h vm h' → h.size ≤ x → Z.heap.size ≤ x → Exa Z h' x Cl → (∀ {O nm d : String} {ty : FieldType}, Laid Z a0 Cl O nm d → parseFieldDescriptor d = some ty → Fld Z h' x O nm d (defaultValue ty)) → Safe Z EL vm h' x → Endw p e below T' (mkF m pc' Ls (.ref x :: rest)) F) : Endw p e below T (mkF m pc Ls rest) F := by
  subst hp
  obtain ⟨-, ⟨L, X, N⟩, -⟩ := id C
  obtain ⟨T', h', X', e', E, A, D, -, st⟩ := RoadKit.newO X C.hx C.warm C.hown w wi wz C.heq (g := mkF m pc Ls rest) rfl (C.dec hd) hk hn
  exact Endw.st st (K T' h' h.size (C.on (ws := []) X' N e' (keep_of_ext E) all0 sf0) (keep_of_ext E) (CHr.keep (keep_of_ext E) sf0 C.chv) (Nat.le_refl _) C.le A D (Safe.ext E C.chv (Safe.new (Nat.le_refl _))))
theorem Core.newA (C : Core p l e R s m args below meth c bs ml ret nm own Z a0 EL nw vm T h k n) {aty : ArrayType} {z : Int32} {cap : Nat} {vs : List Value} (w : (Jvm.Cond.arrayClass (newarray.typeOf aty)).before a0 Z = true) (hd : decode bs pc = .ok (.newarray aty, 2)) (hp : pc + 2 = pc') (hz : ¬ z < 0) (hcap : z.toNatClampNeg ≤ cap) (hb : cap * 8 ≤ 536870912) (hk : k + 1 ≤ R.cells) (hn : n + cap ≤ R.slots) (hvs : vs = List.replicate vs.length (defaultValue (newarray.typeOf aty)))
    (K : ∀ T' h' x kA, Core p l e R s m args below meth c bs ml ret nm own Z a0 EL nw vm T' h' (k + 1) (n + cap) → Keep h h' [] → CHr Z EL vm h vm h' → h.size ≤ x → Z.heap.size ≤ x → Arv Z h' x kA (newarray.typeOf aty) z vs (defaultValue (newarray.typeOf aty)) → Safe Z EL vm h' x → Endw p e below T' (mkF m pc' Ls (.ref x :: rest)) F) : Endw p e below T (mkF m pc Ls (.int z :: rest)) F := by
  subst hp
  obtain ⟨-, ⟨L, X, N⟩, -⟩ := id C
  obtain ⟨T', h', cA, X', e', E, A, st⟩ := RoadKit.newP X C.hx C.warm w C.heq (g := mkF m pc Ls (.int z :: rest)) rfl (C.dec hd) rfl hz hcap hb hk hn
  have q := (Arv.new A hz).pad (vs' := [] ++ List.replicate vs.length (defaultValue (newarray.typeOf aty))) (pad_rep _ _ _)
  rw [List.nil_append, ← hvs] at q
  exact Endw.st st (K T' h' h.size cA (C.on (ws := []) X' N e' (keep_of_ext E) all0 sf0) (keep_of_ext E) (CHr.keep (keep_of_ext E) sf0 C.chv) (Nat.le_refl _) C.le q (Safe.ext E C.chv (Safe.new (Nat.le_refl _))))
theorem Core.len (C : Core p l e R s m args below meth c bs ml ret nm own Z a0 EL nw vm T h k n) {a : Addr} {kA : ClassId} {ty : FieldType} {z : Int32} {vs : List Value} {dv : Value} (A : Arv Z h a kA ty z vs dv) (hd : decode bs pc = .ok (.arraylength, 1)) (hp : pc + 1 = pc')
    (K : Endw p e below T (mkF m pc' Ls (.int z :: rest)) F) : Endw p e below T (mkF m pc Ls (.ref a :: rest)) F := by
  subst hp
  obtain ⟨-, ⟨L, X, N⟩, -⟩ := id C
  obtain ⟨cl, Ar, -, S, hz, -⟩ := A
  refine Endw.st (fun t r => X.arraylength C.hx (by rw [C.heq]; exact Ar.1) (State.isArrayOf_alike C.warm.alike Ar.2.1) (g := mkF m pc Ls (.ref a :: rest)) rfl rfl (C.dec hd) t r) ?_
  rw [len_of S hz]; exact K
theorem Core.caload (C : Core p l e R s m args below meth c bs ml ret nm own Z a0 EL nw vm T h k n) {a : Addr} {kA : ClassId} {z j : Int32} {vs : List Value} {dv v : Value} (A : Arv Z h a kA .char z vs dv) (hj : ¬ j < 0 ∧ j < z) (hv : vs.getD j.toNatClampNeg dv = v) (hd : decode bs pc = .ok (.caload, 1)) (hp : pc + 1 = pc')
    (K : Endw p e below T (mkF m pc' Ls (v :: rest)) F) : Endw p e below T (mkF m pc Ls (.int j :: .ref a :: rest)) F := by
  subst hp
  obtain ⟨-, ⟨L, X, N⟩, -⟩ := id C
  obtain ⟨cl, Ar, -, S, hz, H, -⟩ := A
  exact Endw.st (fun t r => X.caload C.hx (by rw [C.heq]; exact Ar.1) (State.isArrayOf_alike C.warm.alike Ar.2.1) Ar.2.2 (inb_of S hj) (H.at (inb_of S hj) hv) (g := mkF m pc Ls (.int j :: .ref a :: rest)) rfl rfl (C.dec hd) t r) K
theorem Core.baload (C : Core p l e R s m args below meth c bs ml ret nm own Z a0 EL nw vm T h k n) {a : Addr} {kA : ClassId} {z j : Int32} {vs : List Value} {dv v : Value} (A : Arv Z h a kA .byte z vs dv) (hj : ¬ j < 0 ∧ j < z) (hv : vs.getD j.toNatClampNeg dv = v) (hd : decode bs pc = .ok (.baload, 1)) (hp : pc + 1 = pc')
    (K : Endw p e below T (mkF m pc' Ls (v :: rest)) F) : Endw p e below T (mkF m pc Ls (.int j :: .ref a :: rest)) F := by
  subst hp
  obtain ⟨-, ⟨L, X, N⟩, -⟩ := id C
  obtain ⟨cl, Ar, -, S, hz, H, -⟩ := A
  exact Endw.st (fun t r => X.baloadBytes C.hx (by rw [C.heq]; exact Ar.1) (State.isArrayOf_alike C.warm.alike Ar.2.1) Ar.2.2 (inb_of S hj) (H.at (inb_of S hj) hv) (g := mkF m pc Ls (.int j :: .ref a :: rest)) rfl rfl (C.dec hd) t r) K
theorem Core.aaload (C : Core p l e R s m args below meth c bs ml ret nm own Z a0 EL nw vm T h k n) {a : Addr} {kA : ClassId} {ty : FieldType} {z j : Int32} {vs : List Value} {dv v : Value} (A : Arv Z h a kA ty z vs dv) (hty : ty.isReference = true) (hj : ¬ j < 0 ∧ j < z) (hv : vs.getD j.toNatClampNeg dv = v) (hd : decode bs pc = .ok (.aaload, 1)) (hp : pc + 1 = pc')
    (K : Endw p e below T (mkF m pc' Ls (v :: rest)) F) : Endw p e below T (mkF m pc Ls (.int j :: .ref a :: rest)) F := by
  subst hp
  obtain ⟨-, ⟨L, X, N⟩, -⟩ := id C
  obtain ⟨cl, Ar, -, S, hz, H, -⟩ := A
  exact Endw.st (fun t r => X.aaload C.hx (by rw [C.heq]; exact Ar.1) (State.isArrayOf_alike C.warm.alike Ar.2.1) hty Ar.2.2 (inb_of S hj) (H.at (inb_of S hj) hv) (g := mkF m pc Ls (.int j :: .ref a :: rest)) rfl rfl (C.dec hd) t r) K
theorem Core.castore (C : Core p l e R s m args below meth c bs ml ret nm own Z a0 EL nw vm T h k n) {a : Addr} {kA : ClassId} {z j x x' : Int32} {vs : List Value} {dv : Value} (A : Arv Z h a kA .char z vs dv) (hj : ¬ j < 0 ∧ j < z) (i : Nat) (hi : j.toNatClampNeg = i) (hl : i < vs.length) (hx' : nar .char x = x') (ge : Z.heap.size ≤ a) (hd : decode bs pc = .ok (.castore, 1)) (hp : pc + 1 = pc')
    (K : ∀ T' h', Core p l e R s m args below meth c bs ml ret nm own Z a0 EL nw vm T' h' k n → Keep h h' [a] → CHr Z EL vm h vm h' → Arv Z h' a kA .char z (vs.set i (.int x')) dv → Endw p e below T' (mkF m pc' Ls rest) F) : Endw p e below T (mkF m pc Ls (.int x :: .int j :: .ref a :: rest)) F := by
  subst hp hx'
  obtain ⟨-, ⟨L, X, N⟩, -⟩ := id C
  have sf : Safe Z EL vm h a := Safe.arv C.warm.alike A (by decide)
  obtain ⟨cl, Ar, q1, S, hz, H, G⟩ := A
  obtain ⟨T', h', X', e', W, st⟩ := RoadKit.stC X C.hx C.warm C.heq Ar (inb_of S hj) (g := mkF m pc Ls (.int x :: .int j :: .ref a :: rest)) rfl rfl (C.dec hd)
  exact Endw.st st (K T' h' (C.on (ws := [a]) X' (N.app fun y hy => by cases List.mem_singleton.mp hy; exact ge) e' (Keep.of_wr W) (allS ge all0) (sfS sf sf0)) (Keep.of_wr W) (CHr.keep (Keep.of_wr W) (sfS sf sf0) C.chv) (Arv.set Ar q1 S hz H G (fits_nar_char _) W i hi hl))
theorem Core.bastore (C : Core p l e R s m args below meth c bs ml ret nm own Z a0 EL nw vm T h k n) {a : Addr} {kA : ClassId} {z j x x' : Int32} {vs : List Value} {dv : Value} (A : Arv Z h a kA .byte z vs dv) (hj : ¬ j < 0 ∧ j < z) (i : Nat) (hi : j.toNatClampNeg = i) (hl : i < vs.length) (hx' : nar .byte x = x') (ge : Z.heap.size ≤ a) (sf : Safe Z EL vm h a) (hd : decode bs pc = .ok (.bastore, 1)) (hp : pc + 1 = pc')
    (K : ∀ T' h', Core p l e R s m args below meth c bs ml ret nm own Z a0 EL nw vm T' h' k n → Keep h h' [a] → CHr Z EL vm h vm h' → Arv Z h' a kA .byte z (vs.set i (.int x')) dv → Endw p e below T' (mkF m pc' Ls rest) F) : Endw p e below T (mkF m pc Ls (.int x :: .int j :: .ref a :: rest)) F := by
  subst hp hx'
  obtain ⟨-, ⟨L, X, N⟩, -⟩ := id C
  obtain ⟨cl, Ar, q1, S, hz, H, G⟩ := A
  obtain ⟨T', h', X', e', W, st⟩ := RoadKit.stB X C.hx C.warm C.heq Ar (inb_of S hj) (g := mkF m pc Ls (.int x :: .int j :: .ref a :: rest)) rfl rfl (C.dec hd)
  exact Endw.st st (K T' h' (C.on (ws := [a]) X' (N.app fun y hy => by cases List.mem_singleton.mp hy; exact ge) e' (Keep.of_wr W) (allS ge all0) (sfS sf sf0)) (Keep.of_wr W) (CHr.keep (Keep.of_wr W) (sfS sf sf0) C.chv) (Arv.set Ar q1 S hz H G (fits_nar_byte _) W i hi hl))
/-- Object.<init> -/
theorem Core.initO (C : Core p l e R s m args below meth c bs ml ret nm own Z a0 EL nw vm T h k n) {ix : Nat} {a : Addr} (w1 : (Jvm.Cond.methodLink own ix Lib.objectInit).before a0 Z = true) (w2 : (Jvm.Cond.instanceMethod Lib.objectInit).before a0 Z = true) (w3 : (Jvm.Cond.code Lib.objectInit ⟨#[0xb1]⟩ 1 none).before a0 Z = true) (hsz : Ls.size = ml) (hd : decode bs pc = .ok (.invokespecial ix, 3)) (hp : pc + 3 = pc') (hf : 1 ≤ R.frames) {W : Nat} (hW : (rest.map fun v => v.category).sum ≤ W) (hl : W + 12 ≤ R.locals)
    (K : ∀ T', Core p l e R s m args below meth c bs ml ret nm own Z a0 EL nw vm T' h k n → Endw p e below T' (mkF m pc' Ls rest) F) : Endw p e below T (mkF m pc Ls (.ref a :: rest)) F := by
  subst hp
  obtain ⟨-, ⟨L, X, N⟩, -⟩ := id C
  obtain ⟨T', X', e', st⟩ := RoadKit.initO X C.hx C.warm C.hown w1 w2 w3 C.heq (g := mkF m pc Ls (.ref a :: rest)) rfl (hsz.trans C.mlq.symm) rfl (C.dec hd) hf (W := W) (by show 2 * 0 + _ ≤ _; omega) hl
  exact Endw.st st (K T' (C.same X' N e'))
/-! ## calls by a contract of ours -/
theorem backOwn {y : MethodName} {bytes : ByteArray} {mx : Nat} {rt : Option FieldType} {rm : Room} {len W : Nat} {as' : Array Value} {xs : List Addr} (hM : Met l Z EL nw y bytes mx rt [] rm as' h xs Q) (hZ : Z.Warmed39 vm) (wc : (Jvm.Cond.code y bytes mx rt).before a0 Z = true) (wz : (Jvm.Cond.initialized y.cls).before a0 Z = true) (hf : rm.frames + 1 ≤ R.frames) (hl : W + (mx + 11) + rm.locals ≤ R.locals) (hEL : EW Z a0 EL) (H : CHv Z EL vm h) (hs : ∀ x ∈ xs, x < h.size ∧ Safe Z EL vm h x) :
    BackS l R p e below (s.setVm vm) args y len W (fun A a => a = as' ∧ A.U.heap = h ∧ A.cells + rm.cells ≤ R.cells ∧ A.slots + rm.slots ≤ R.slots)
      (fun A _ v B => ∃ L, (Q v B.U.heap ∧ Fr Z.heap.size L ∧ Ext Z.heap B.U.heap) ∧ B.locs = A.locs ++ L ∧ B.cells = A.cells + rm.cells ∧ B.slots = A.slots + rm.slots ∧ CHr Z EL vm h B.U.vm B.U.heap ∧ (nw = true → (s.setVm vm).WarmedH B.U.vm)) := by
  refine BackS.of_freeW (bytes := bytes) (maxL := mx) (ret := rt) (E := fun _ f o t L i j => i = rm.cells ∧ j = rm.slots ∧ (∃ v, o = .returned v ∧ Q v t.heap ∧ Fr Z.heap.size L ∧ Ext Z.heap t.heap) ∧ CHr Z EL f.vm f.heap t.vm t.heap ∧ (nw = true → f.WarmedH t.vm)) hM hf hl ?_ ?_ (fun _ _ _ _ _ _ _ _ _ => trivial) ?_ ?_
  · intro m' meth' c' A a Y hp
    have hU : Z.Warmed39 A.U.vm := wtrans (s := s.setVm vm) hZ Y.warmed
    refine ⟨?_, mv hU wc, mv hU wz, hp.2.2.1, hp.2.2.2⟩
    show (Jvm.Cond.and _ .tt).before a A.U = true
    rw [Cond.before_and, mv hU wc]; rfl
  · intro m' meth' c' A a g' mk Y hp
    have q := CHv.at Y hZ hEL H
    exact ⟨hp.1, wtrans (s := s.setVm vm) hZ Y.warmed, hp.2.1, q.1, fun x hx => q.safe (hs x hx).1 (hs x hx).2⟩
  · intro a f o t ⟨v, L, h1, h2, h3, h4⟩
    exact ⟨L, _, _, h4, rfl, rfl, ⟨v, h1, h2⟩, h3.1, h3.2⟩
  · intro m' meth' c' A a g' mk v t L i j Y hp _ _ q
    obtain ⟨rfl, rfl, ⟨v', e1, e2⟩, e3, e5⟩ := q
    cases e1
    refine ⟨L, e2, rfl, rfl, rfl, (CHv.at Y hZ hEL H).trans ?_, fun z => State.WarmedH.trans Y.warmed (e5 z)⟩
    have e4 : CHr Z EL A.U.vm A.U.heap t.vm t.heap := e3
    rw [hp.2.1] at e4; exact e4
/-- behind a call by such a contract -/
theorem Core.behind (C : Core p l e R s m args below meth c bs ml ret nm own Z a0 EL nw vm T h k n) {B : Pt} {L L' : List Loc} (X' : Stand p l e R ((s.setVm vm).setVm B.U.vm) m args below meth c B.U B.locs B.cells B.slots) (h2 : (s.setVm vm).Since B.U.vm B.U.heap.size) (N : Fr Z.heap.size L) (N' : Fr Z.heap.size L') (O : Ext Z.heap B.U.heap) (e1 : B.locs = L ++ L') (e2 : B.cells = k') (e3 : B.slots = n') (A : CHr Z EL vm h B.U.vm B.U.heap) (M : nw = true → (s.setVm vm).WarmedH B.U.vm) :
    Core p l e R s m args below meth c bs ml ret nm own Z a0 EL nw B.U.vm B.U B.U.heap k' n' := by
  subst e2 e3
  obtain ⟨k0, hS, hk⟩ := C.since
  obtain ⟨r1, r2, r3, r4⟩ := rebS hS hk X' h2 A.2.1 C.warm C.hown
  exact ⟨C.1, ⟨_, r1, e1 ▸ N.app N'⟩, rfl, r3, r4, ⟨_, r2, Nat.le_refl _⟩, C.chr.trans A, O, fun z => State.WarmedH.trans (C.nwm z) (M z)⟩
theorem Core.special (C : Core p l e R s m args below meth c bs ml ret nm own Z a0 EL nw vm T h k n) {y : MethodName} {ix : Nat} {bytes : ByteArray} {mx : Nat} {rm : Room} {xs : List Addr} {W : Nat} {a : Addr} {argsL st : List Value} {as' : Array Value} (hy1 : y.name = "<init>")
    (w1 : (Jvm.Cond.methodLink own ix y).before a0 Z = true) (w2 : (Jvm.Cond.instanceMethod y).before a0 Z = true) (w3 : (Jvm.Cond.code y bytes mx none).before a0 Z = true) (w4 : (Jvm.Cond.initialized y.cls).before a0 Z = true) (hy : y.cls ≠ "java/lang/invoke/MethodHandle" ∧ y.cls ≠ "java/lang/invoke/VarHandle")
    (hM : Met l Z EL nw y bytes mx none [] rm as' h xs Q) (has : as' = (.ref a :: argsL).toArray) (hs : ∀ x ∈ xs, x < h.size ∧ Safe Z EL vm h x) (hf : rm.frames + 1 ≤ R.frames) (hl : W + (mx + 11) + rm.locals ≤ R.locals) (hk : k + rm.cells ≤ R.cells) (hn : n + rm.slots ≤ R.slots)
    (hlen : ∀ sig, parseMethodDescriptor y.desc = some sig → argsL.length = sig.parameters.length) (hst : st = argsL.reverse ++ .ref a :: rest) (hW : (rest.map fun v => v.category).sum ≤ W) (hsz : Ls.size = ml) (hd : decode bs pc = .ok (.invokespecial ix, 3)) (hp : pc + 3 = pc')
    (K : ∀ vm' T' h' v, Core p l e R s m args below meth c bs ml ret nm own Z a0 EL nw vm' T' h' (k + rm.cells) (n + rm.slots) → CHr Z EL vm h vm' h' → Q v h' → Endw p e below T' (mkF m pc' Ls (v.toList ++ rest)) F) : Endw p e below T (mkF m pc Ls st) F := by
  subst hp has
  obtain ⟨-, ⟨L, X, N⟩, -⟩ := id C
  obtain ⟨v, vm₁, B, -, X', h2, -, ⟨L', ⟨q1, q2, q3⟩, e1, e2, e3, A, M⟩, st'⟩ := X.specialBackS C.hx (y := y) hy1 C.hown (mvT C.warm w1) (mvT C.warm w2) (mvT C.warm w3) hy (backOwn (W := W) hM C.warm w3 w4 hf hl C.ew C.chv hs) (g := mkF m pc Ls st) rfl (hsz.trans C.mlq.symm) (Steps.refl _) (a := a) (argsL := argsL) (rest := rest) hlen hst (by show 2 * 0 + _ ≤ _; omega) (C.dec hd) (fun _ _ => ⟨rfl, C.heq, hk, hn⟩)
  exact Endw.ste st' (K _ _ _ v (C.behind X' h2 N q2 q3 e1 e2 e3 A M) A q1)
theorem Core.static (C : Core p l e R s m args below meth c bs ml ret nm own Z a0 EL nw vm T h k n) {y : MethodName} {ix : Nat} {bytes : ByteArray} {mx : Nat} {rt : Option FieldType} {rm : Room} {xs : List Addr} {W : Nat} {argsL st : List Value} {as' : Array Value}
    (w1 : (Jvm.Cond.methodLink own ix y).before a0 Z = true) (w2 : (Jvm.Cond.static y).before a0 Z = true) (w3 : (Jvm.Cond.code y bytes mx rt).before a0 Z = true) (w4 : (Jvm.Cond.initialized y.cls).before a0 Z = true) (hy : y.cls ≠ "java/lang/invoke/MethodHandle" ∧ y.cls ≠ "java/lang/invoke/VarHandle")
    (hM : Met l Z EL nw y bytes mx rt [] rm as' h xs Q) (has : as' = argsL.toArray) (hs : ∀ x ∈ xs, x < h.size ∧ Safe Z EL vm h x) (hf : rm.frames + 1 ≤ R.frames) (hl : W + (mx + 11) + rm.locals ≤ R.locals) (hk : k + rm.cells ≤ R.cells) (hn : n + rm.slots ≤ R.slots)
    (hlen : ∀ sig, parseMethodDescriptor y.desc = some sig → argsL.length = sig.parameters.length) (hst : st = argsL.reverse ++ rest) (hW : (rest.map fun v => v.category).sum ≤ W) (hsz : Ls.size = ml) (hd : decode bs pc = .ok (.invokestatic ix, 3)) (hp : pc + 3 = pc')
    (K : ∀ vm' T' h' v, Core p l e R s m args below meth c bs ml ret nm own Z a0 EL nw vm' T' h' (k + rm.cells) (n + rm.slots) → CHr Z EL vm h vm' h' → Q v h' → Endw p e below T' (mkF m pc' Ls (v.toList ++ rest)) F) : Endw p e below T (mkF m pc Ls st) F := by
  subst hp has
  obtain ⟨-, ⟨L, X, N⟩, -⟩ := id C
  obtain ⟨v, vm₁, B, -, X', h2, -, ⟨L', ⟨q1, q2, q3⟩, e1, e2, e3, A, M⟩, st'⟩ := RoadKit.callSS X C.hx (y := y) C.hown (mvT C.warm w1) (mvT C.warm w2) (mvT C.warm w4) (mvT C.warm w3) hy (backOwn (W := W) hM C.warm w3 w4 hf hl C.ew C.chv hs) (g := mkF m pc Ls st) rfl (hsz.trans C.mlq.symm) (argsL := argsL) (rest := rest) hlen hst (by show 2 * 0 + _ ≤ _; omega) (C.dec hd) (fun _ _ => ⟨rfl, C.heq, hk, hn⟩)
  exact Endw.ste st' (K _ _ _ v (C.behind X' h2 N q2 q3 e1 e2 e3 A M) A q1)
theorem Core.virtual (C : Core p l e R s m args below meth c bs ml ret nm own Z a0 EL nw vm T h k n) {y z : MethodName} {Cl : String} {ix : Nat} {bytes : ByteArray} {mx : Nat} {rt : Option FieldType} {rm : Room} {xs : List Addr} {W : Nat} {a : Addr} {argsL st : List Value} {as' : Array Value}
    (w1 : (Jvm.Cond.methodLink own ix y).before a0 Z = true) (w2 : (Jvm.Cond.declares y).before a0 Z = true) (hnf : ∀ U : State, Z.Warmed39 U.vm → NotFace U y) (w5 : (Jvm.Cond.selects Cl y z).before a0 Z = true) (w6 : (Jvm.Cond.instanceMethod z).before a0 Z = true) (w3 : (Jvm.Cond.code z bytes mx rt).before a0 Z = true) (w4 : (Jvm.Cond.initialized z.cls).before a0 Z = true) (hy : y.cls ≠ "java/lang/invoke/MethodHandle" ∧ y.cls ≠ "java/lang/invoke/VarHandle")
    (hM : Met l Z EL nw z bytes mx rt [] rm as' h xs Q) (has : as' = (.ref a :: argsL).toArray) (E : Exa Z h a Cl) (hs : ∀ x ∈ xs, x < h.size ∧ Safe Z EL vm h x) (hf : rm.frames + 1 ≤ R.frames) (hl : W + (mx + 11) + rm.locals ≤ R.locals) (hk : k + rm.cells ≤ R.cells) (hn : n + rm.slots ≤ R.slots)
    (hlen : ∀ sig, parseMethodDescriptor y.desc = some sig → argsL.length = sig.parameters.length) (hst : st = argsL.reverse ++ .ref a :: rest) (hW : (rest.map fun v => v.category).sum ≤ W) (hsz : Ls.size = ml) (hd : decode bs pc = .ok (.invokevirtual ix, 3)) (hp : pc + 3 = pc')
    (K : ∀ vm' T' h' v, Core p l e R s m args below meth c bs ml ret nm own Z a0 EL nw vm' T' h' (k + rm.cells) (n + rm.slots) → CHr Z EL vm h vm' h' → Q v h' → Endw p e below T' (mkF m pc' Ls (v.toList ++ rest)) F) : Endw p e below T (mkF m pc Ls st) F := by
  subst hp has
  obtain ⟨-, ⟨L, X, N⟩, -⟩ := id C
  obtain ⟨cq, kq, qa, qb, qc⟩ := isOf (s := s.setVm vm) C.warm C.heq E
  obtain ⟨v, vm₁, B, -, X', h2, -, ⟨L', ⟨q1, q2, q3⟩, e1, e2, e3, A, M⟩, st'⟩ := X.virtualBackS C.hx (y := y) (z := z) C.hown (mvT C.warm w1) (mvT C.warm w2) (hnf _ (show Z.Warmed39 (s.setVm vm).vm from C.warm)) (mvT C.warm w5) (mvT C.warm w6) hy (backOwn (W := W) hM C.warm w3 w4 hf hl C.ew C.chv hs) qa qc (g := mkF m pc Ls st) rfl (hsz.trans C.mlq.symm) (Steps.refl _) (argsL := argsL) (rest := rest) hlen hst (by show 2 * 0 + _ ≤ _; omega) (C.dec hd) (fun _ _ => ⟨rfl, C.heq, hk, hn⟩)
  exact Endw.ste st' (K _ _ _ v (C.behind X' h2 N q2 q3 e1 e2 e3 A M) A q1)
/-! ## calls by a law of the library's (it interns nothing) -/
theorem Core.behindF (C : Core p l e R s m args below meth c bs ml ret nm own Z a0 EL nw vm T h k n) {B : Pt} {L L' : List Loc} {ws : List Addr} (X' : Stand p l e R (s.setVm vm) m args below meth c B.U B.locs B.cells B.slots) (N : Fr Z.heap.size L) (N' : Fr Z.heap.size L') (K : Keep h B.U.heap ws) (ge : ∀ x ∈ ws, Z.heap.size ≤ x) (S : ∀ x ∈ ws, Safe Z EL vm h x) (e1 : B.locs = L ++ L') (e2 : B.cells = k') (e3 : B.slots = n') :
    Core p l e R s m args below meth c bs ml ret nm own Z a0 EL nw vm B.U B.U.heap k' n' := by
  subst e2 e3
  exact C.on X' (e1 ▸ N.app N') rfl K ge S
theorem Core.specialF (C : Core p l e R s m args below meth c bs ml ret nm own Z a0 EL nw vm T h k n) {y : MethodName} {ix : Nat} {bytes : ByteArray} {mx ck cn : Nat} {ws : List Addr} {W : Nat} {a : Addr} {argsL st : List Value} {as' : Array Value} {Qf : Option Value → Heap → List Loc → Prop} (hy1 : y.name = "<init>")
    (w1 : (Jvm.Cond.methodLink own ix y).before a0 Z = true) (w2 : (Jvm.Cond.instanceMethod y).before a0 Z = true) (w3 : (Jvm.Cond.code y bytes mx none).before a0 Z = true) (hy : y.cls ≠ "java/lang/invoke/MethodHandle" ∧ y.cls ≠ "java/lang/invoke/VarHandle")
    (hK : Back l R p e below (s.setVm vm) args y 3 W (fun P a => a = as' ∧ P.U.heap = h ∧ P.cells + ck ≤ R.cells ∧ P.slots + cn ≤ R.slots) (fun P _ v B => ∃ L, Qf v B.U.heap L ∧ B.locs = P.locs ++ L ∧ B.cells = P.cells + ck ∧ B.slots = P.slots + cn))
    (hQ : ∀ v h' L, Qf v h' L → Fr Z.heap.size L ∧ Keep h h' ws) (ge : ∀ x ∈ ws, Z.heap.size ≤ x) (S : ∀ x ∈ ws, Safe Z EL vm h x) (has : as' = (.ref a :: argsL).toArray) (hk : k + ck ≤ R.cells) (hn : n + cn ≤ R.slots)
    (hlen : ∀ sig, parseMethodDescriptor y.desc = some sig → argsL.length = sig.parameters.length) (hst : st = argsL.reverse ++ .ref a :: rest) (hW : (rest.map fun v => v.category).sum ≤ W) (hsz : Ls.size = ml) (hd : decode bs pc = .ok (.invokespecial ix, 3)) (hp : pc + 3 = pc')
    (K : ∀ T' h' v, Core p l e R s m args below meth c bs ml ret nm own Z a0 EL nw vm T' h' (k + ck) (n + cn) → Keep h h' ws → CHr Z EL vm h vm h' → (∃ L, Qf v h' L) → Endw p e below T' (mkF m pc' Ls (v.toList ++ rest)) F) : Endw p e below T (mkF m pc Ls st) F := by
  subst hp has
  obtain ⟨-, ⟨L, X, N⟩, -⟩ := id C
  obtain ⟨v, vm₁, B, -, X', ⟨L', q1, e1, e2, e3⟩, st'⟩ := X.specialBack C.hx (y := y) hy1 C.hown (mvT C.warm w1) (mvT C.warm w2) (mvT C.warm w3) hy hK (g := mkF m pc Ls st) rfl (hsz.trans C.mlq.symm) (Steps.refl _) (a := a) (argsL := argsL) (rest := rest) hlen hst (by show 2 * 0 + _ ≤ _; omega) (C.dec hd) (fun _ _ => ⟨rfl, C.heq, hk, hn⟩)
  obtain ⟨r1, r2⟩ := hQ _ _ _ q1
  exact Endw.ste st' (K _ _ v (C.behindF X' N r1 r2 ge S e1 e2 e3) r2 (CHr.keep r2 S C.chv) ⟨_, q1⟩)
theorem Core.staticF (C : Core p l e R s m args below meth c bs ml ret nm own Z a0 EL nw vm T h k n) {y : MethodName} {ix : Nat} {bytes : ByteArray} {mx ck cn : Nat} {rt : Option FieldType} {ws : List Addr} {W : Nat} {argsL st : List Value} {as' : Array Value} {Qf : Option Value → Heap → List Loc → Prop}
    (w1 : (Jvm.Cond.methodLink own ix y).before a0 Z = true) (w2 : (Jvm.Cond.static y).before a0 Z = true) (w3 : (Jvm.Cond.code y bytes mx rt).before a0 Z = true) (w4 : (Jvm.Cond.initialized y.cls).before a0 Z = true) (hy : y.cls ≠ "java/lang/invoke/MethodHandle" ∧ y.cls ≠ "java/lang/invoke/VarHandle")
    (hK : Back l R p e below (s.setVm vm) args y 3 W (fun P a => a = as' ∧ P.U.heap = h ∧ P.cells + ck ≤ R.cells ∧ P.slots + cn ≤ R.slots) (fun P _ v B => ∃ L, Qf v B.U.heap L ∧ B.locs = P.locs ++ L ∧ B.cells = P.cells + ck ∧ B.slots = P.slots + cn))
    (hQ : ∀ v h' L, Qf v h' L → Fr Z.heap.size L ∧ Keep h h' ws) (ge : ∀ x ∈ ws, Z.heap.size ≤ x) (S : ∀ x ∈ ws, Safe Z EL vm h x) (has : as' = argsL.toArray) (hk : k + ck ≤ R.cells) (hn : n + cn ≤ R.slots)
    (hlen : ∀ sig, parseMethodDescriptor y.desc = some sig → argsL.length = sig.parameters.length) (hst : st = argsL.reverse ++ rest) (hW : (rest.map fun v => v.category).sum ≤ W) (hsz : Ls.size = ml) (hd : decode bs pc = .ok (.invokestatic ix, 3)) (hp : pc + 3 = pc')
    (K : ∀ T' h' v, Core p l e R s m args below meth c bs ml ret nm own Z a0 EL nw vm T' h' (k + ck) (n + cn) → Keep h h' ws → CHr Z EL vm h vm h' → (∃ L, Qf v h' L) → Endw p e below T' (mkF m pc' Ls (v.toList ++ rest)) F) : Endw p e below T (mkF m pc Ls st) F := by
  subst hp has
  obtain ⟨-, ⟨L, X, N⟩, -⟩ := id C
  obtain ⟨v, vm₁, B, -, X', ⟨L', q1, e1, e2, e3⟩, st'⟩ := Jvm.LawKit.callS X C.hx (y := y) C.hown (mvT C.warm w1) (mvT C.warm w2) (mvT C.warm w4) (mvT C.warm w3) hy hK (g := mkF m pc Ls st) rfl (hsz.trans C.mlq.symm) (argsL := argsL) (rest := rest) hlen hst (by show 2 * 0 + _ ≤ _; omega) (C.dec hd) (fun _ _ => ⟨rfl, C.heq, hk, hn⟩)
  obtain ⟨r1, r2⟩ := hQ _ _ _ q1
  exact Endw.st st' (K _ _ v (C.behindF X' N r1 r2 ge S e1 e2 e3) r2 (CHr.keep r2 S C.chv) ⟨_, q1⟩)
theorem Core.virtualF (C : Core p l e R s m args below meth c bs ml ret nm own Z a0 EL nw vm T h k n) {y z : MethodName} {Cl : String} {ix ck cn : Nat} {ws : List Addr} {W : Nat} {a : Addr} {argsL st : List Value} {as' : Array Value} {Qf : Option Value → Heap → List Loc → Prop}
    (w1 : (Jvm.Cond.methodLink own ix y).before a0 Z = true) (w2 : (Jvm.Cond.declares y).before a0 Z = true) (hnf : ∀ U : State, Z.Warmed39 U.vm → NotFace U y) (w5 : (Jvm.Cond.selects Cl y z).before a0 Z = true) (w6 : (Jvm.Cond.instanceMethod z).before a0 Z = true) (hy : y.cls ≠ "java/lang/invoke/MethodHandle" ∧ y.cls ≠ "java/lang/invoke/VarHandle")
    (hK : Back l R p e below (s.setVm vm) args z 3 W (fun P a => a = as' ∧ P.U.heap = h ∧ P.cells + ck ≤ R.cells ∧ P.slots + cn ≤ R.slots) (fun P _ v B => ∃ L, Qf v B.U.heap L ∧ B.locs = P.locs ++ L ∧ B.cells = P.cells + ck ∧ B.slots = P.slots + cn))
    (hQ : ∀ v h' L, Qf v h' L → Fr Z.heap.size L ∧ Keep h h' ws) (ge : ∀ x ∈ ws, Z.heap.size ≤ x) (S : ∀ x ∈ ws, Safe Z EL vm h x) (has : as' = (.ref a :: argsL).toArray) (E : Exa Z h a Cl) (hk : k + ck ≤ R.cells) (hn : n + cn ≤ R.slots)
    (hlen : ∀ sig, parseMethodDescriptor y.desc = some sig → argsL.length = sig.parameters.length) (hst : st = argsL.reverse ++ .ref a :: rest) (hW : (rest.map fun v => v.category).sum ≤ W) (hsz : Ls.size = ml) (hd : decode bs pc = .ok (.invokevirtual ix, 3)) (hp : pc + 3 = pc')
    (K : ∀ T' h' v, Core p l e R s m args below meth c bs ml ret nm own Z a0 EL nw vm T' h' (k + ck) (n + cn) → Keep h h' ws → CHr Z EL vm h vm h' → (∃ L, Qf v h' L) → Endw p e below T' (mkF m pc' Ls (v.toList ++ rest)) F) : Endw p e below T (mkF m pc Ls st) F := by
  subst hp has
  obtain ⟨-, ⟨L, X, N⟩, -⟩ := id C
  obtain ⟨cq, kq, qa, qb, qc⟩ := isOf (s := s.setVm vm) C.warm C.heq E
  obtain ⟨v, vm₁, B, -, X', ⟨L', q1, e1, e2, e3⟩, st'⟩ := X.virtualBack C.hx (y := y) (z := z) C.hown (mvT C.warm w1) (mvT C.warm w2) (hnf _ (show Z.Warmed39 (s.setVm vm).vm from C.warm)) (mvT C.warm w5) (mvT C.warm w6) hy hK qa qc (g := mkF m pc Ls st) rfl (hsz.trans C.mlq.symm) (Steps.refl _) (argsL := argsL) (rest := rest) hlen hst (by show 2 * 0 + _ ≤ _; omega) (C.dec hd) (fun _ _ => ⟨rfl, C.heq, hk, hn⟩)
  obtain ⟨r1, r2⟩ := hQ _ _ _ q1
  exact Endw.ste st' (K _ _ v (C.behindF X' N r1 r2 ge S e1 e2 e3) r2 (CHr.keep r2 S C.chv) ⟨_, q1⟩)
/-! ## the head and the end of a body -/
theorem Met.of {y : MethodName} {bytes : ByteArray} {mx : Nat} {rt : Option FieldType} {ws : List Jvm.Cond} {rm : Room} {as' : Array Value} {xs : List Addr} (hy : plainFor y = true) (hEL : EW Z a0 EL) (O : Ext Z.heap h)
    (body : ∀ p e s m below meth c T, Core p l e rm s m as' below meth c bytes mx rt y.name y.cls Z a0 EL nw s.vm T h 0 0 → (∀ x ∈ xs, Safe Z EL s.vm h x) → Endw p e below T (entryFrame m as' mx) (Fin s Z EL nw Q rm.cells rm.slots)) :
    Met l Z EL nw y bytes mx rt ws rm as' h xs Q := by
  refine MetFree.of_bodySF hy hisR ?_
  intro p e s m args below meth c s₁ Bd hml hP hK
  obtain ⟨rfl, hZ, hh, hC, hS⟩ := hP
  have X0 : Stand p l e rm s m args below meth c s₁ [] 0 0 := Stand.of_body Bd
  have e0 : s₁.heap = h := by rw [← hh, Bd.state]; rfl
  have hC' : CHv Z EL s.vm s.heap := by rw [hh]; exact hC
  refine body p e s m below meth c s₁ ⟨⟨Bd.exec, Bd.bytes, hml, Bd.returns, BodyLoose.notSynchronized Bd, (name_of_methodNamed Bd.named Bd.method).1, hEL⟩, ⟨[], X0, Fr.nil _⟩, e0, hZ, findClass_of_methodNamed Bd.named, ⟨s.heap.size, (State.WarmedH.refl s).since _, by rw [hh]; exact Nat.le_refl _⟩, ?_, O, fun _ => State.WarmedH.refl s⟩ hS
  rw [← hh]; exact CHr.refl hC'
theorem Core.leave (C : Core p l e R s m args below meth c bs ml ret nm own Z a0 EL nw vm T h k n) {K N : Nat} {v : Option Value} (hv : ret = none → v = none) (hk : k ≤ K) (hn : n ≤ N) (q : Q v h) (st : ∀ {L : List Loc} {vm' : Vm}, Stand p l e R (s.setVm vm') m args below meth c T L k n → ∀ fs, (∀ (f : JFrame) (acts : List Action), f.method = m → f.locked = none → f.entered = [] → (doReturn e (T.setTop f) acts v).1 = T.setFrames fs) → Steps p.tables e below (T.setTop g) (T.setFrames fs)) :
    Endw p e below T g (Fin s Z EL nw Q K N) := by
  obtain ⟨-, ⟨L, X, NL⟩, -⟩ := id C
  obtain ⟨k0, hS, hk0⟩ := C.since
  have hk1 : k0 ≤ T.heap.size := by rw [C.heq]; exact hk0
  obtain ⟨fs, h1, h2, h3, h4, h5, h6, h7⟩ := X.leaveW hS hk1 (v := v) (fun hr => hv (C.rtq.symm.trans hr)) C.locks
  have e1 : (T.setFrames fs).heap = h := C.heq
  refine ⟨_, _, st X fs h1, h2, h3, v, L, rfl, ⟨by rw [e1]; exact q, NL, by rw [e1]; exact C.old⟩, ⟨?_, fun z => State.WarmedH.trans (C.nwm z) X.warmed⟩, h4, h5, h6, h7.mono hk hn⟩
  have A := C.chr.trans (CHv.at X C.warm C.ew C.chv)
  rw [e1]; exact A
theorem Core.retV (C : Core p l e R s m args below meth c bs ml none nm own Z a0 EL nw vm T h k n) {K N : Nat} (hd : decode bs pc = .ok (.return_, 1)) (hk : k ≤ K) (hn : n ≤ N) (q : Q none h) : Endw p e below T (mkF m pc Ls []) (Fin s Z EL nw Q K N) :=
  C.leave (fun _ => rfl) hk hn q fun X fs hl => X.returnOut C.hx C.rtq (C.dec hd) hl
theorem Core.retX (C : Core p l e R s m args below meth c bs ml ret nm own Z a0 EL nw vm T h k n) {K N : Nat} {t : FieldType} {w : Value} {i : Instr} (hr : ret = some t) (hn' : narrow t w = w) (hi : (i = .ireturn ∧ (t = .int ∨ t = .boolean ∨ t = .byte ∨ t = .char ∨ t = .short) ∧ ∃ z, w = .int z) ∨ (i = .lreturn ∧ t = .long ∧ ∃ z, w = .long z) ∨ (i = .dreturn ∧ t = .double ∧ ∃ z, w = .double z) ∨ (i = .freturn ∧ t = .float ∧ ∃ z, w = .float z) ∨ (i = .areturn ∧ t.isReference = true ∧ w.isRef = true))
    (hd : decode bs pc = .ok (i, 1)) (hk : k ≤ K) (hn : n ≤ N) (q : Q (some w) h) : Endw p e below T (mkF m pc Ls (w :: rest)) (Fin s Z EL nw Q K N) :=
  C.leave (fun z => by subst hr; cases z) hk hn q fun X fs hl => RoadKit.retOut X C.hx (C.rtq.trans hr) hn' hi (C.dec hd) hl
theorem Core.retI (C : Core p l e R s m args below meth c bs ml ret nm own Z a0 EL nw vm T h k n) {K N : Nat} {t : FieldType} {z : Int32} (hr : ret = some t) (ht : t = .int ∨ t = .boolean ∨ t = .byte ∨ t = .char ∨ t = .short) (hn' : narrow t (.int z) = .int z) (hd : decode bs pc = .ok (.ireturn, 1)) (hk : k ≤ K) (hn : n ≤ N) (q : Q (some (.int z)) h) : Endw p e below T (mkF m pc Ls (.int z :: rest)) (Fin s Z EL nw Q K N) :=
  C.retX hr hn' (Or.inl ⟨rfl, ht, _, rfl⟩) hd hk hn q
theorem Core.retA (C : Core p l e R s m args below meth c bs ml ret nm own Z a0 EL nw vm T h k n) {K N : Nat} {t : FieldType} {w : Value} (hr : ret = some t) (ht : t.isReference = true) (hw : w.isRef = true) (hn' : narrow t w = w) (hd : decode bs pc = .ok (.areturn, 1)) (hk : k ≤ K) (hn : n ≤ N) (q : Q (some w) h) : Endw p e below T (mkF m pc Ls (w :: rest)) (Fin s Z EL nw Q K N) :=
  C.retX hr hn' (Or.inr (Or.inr (Or.inr (Or.inr ⟨rfl, ht, hw⟩)))) hd hk hn q
/-! ## String constants -/
theorem Core.ldcC (C : Core p l e R s m args below meth c bs ml ret nm own Z a0 EL nw vm T h k n) {text : String} {ix N : Nat} {vs : List Value} {z : Int32} (w : (Jvm.Cond.stringLink own ix text).before a0 Z = true) (wS : ∀ a ∈ Bundle.stringAtoms, a.before a0 Z = true) (hmem : (own, ix) ∈ EL) (ht : (∀ c ∈ text.toList, c.toNat < 256) ∧ text.toList.map (fun c => Value.int (Jvm.Lit.byteI c.toNat.toUInt16)) = vs) (hz : ¬ z < 0) (hl : z.toNatClampNeg = vs.length)
    (hN : 4 * text.toList.length ≤ N) (hbig : N ≤ 536870912) (hk : k + 2 ≤ R.cells) (hn : n + (N + 4) ≤ R.slots) (hd : decode bs pc = .ok (.ldc ix, 2)) (hp : pc + 2 = pc') (hnw : nw = false)
    (K : ∀ vm' T' h' a b kA, Core p l e R s m args below meth c bs ml ret nm own Z a0 EL nw vm' T' h' (k + 2) (n + (N + 4)) → Keep h h' [] → CHr Z EL vm h vm' h' → Exa Z h' a "java/lang/String" → Fld Z h' a "java/lang/String" "coder" "B" (.int 0) → Fld Z h' a "java/lang/String" "value" "[B" (.ref b) → Arv Z h' b kA .byte z vs (.int 0) → (∀ x, Safe Z EL vm' h' x → x ≠ a ∧ x ≠ b) → Endw p e below T' (mkF m pc' Ls (.ref a :: rest)) F) : Endw p e below T (mkF m pc Ls rest) F := by
  subst hp
  obtain ⟨-, ⟨L, X, NL⟩, -⟩ := id C
  obtain ⟨k0, hS, hk0⟩ := C.since
  obtain ⟨a, T', h', k1, b, kA, X', e', E, hS', hk1, hZ', hown', r1, r2, r3, r4, -, -, A, -, r5, st⟩ := RoadKit.ldcCH X C.hx C.warm C.hown w wS C.heq hS hk0 C.ew hmem C.chv ht hz hl (g := mkF m pc Ls rest) rfl (C.dec hd) hN hbig hk hn
  exact Endw.st st (K T'.vm T' h' a b kA ⟨C.1, ⟨L, X', NL⟩, e', hZ', hown', ⟨k1, hS', hk1⟩, C.chr.trans A, old_keep C.old (keep_of_ext E) all0, fun z => by rw [hnw] at z; cases z⟩ (keep_of_ext E) A r1 r2 r3 r4 r5)
theorem Core.ldcO (C : Core p l e R s m args below meth c bs ml ret nm own Z a0 EL nw vm T h k n) {text : String} {ix N : Nat} (w : (Jvm.Cond.stringLink own ix text).before a0 Z = true) (wS : ∀ a ∈ Bundle.stringAtoms, a.before a0 Z = true)
    (hN : 4 * text.toList.length ≤ N) (hbig : N ≤ 536870912) (hk : k + 2 ≤ R.cells) (hn : n + (N + 4) ≤ R.slots) (hd : decode bs pc = .ok (.ldc ix, 2)) (hp : pc + 2 = pc') (hnw : nw = false)
    (K : ∀ vm' T' h' a, Core p l e R s m args below meth c bs ml ret nm own Z a0 EL nw vm' T' h' (k + 2) (n + (N + 4)) → Keep h h' [] → CHr Z EL vm h vm' h' → Endw p e below T' (mkF m pc' Ls (.ref a :: rest)) F) : Endw p e below T (mkF m pc Ls rest) F := by
  subst hp
  obtain ⟨-, ⟨L, X, NL⟩, -⟩ := id C
  obtain ⟨k0, hS, hk0⟩ := C.since
  obtain ⟨a, T', h', k1, X', e', E, hS', hk1, hZ', hown', A, -, st⟩ := RoadKit.ldcOH X C.hx C.warm C.hown w wS C.heq hS hk0 C.ew C.chv (g := mkF m pc Ls rest) rfl (C.dec hd) hN hbig hk hn
  exact Endw.st st (K T'.vm T' h' a ⟨C.1, ⟨L, X', NL⟩, e', hZ', hown', ⟨k1, hS', hk1⟩, C.chr.trans A, old_keep C.old (keep_of_ext E) all0, fun z => by rw [hnw] at z; cases z⟩ (keep_of_ext E) A)
end Walk
end Jvm.Own
namespace Jvm.Own
open Jvm Jvm.ClassFile Sem Op Lib Jvm.Free Jvm.Stand Jvm.LawKit Jvm.RoadKit Bundle
section Help
variable {p : Program} {l : Launch} {e : Env} {R : Room} {s : State} {m : MethodId} {args : Array Value} {below : List Frame} {meth : Method} {c : Code}
variable {bs : ByteArray} {ml : Nat} {ret : Option FieldType} {nm own : String} {Z : State} {a0 : Array Value} {EL : List (String × Nat)} {nw : Bool} {vm : Vm} {T T' : State} {h h' : Heap} {k n : Nat} {g : JFrame} {rest : List Value}
theorem own_irem (C : Core p l e R s m args below meth c bs ml ret nm own Z a0 EL nw vm T h k n) {x y : Int32} {target : State} (hg : g.method = m) (hd : decode bs g.pc = .ok (.irem, 1)) (hs : g.stack = .int y :: .int x :: rest) (hy : y ≠ 0) (hr : Steps p.tables e below (T.setTop { g with pc := g.pc + 1, stack := .int (x % y) :: rest }) target) : Steps p.tables e below (T.setTop g) target := by
  obtain ⟨-, ⟨L, X, -⟩, -⟩ := id C
  exact iremM X C.hx hg (C.dec hd) hs hy hr
theorem own_ldcI (C : Core p l e R s m args below meth c bs ml ret nm own Z a0 EL nw vm T h k n) {ix : Nat} {v : Int32} {target : State} (w : (Jvm.Cond.constant own ix v).before a0 Z = true) (hg : g.method = m) (hd : decode bs g.pc = .ok (.ldc ix, 2)) (hr : Steps p.tables e below (T.setTop { g with pc := g.pc + 2, stack := .int v :: g.stack }) target) : Steps p.tables e below (T.setTop g) target := by
  obtain ⟨-, ⟨L, X, -⟩, -⟩ := id C
  exact X.ldcI C.hx C.hown (mvT C.warm w) hg (C.dec hd) hr
theorem own_nar_mask {x : Int32} : nar .char ((x &&& 255).toUInt32.toUInt16.toUInt32.toInt32) = x &&& 255 := by
  show ((x &&& 255).toUInt32.toUInt16.toUInt32.toInt32).toUInt32.toUInt16.toUInt32.toInt32 = _
  rw [i2c_mask, i2c_mask]
theorem own_toInt {y : Int32} (h : y.toBitVec.toNat < 2147483648) : y.toInt = (y.toBitVec.toNat : Int) := by
  have : y.toInt = y.toBitVec.toInt := rfl
  rw [this, BitVec.toInt_eq_toNat_cond, if_pos (by omega)]
theorem own_and_nat (x m : Int32) : (x &&& m).toBitVec.toNat = x.toBitVec.toNat &&& m.toBitVec.toNat := by simp [Int32.toBitVec_and, BitVec.toNat_and]
theorem own_cI (x : Int32) : (Value.int x).category = 1 := rfl
theorem own_cR (x : Addr) : (Value.ref x).category = 1 := rfl
theorem own_cN : Value.null.category = 1 := rfl
theorem own_cJ (x : Int64) : (Value.long x).category = 2 := rfl
theorem own_cD (x : UInt64) : (Value.double x).category = 2 := rfl
/-- a char of one byte -/
def B8 (c : Int32) : Prop := ¬ c < 0 ∧ ¬ (255 : Int32) < c
theorem own_mask255 (x : Int32) : B8 (x &&& 255) := by
  have e : (x &&& 255).toBitVec.toNat ≤ 255 := by rw [own_and_nat]; exact Nat.and_le_right
  have q := own_toInt (y := x &&& 255) (by omega)
  refine ⟨?_, ?_⟩ <;> rw [Int32.lt_iff_toInt_lt, q]
  · show ¬ (_ < (0 : Int)); omega
  · show ¬ ((255 : Int) < _); omega
theorem own_c0 {P : Int32 → Prop} : ∀ c ∈ ([] : List Int32), P c := fun _ q => nomatch q
theorem own_cS {P : Int32 → Prop} {y : Int32} {L : List Int32} (q : P y) (r : ∀ c ∈ L, P c) : ∀ c ∈ y :: L, P c := fun x z => (List.mem_cons.mp z).elim (fun u => u ▸ q) (r x)
theorem own_nar_ref {v : Value} {t : FieldType} (h : v.isRef = true) (ht : t.isReference = true := by rfl) : narrow t v = v := by
  cases v <;> cases t <;> first | rfl | (cases h; done) | (cases ht; done)
theorem own_fits_ref {v : Value} {t : FieldType} (h : v.isRef = true) (ht : t.isReference = true := by rfl) : fits t v = true := by
  cases v <;> cases t <;> first | rfl | (cases h; done) | (cases ht; done)
theorem own_nar_byte {x : Int32} : nar .byte (x.toInt8.toInt32) = x.toInt8.toInt32 := by
  show (x.toInt8.toInt32).toInt8.toInt32 = _
  simp
/-- the String at a: Latin-1, its byte[] at b, its chars cs -/
def Str (Z : State) (h : Heap) (a b : Addr) (kb : ClassId) (cs : List Int32) : Prop :=
  Exa Z h a "java/lang/String" ∧ Fld Z h a "java/lang/String" "coder" "B" (.int 0) ∧ Fld Z h a "java/lang/String" "value" "[B" (.ref b) ∧
    Arv Z h b kb .byte (Int32.ofNat cs.length) ((cs.map fun c => c.toInt8.toInt32).map Value.int) (.int 0) ∧ (∀ c ∈ cs, B8 c) ∧ cs.length ≤ 4000
theorem Str.keep {a b : Addr} {kb : ClassId} {cs : List Int32} {ws : List Addr} (S : Str Z h a b kb cs) (K : Keep h h' ws) (q1 : a ∉ ws) (q2 : b ∉ ws) : Str Z h' a b kb cs :=
  ⟨S.1.keep K, S.2.1.keep K q1, S.2.2.1.keep K q1, S.2.2.2.1.keep K q2, S.2.2.2.2⟩
theorem own_instanceofNull (C : Core p l e R s m args below meth c bs ml ret nm own Z a0 EL nw vm T h k n) {ix : Nat} {target : State} (hg : g.method = m) (hs : g.stack = .null :: rest) (hd : decode bs g.pc = .ok (.instanceof ix, 3)) (hr : Steps p.tables e below (T.setTop { g with pc := g.pc + 3, stack := .int 0 :: rest }) target) : Steps p.tables e below (T.setTop g) target := by
  obtain ⟨-, ⟨L, X, -⟩, -⟩ := id C
  exact X.instanceofNull C.hx hg hs (C.dec hd) _ hr
theorem own_checkcastNull (C : Core p l e R s m args below meth c bs ml ret nm own Z a0 EL nw vm T h k n) {ix : Nat} {target : State} (hg : g.method = m) (hs : g.stack = .null :: rest) (hd : decode bs g.pc = .ok (.checkcast ix, 3)) (hr : Steps p.tables e below (T.setTop { g with pc := g.pc + 3 }) target) : Steps p.tables e below (T.setTop g) target := by
  obtain ⟨-, ⟨L, X, -⟩, -⟩ := id C
  exact X.checkcastNull C.hx hg hs (C.dec hd) _ hr
theorem own_ldc2J (C : Core p l e R s m args below meth c bs ml ret nm own Z a0 EL nw vm T h k n) {ix : Nat} {v : Int64} {target : State} (w : (Jvm.Cond.constantLong own ix v).before a0 Z = true) (hg : g.method = m) (hd : decode bs g.pc = .ok (.ldc2_w ix, 3)) (hr : Steps p.tables e below (T.setTop { g with pc := g.pc + 3, stack := .long v :: g.stack }) target) : Steps p.tables e below (T.setTop g) target := by
  obtain ⟨-, ⟨L, X, -⟩, -⟩ := id C
  exact X.ldc2J C.hx C.hown (mvT C.warm w) hg (C.dec hd) hr
variable {F : Outcome → State → Prop} {pc pc' : Nat} {Ls : Array Slot}
theorem Core.instY (C : Core p l e R s m args below meth c bs ml ret nm own Z a0 EL nw vm T h k n) {K : String} {ix : Nat} {a : Addr} (w : (Jvm.Cond.classLink own ix K).before a0 Z = true) (f : Ins Z h a K true) (hd : decode bs pc = .ok (.instanceof ix, 3)) (hp : pc + 3 = pc')
    (Kk : ∀ T', Core p l e R s m args below meth c bs ml ret nm own Z a0 EL nw vm T' h k n → Endw p e below T' (mkF m pc' Ls (.int 1 :: rest)) F) : Endw p e below T (mkF m pc Ls (.ref a :: rest)) F := by
  subst hp
  obtain ⟨-, ⟨L, X, N⟩, -⟩ := id C
  obtain ⟨T', X', e', st⟩ := RoadKit.instY X C.hx C.warm C.hown w C.heq f (g := mkF m pc Ls (.ref a :: rest)) rfl rfl (C.dec hd)
  exact Endw.st st (Kk T' (C.same X' N e'))
theorem Core.castY (C : Core p l e R s m args below meth c bs ml ret nm own Z a0 EL nw vm T h k n) {K : String} {ix : Nat} {a : Addr} (w : (Jvm.Cond.classLink own ix K).before a0 Z = true) (f : Ins Z h a K true) (hd : decode bs pc = .ok (.checkcast ix, 3)) (hp : pc + 3 = pc')
    (Kk : ∀ T', Core p l e R s m args below meth c bs ml ret nm own Z a0 EL nw vm T' h k n → Endw p e below T' (mkF m pc' Ls (.ref a :: rest)) F) : Endw p e below T (mkF m pc Ls (.ref a :: rest)) F := by
  subst hp
  obtain ⟨-, ⟨L, X, N⟩, -⟩ := id C
  obtain ⟨T', X', e', st⟩ := RoadKit.castY X C.hx C.warm C.hown w C.heq f (g := mkF m pc Ls (.ref a :: rest)) rfl rfl (C.dec hd)
  exact Endw.st st (Kk T' (C.same X' N e'))
theorem Core.instNo (C : Core p l e R s m args below meth c bs ml ret nm own Z a0 EL nw vm T h k n) {K Cl : String} {ix : Nat} {a : Addr} (w : (Jvm.Cond.classLink own ix K).before a0 Z = true) (E : Exa Z h a Cl) (f : ∃ c t, Z.vm.findClass Cl = some c ∧ Z.vm.findClass K = some t ∧ Z.vm.assignable c t = false) (hd : decode bs pc = .ok (.instanceof ix, 3)) (hp : pc + 3 = pc')
    (Kk : ∀ T', Core p l e R s m args below meth c bs ml ret nm own Z a0 EL nw vm T' h k n → Endw p e below T' (mkF m pc' Ls (.int 0 :: rest)) F) : Endw p e below T (mkF m pc Ls (.ref a :: rest)) F := by
  subst hp
  obtain ⟨-, ⟨L, X, N⟩, -⟩ := id C
  obtain ⟨T', X', e', st⟩ := RoadKit.instNo X C.hx C.warm C.hown w C.heq E f (g := mkF m pc Ls (.ref a :: rest)) rfl rfl (C.dec hd)
  exact Endw.st st (Kk T' (C.same X' N e'))
theorem own_found {K : String} {i : Nat} (wk : (Jvm.Cond.instantiable K i).before a0 Z = true) : ∃ t kt, Z.vm.findClass K = some t ∧ Z.vm.classes[t]? = some kt ∧ kt.kind = .ordinary ∧ kt.isInterface = false := by
  obtain ⟨t, kt, h1, h2, h3, h4, -⟩ := Cond.instantiable_spec wk
  exact ⟨t, kt, h1, h2, h3, (Bool.or_eq_false_iff.mp h4).1⟩
theorem own_NSroot {O K : String} {i : Nat} (w : (Jvm.Cond.noSuperclass O).before a0 Z = true) (wk : (Jvm.Cond.instantiable K i).before a0 Z = true) (hn : O ≠ K) : NS Z O K := by
  obtain ⟨c, k, h1, h2, h3, -, -⟩ := Cond.noSuperclass_spec w
  obtain ⟨t, -, g1, -⟩ := own_found wk
  have ne := ids_ne h1 g1 hn
  refine ⟨c, t, h1, g1, fun fuel => ?_⟩
  cases fuel with
  | zero => rfl
  | succ f => simp [Vm.isSubclassAux, ne, h2, h3]
theorem own_NSno {Cl S K : String} {i : Nat} (w : (Jvm.Cond.superclass Cl S).before a0 Z = true) (wk : (Jvm.Cond.instantiable K i).before a0 Z = true) (n : NS Z Cl K) (hn : Cl ≠ K) : ∃ c t, Z.vm.findClass Cl = some c ∧ Z.vm.findClass K = some t ∧ Z.vm.assignable c t = false := by
  obtain ⟨c, t, h0, g0, n3⟩ := n
  obtain ⟨p, k, kp, h1, h2, h3, h4, h5, -, h7⟩ := Cond.superclass_spec h0 w
  obtain ⟨t', kt, g1, g2, g3, g4⟩ := own_found wk
  cases g0.symm.trans g1
  have ne := ids_ne h0 g0 hn
  refine ⟨c, t, h0, g0, ?_⟩
  show Z.vm.assignableAux (255 + 1) c t = false
  simp [Vm.assignableAux, ne, h2, g2, h5, g3, g4, Vm.isSubclass, n3]
end Help
end Jvm.Own
/- laws to paste: Road.backV (cut by pick.py; bodies as the Statement names them) -/
namespace Jvm.Pilot.@@N@@
namespace StrChars
open Jvm Sem ClassFile Op Lib Jvm.Stand Jvm.Free.XT Jvm.Free.ALB Jvm.Free.JM Jvm.Free
open Jvm.Lib.Cold (StaticIs)
/-- a char array whose places are chars -/
def Ch (a : Addr) (A : Cell) (U : State) : Prop := Arr .char a A U ∧ Typed .char A
theorem Ch.mv {a : Addr} {A : Cell} {U U' : State} (h : Ch a A U) (hal : U.vm.Alike U'.vm) (hh : U'.heap = U.heap) : Ch a A U' := ⟨h.1.mv hal hh, h.2⟩
theorem Ch.keep {a : Addr} {A : Cell} {U U' : State} (h : Ch a A U) (hal : U.vm.Alike U'.vm) (hk : U'.heap[a]? = some A) : Ch a A U' := ⟨h.1.keep hal hk, h.2⟩
/-- what place i of a char[]'s cell holds -/
def cv (A : Cell) (i : Nat) : Int32 := match A.slots[i]? with | some (.int x) => x | _ => 0
theorem Ch.get {a : Addr} {A : Cell} {U : State} (h : Ch a A U) {i : Nat} (hi : i < A.slots.size) : A.slots[i]? = some (.int (cv A i)) := by
  have e := Array.getElem?_eq_getElem hi
  have f := h.2 i _ e
  unfold cv; rw [e]
  generalize A.slots[i] = v at f
  cases v <;> simp [fits] at f ⊢
/-- the byte that i2b leaves of a char -/
def lo8 (x : Int32) : Int32 := x.toInt8.toInt32
theorem fits_lo8 (y : Int32) : fits .byte (.int (lo8 y)) = true := by
  have h1 := y.toInt8.le_toInt
  have h2 := y.toInt8.toInt_lt
  simp only [lo8, fits, Bool.and_eq_true, decide_eq_true_eq, Int32.le_iff_toInt_le, Int8.toInt_toInt32, show (-128 : Int32).toInt = -128 from by decide, show (127 : Int32).toInt = 127 from by decide]
  omega
/-- A' is A but that each place j of lo .. hi - 1 holds f j -/
def Laid (A A' : Cell) (lo hi : Nat) (f : Nat → Value) : Prop := A'.cls = A.cls ∧ A'.vm = A.vm ∧ A'.slots.size = A.slots.size ∧ ∀ i, A'.slots[i]? = if lo ≤ i ∧ i < hi then some (f i) else A.slots[i]?
theorem Laid.zero (A : Cell) (lo : Nat) (f : Nat → Value) : Laid A A lo (lo + 0) f := ⟨rfl, rfl, rfl, fun i => by rw [if_neg (by omega)]⟩
theorem Laid.step {A Ak : Cell} {lo k : Nat} {f : Nat → Value} {v : Value} (h : Laid A Ak lo k f) (hlo : lo ≤ k) (hk : k < Ak.slots.size) (hv : v = f k) : Laid A (Ak.setSlot k v) lo (k + 1) f := by
  refine ⟨h.1, h.2.1, by simpa [Cell.setSlot] using h.2.2.1, fun i => ?_⟩
  by_cases e : k = i
  · subst e; rw [Cell.slots_setSlot_self v hk, if_pos (by omega), hv]
  · rw [Cell.slots_setSlot_ne v e, h.2.2.2 i]
    by_cases q : lo ≤ i ∧ i < k
    · rw [if_pos q, if_pos (by omega)]
    · rw [if_neg q, if_neg (by omega)]
def U16 : String := "java/lang/StringUTF16"
namespace Cmp5
def yN : MethodName := ⟨"java/lang/StringUTF16", "compress", "([CI[BII)I"⟩
abbrev yB : ByteArray := jdk_52_method_21_code
theorem d0 : decode yB 0 = .ok (.iconst 0, 1) := by decide +kernel
theorem d1 : decode yB 1 = .ok (.istore 5, 2) := by decide +kernel
theorem d3 : decode yB 3 = .ok (.iload 5, 2) := by decide +kernel
theorem d5 : decode yB 5 = .ok (.iload 4, 2) := by decide +kernel
theorem d7 : decode yB 7 = .ok (.if_icmp (.ge) 37, 3) := by decide +kernel
theorem d10 : decode yB 10 = .ok (.aload_n 0, 1) := by decide +kernel
theorem d11 : decode yB 11 = .ok (.iload_n 1, 1) := by decide +kernel
theorem d12 : decode yB 12 = .ok (.caload, 1) := by decide +kernel
theorem d13 : decode yB 13 = .ok (.istore 6, 2) := by decide +kernel
theorem d15 : decode yB 15 = .ok (.iload 6, 2) := by decide +kernel
theorem d17 : decode yB 17 = .ok (.sipush 255, 3) := by decide +kernel
theorem d20 : decode yB 20 = .ok (.if_icmp (.le) 6, 3) := by decide +kernel
theorem d26 : decode yB 26 = .ok (.aload_n 2, 1) := by decide +kernel
theorem d27 : decode yB 27 = .ok (.iload_n 3, 1) := by decide +kernel
theorem d28 : decode yB 28 = .ok (.iload 6, 2) := by decide +kernel
theorem d30 : decode yB 30 = .ok (.i2b, 1) := by decide +kernel
theorem d31 : decode yB 31 = .ok (.bastore, 1) := by decide +kernel
theorem d32 : decode yB 32 = .ok (.iinc 1 1, 3) := by decide +kernel
theorem d35 : decode yB 35 = .ok (.iinc 3 1, 3) := by decide +kernel
theorem d38 : decode yB 38 = .ok (.iinc 5 1, 3) := by decide +kernel
theorem d41 : decode yB 41 = .ok (.goto (-38), 3) := by decide +kernel
theorem d44 : decode yB 44 = .ok (.iload 4, 2) := by decide +kernel
theorem d46 : decode yB 46 = .ok (.ireturn, 1) := by decide +kernel
def site : List Cond := []
def tab : Cond := tabOf yN yB 7 (some .int) site
def P (b : Addr) (A : Cell) (d : Addr) (B : Cell) (o q len : Nat) (args : Array Value) (s : State) : Prop := args = #[.ref b, .int (Int32.ofNat o), .ref d, .int (Int32.ofNat q), .int (Int32.ofNat len)] ∧ Ch b A s ∧ Arr .byte d B s ∧ b ≠ d ∧ o + len ≤ A.slots.size ∧ q + len ≤ B.slots.size ∧ ∀ i, i < len → ¬ 255 < cv A (o + i)
def E (b : Addr) (A : Cell) (d : Addr) (B : Cell) (o q len : Nat) (r : Option Value) (s u : State) : Prop := r = some (.int (Int32.ofNat len)) ∧ ∃ B', Put d B' s u ∧ Laid B B' q (q + len) (fun j => Value.int (lo8 (cv A (o + (j - q)))))
/-- no char of the range above 255: len; the places written hold each char's low byte -/
theorem law (l : Launch) (b : Addr) (A : Cell) (d : Addr) (B : Cell) (o q len : Nat) : Law l yN 5 5 0 0 yB 7 (some .int) site (P b A d B o q len) (E b A d B o q len) (copyLocs d q len) 0 0 := by
  refine Law.of_walk (plainFor_of_name (by decide +kernel)) (by decide +kernel) (by decide +kernel) (by decide) (fun _ _ h => by rw [h.1]; rfl) (fun _ U U' hal hh h => ⟨h.1, h.2.1.mv hal hh, h.2.2.1.mv hal hh, h.2.2.2⟩) (fun r U U' V V' h1 hal h2 h => ⟨h.1, h.2.elim fun B' q => ⟨B', q.1.mv h1 h2, q.2⟩⟩) ?_
  intro p e s m args below meth c s₁ X0 hexec hbytes hml hret hlk hnm hown hh0 W hP
  obtain ⟨rfl, hA, hB, hne, l1, l2, hp⟩ := hP
  have c1 : Steps p.tables e below (s₁.setTop (entryFrame m #[.ref b, .int (Int32.ofNat o), .ref d, .int (Int32.ofNat q), .int (Int32.ofNat len)] 7)) (s₁.setTop (mkF m 0 #[.val (.ref b), .val (.int (Int32.ofNat o)), .val (.ref d), .val (.int (Int32.ofNat q)), .val (.int (Int32.ofNat len)), .unset, .unset] [])) := entry rfl
  have hA0 := hA.1.mv X0.warmed.alike hh0
  have hB0 := hB.mv X0.warmed.alike hh0
  have a31 := hA.1.2.2.2
  have c2 : Steps p.tables e below (s₁.setTop (entryFrame m #[.ref b, .int (Int32.ofNat o), .ref d, .int (Int32.ofNat q), .int (Int32.ofNat len)] 7)) (s₁.setTop (mkF m 3 #[.val (.ref b), .val (.int (Int32.ofNat o)), .val (.ref d), .val (.int (Int32.ofNat q)), .val (.int (Int32.ofNat len)), .val (.int 0), .unset] [])) := c1.trans (by
    refine iconstV X0.here hexec rfl 0 (hb hbytes d0) (by decide) ?_
    refine XS.istore X0.here hexec rfl (hb hbytes d1) rfl rfl ?_
    exact Steps.refl _)
  have loop : ∀ (r i : Nat), i + r = len → ∀ (z : Slot), (z = .unset ∨ ∃ w, z = .val w ∧ w.category = 1) → ∀ (Tl : State) (Bk : Cell), Stand p l e { frames := 0, locals := 0, cells := 0, slots := 0 } s m #[.ref b, .int (Int32.ofNat o), .ref d, .int (Int32.ofNat q), .int (Int32.ofNat len)] below meth c Tl ([] ++ copyLocs d q i) 0 0 → Put d Bk s₁ Tl → Laid B Bk q (q + i) (fun j => Value.int (lo8 (cv A (o + (j - q))))) →
      Steps p.tables e below (s₁.setTop (entryFrame m #[.ref b, .int (Int32.ofNat o), .ref d, .int (Int32.ofNat q), .int (Int32.ofNat len)] 7)) (Tl.setTop (mkF m 3 #[.val (.ref b), .val (.int (Int32.ofNat (o + i))), .val (.ref d), .val (.int (Int32.ofNat (q + i))), .val (.int (Int32.ofNat len)), .val (.int (Int32.ofNat i)), z] [])) → ∃ (T' : State) (B' : Cell) (z' : Slot), Stand p l e { frames := 0, locals := 0, cells := 0, slots := 0 } s m #[.ref b, .int (Int32.ofNat o), .ref d, .int (Int32.ofNat q), .int (Int32.ofNat len)] below meth c T' ([] ++ copyLocs d q len) 0 0 ∧ Put d B' s₁ T' ∧ Laid B B' q (q + len) (fun j => Value.int (lo8 (cv A (o + (j - q))))) ∧
      Steps p.tables e below (s₁.setTop (entryFrame m #[.ref b, .int (Int32.ofNat o), .ref d, .int (Int32.ofNat q), .int (Int32.ofNat len)] 7)) (T'.setTop (mkF m 3 #[.val (.ref b), .val (.int (Int32.ofNat (o + len))), .val (.ref d), .val (.int (Int32.ofNat (q + len))), .val (.int (Int32.ofNat len)), .val (.int (Int32.ofNat len)), z'] [])) := by
    intro r
    induction r with
    | zero =>
      intro i hi z hz Tl Bk Xl pl fl cl
      have hil : i = len := by omega
      rw [hil] at Xl fl cl
      exact ⟨Tl, Bk, z, Xl, pl, fl, cl⟩
    | succ r ih =>
      intro i hi z hz Tl Bk Xl pl fl cl
      have all := X0.warmed.alike.symm.trans Xl.warmed.alike
      have hAl := hA0.keep all (pl.other hne hA0.1)
      have hBk := hB0.like all pl.1 fl.1 fl.2.1 fl.2.2.1
      have hlt : q + i < Bk.slots.size := by rw [fl.2.2.1]; omega
      have c3 : Steps p.tables e below (s₁.setTop (entryFrame m #[.ref b, .int (Int32.ofNat o), .ref d, .int (Int32.ofNat q), .int (Int32.ofNat len)] 7)) (Tl.setTop (mkF m 12 #[.val (.ref b), .val (.int (Int32.ofNat (o + i))), .val (.ref d), .val (.int (Int32.ofNat (q + i))), .val (.int (Int32.ofNat len)), .val (.int (Int32.ofNat i)), z] [.int (Int32.ofNat (o + i)), .ref b])) := cl.trans (by
        refine XS.iload Xl.here hexec rfl (hb hbytes d3) rfl ?_
        refine XS.iload Xl.here hexec rfl (hb hbytes d5) rfl ?_
        refine XS.icmpNo Xl.here hexec rfl (hb hbytes d7) rfl (ii_ge_f (lt32 (by omega) (by omega))) ?_
        refine XS.aloadN Xl.here hexec rfl (hb hbytes d10) rfl rfl ?_
        refine XS.iloadN Xl.here hexec rfl (hb hbytes d11) rfl ?_
        exact Steps.refl _)
      have c4 : Steps p.tables e below (s₁.setTop (entryFrame m #[.ref b, .int (Int32.ofNat o), .ref d, .int (Int32.ofNat q), .int (Int32.ofNat len)] 7)) (Tl.setTop (mkF m 13 #[.val (.ref b), .val (.int (Int32.ofNat (o + i))), .val (.ref d), .val (.int (Int32.ofNat (q + i))), .val (.int (Int32.ofNat len)), .val (.int (Int32.ofNat i)), z] [.int (cv A (o + i))])) := c3.trans (by
        refine Xl.aget hexec hAl rfl (hA.get (i := o + i) (by omega)) rfl rfl (hb hbytes d12) ?_
        exact Steps.refl _)
      have c5 : Steps p.tables e below (s₁.setTop (entryFrame m #[.ref b, .int (Int32.ofNat o), .ref d, .int (Int32.ofNat q), .int (Int32.ofNat len)] 7)) (Tl.setTop (mkF m 15 #[.val (.ref b), .val (.int (Int32.ofNat (o + i))), .val (.ref d), .val (.int (Int32.ofNat (q + i))), .val (.int (Int32.ofNat len)), .val (.int (Int32.ofNat i)), .val (.int (cv A (o + i)))] [])) := c4.trans (by
        refine XS.istoreS Xl.here hexec rfl (hb hbytes d13) rfl rfl hz ?_
        exact Steps.refl _)
      have c6 : Steps p.tables e below (s₁.setTop (entryFrame m #[.ref b, .int (Int32.ofNat o), .ref d, .int (Int32.ofNat q), .int (Int32.ofNat len)] 7)) (Tl.setTop (mkF m 31 #[.val (.ref b), .val (.int (Int32.ofNat (o + i))), .val (.ref d), .val (.int (Int32.ofNat (q + i))), .val (.int (Int32.ofNat len)), .val (.int (Int32.ofNat i)), .val (.int (cv A (o + i)))] [.int (lo8 (cv A (o + i))), .int (Int32.ofNat (q + i)), .ref d])) := c5.trans (by
        refine XS.iload Xl.here hexec rfl (hb hbytes d15) rfl ?_
        refine sipushV Xl.here hexec rfl 255 (hb hbytes d17) (by decide) ?_
        refine XS.icmpYes Xl.here hexec rfl (pc0 := 20) rfl (hb hbytes d20) rfl (ii_le_t (hp i (by omega))) (by decide) rfl ?_
        refine XS.aloadN Xl.here hexec rfl (hb hbytes d26) rfl rfl ?_
        refine XS.iloadN Xl.here hexec rfl (hb hbytes d27) rfl ?_
        refine XS.iload Xl.here hexec rfl (hb hbytes d28) rfl ?_
        refine i2b Xl.here hexec rfl (hb hbytes d30) rfl ?_
        exact Steps.refl _)
      obtain ⟨T7, X7, p7, st7⟩ := Xl.aput hexec hBk rfl hlt rfl (fits_lo8 (cv A (o + i))) (g := (mkF m 31 #[.val (.ref b), .val (.int (Int32.ofNat (o + i))), .val (.ref d), .val (.int (Int32.ofNat (q + i))), .val (.int (Int32.ofNat len)), .val (.int (Int32.ofNat i)), .val (.int (cv A (o + i)))] [.int (lo8 (cv A (o + i))), .int (Int32.ofNat (q + i)), .ref d])) rfl (rest := []) rfl (hb hbytes d31)
      have c8 : Steps p.tables e below (s₁.setTop (entryFrame m #[.ref b, .int (Int32.ofNat o), .ref d, .int (Int32.ofNat q), .int (Int32.ofNat len)] 7)) (T7.setTop (mkF m 32 #[.val (.ref b), .val (.int (Int32.ofNat (o + i))), .val (.ref d), .val (.int (Int32.ofNat (q + i))), .val (.int (Int32.ofNat len)), .val (.int (Int32.ofNat i)), .val (.int (cv A (o + i)))] [])) := c6.trans (st7 _ (Steps.refl _))
      have c9 : Steps p.tables e below (s₁.setTop (entryFrame m #[.ref b, .int (Int32.ofNat o), .ref d, .int (Int32.ofNat q), .int (Int32.ofNat len)] 7)) (T7.setTop (mkF m 3 #[.val (.ref b), .val (.int (Int32.ofNat (o + i) + 1)), .val (.ref d), .val (.int (Int32.ofNat (q + i) + 1)), .val (.int (Int32.ofNat len)), .val (.int (Int32.ofNat i + 1)), .val (.int (cv A (o + i)))] [])) := c8.trans (by
        refine iincV X7.here hexec rfl 1 (hb hbytes d32) (by decide) rfl rfl ?_
        refine iincV X7.here hexec rfl 1 (hb hbytes d35) (by decide) rfl rfl ?_
        refine iincV X7.here hexec rfl 1 (hb hbytes d38) (by decide) rfl rfl ?_
        refine XS.goto X7.here hexec rfl (pc0 := 41) rfl (hb hbytes d41) (by decide) rfl ?_
        exact Steps.refl _)
      have c10 : Steps p.tables e below (s₁.setTop (entryFrame m #[.ref b, .int (Int32.ofNat o), .ref d, .int (Int32.ofNat q), .int (Int32.ofNat len)] 7)) (T7.setTop (mkF m 3 #[.val (.ref b), .val (.int (Int32.ofNat (o + (i + 1)))), .val (.ref d), .val (.int (Int32.ofNat (q + (i + 1)))), .val (.int (Int32.ofNat len)), .val (.int (Int32.ofNat (i + 1))), .val (.int (cv A (o + i)))] [])) := by
        have := c9
        rw [succ32, succ32, succ32] at this
        exact this
      exact ih (i + 1) (by omega) _ (Or.inr ⟨_, rfl, rfl⟩) T7 _ (by rw [copyLocs_step, ← List.append_assoc]; exact X7) (pl.trans p7) (fl.step (by omega) hlt (by simp)) c10
  obtain ⟨T9, B9, z9, X9, p9, f9, g9⟩ := loop len 0 (by omega) .unset (Or.inl rfl) s₁ B (by simpa [copyLocs] using X0) ⟨hB0.1, fun _ _ => rfl, rfl⟩ (Laid.zero _ _ _) c2
  have c11 : Steps p.tables e below (s₁.setTop (entryFrame m #[.ref b, .int (Int32.ofNat o), .ref d, .int (Int32.ofNat q), .int (Int32.ofNat len)] 7)) (T9.setTop (mkF m 46 #[.val (.ref b), .val (.int (Int32.ofNat (o + len))), .val (.ref d), .val (.int (Int32.ofNat (q + len))), .val (.int (Int32.ofNat len)), .val (.int (Int32.ofNat len)), z9] [.int (Int32.ofNat len)])) := g9.trans (by
    refine XS.iload X9.here hexec rfl (hb hbytes d3) rfl ?_
    refine XS.iload X9.here hexec rfl (hb hbytes d5) rfl ?_
    refine XS.icmpYes X9.here hexec rfl (pc0 := 7) rfl (hb hbytes d7) rfl (ii_ge_t (nlt32 (by omega) (Nat.le_refl _))) (by decide) rfl ?_
    refine XS.iload X9.here hexec rfl (hb hbytes d44) rfl ?_
    exact Steps.refl _)
  exact ⟨T9, some (.int (Int32.ofNat len)), _, _, _, X9, by simp, rfl, rfl, (fun h => by cases h), ⟨rfl, B9, p9.from hh0, f9⟩, fun fs hl => c11.trans (X9.ireturnOut hexec hret rfl (Or.inl rfl) (hb hbytes d46) hl)⟩
end Cmp5
namespace Cmp3
def yN : MethodName := ⟨"java/lang/StringUTF16", "compress", "([CII)[B"⟩
abbrev yB : ByteArray := jdk_52_method_16_code
theorem d0 : decode yB 0 = .ok (.iload_n 2, 1) := by decide +kernel
theorem d1 : decode yB 1 = .ok (.newarray .byte, 2) := by decide +kernel
theorem d3 : decode yB 3 = .ok (.astore_n 3, 1) := by decide +kernel
theorem d4 : decode yB 4 = .ok (.aload_n 0, 1) := by decide +kernel
theorem d5 : decode yB 5 = .ok (.iload_n 1, 1) := by decide +kernel
theorem d6 : decode yB 6 = .ok (.aload_n 3, 1) := by decide +kernel
theorem d7 : decode yB 7 = .ok (.iconst 0, 1) := by decide +kernel
theorem d8 : decode yB 8 = .ok (.iload_n 2, 1) := by decide +kernel
theorem d9 : decode yB 9 = .ok (.invokestatic 115, 3) := by decide +kernel
theorem d12 : decode yB 12 = .ok (.istore 4, 2) := by decide +kernel
theorem d14 : decode yB 14 = .ok (.iload 4, 2) := by decide +kernel
theorem d16 : decode yB 16 = .ok (.iload_n 2, 1) := by decide +kernel
theorem d17 : decode yB 17 = .ok (.if_icmp (.eq) 40, 3) := by decide +kernel
theorem d57 : decode yB 57 = .ok (.aload_n 3, 1) := by decide +kernel
theorem d58 : decode yB 58 = .ok (.areturn, 1) := by decide +kernel
def site : List Cond := [.arrayClass .byte, Cmp5.tab] ++ staticW U16 115 Cmp5.yN
def tab : Cond := tabOf yN yB 6 (some (.array .byte)) site
def P (b : Addr) (A : Cell) (o len : Nat) (args : Array Value) (s : State) : Prop := args = #[.ref b, .int (Int32.ofNat o), .int (Int32.ofNat len)] ∧ Ch b A s ∧ o + len ≤ A.slots.size ∧ len ≤ 536870912 ∧ ∀ i, i < len → ¬ 255 < cv A (o + i)
def E (b : Addr) (A : Cell) (o len : Nat) (r : Option Value) (s u : State) : Prop := NewArr .byte "[B" len (fun j => .int (lo8 (cv A (o + j)))) r s u ∧ u.heap.size = s.heap.size + 1
/-- no char of the range above 255: a new byte[] of their low bytes -/
theorem law (l : Launch) (b : Addr) (A : Cell) (o len : Nat) : Law l yN 3 3 1 18 yB 6 (some (.array .byte)) site (P b A o len) (E b A o len) [] 1 len := by
  refine Law.of_walk (plainFor_of_name (by decide +kernel)) (by decide +kernel) (by decide +kernel) (by decide) (fun _ _ h => by rw [h.1]; rfl) (fun _ U U' hal hh h => ⟨h.1, h.2.1.mv hal hh, h.2.2⟩) (fun r U U' V V' h1 hal h2 h => ⟨NewArr.mv r U U' V V' h1 hal h2 h.1, by rw [h1, h2]; exact h.2⟩) ?_
  intro p e s m args below meth c s₁ X0 hexec hbytes hml hret hlk hnm hown hh0 W hP
  obtain ⟨rfl, hA, l1, l2, hp⟩ := hP
  have a31 := hA.1.2.2.2
  have c1 : Steps p.tables e below (s₁.setTop (entryFrame m #[.ref b, .int (Int32.ofNat o), .int (Int32.ofNat len)] 6)) (s₁.setTop (mkF m 0 #[.val (.ref b), .val (.int (Int32.ofNat o)), .val (.int (Int32.ofNat len)), .unset, .unset, .unset] [])) := entry rfl
  have c2 : Steps p.tables e below (s₁.setTop (entryFrame m #[.ref b, .int (Int32.ofNat o), .int (Int32.ofNat len)] 6)) (s₁.setTop (mkF m 1 #[.val (.ref b), .val (.int (Int32.ofNat o)), .val (.int (Int32.ofNat len)), .unset, .unset, .unset] [.int (Int32.ofNat len)])) := c1.trans (by
    refine XS.iloadN X0.here hexec rfl (hb hbytes d0) rfl ?_
    exact Steps.refl _)
  obtain ⟨T3, B3, X3, ba3, bs3, bv3, bh3, bf3, st3⟩ := X0.anew hexec (atype := .byte) (wk W (.arrayClass .byte)) rfl (by show len * 1 ≤ _; omega) (by omega) (g := (mkF m 1 #[.val (.ref b), .val (.int (Int32.ofNat o)), .val (.int (Int32.ofNat len)), .unset, .unset, .unset] [.int (Int32.ofNat len)])) rfl (hb hbytes d1) (rest := []) rfl (Nat.le_refl _) (by show 0 + len ≤ len; omega)
  rw [hh0] at ba3 st3
  have kp3 : XT.Kept s T3 := (XT.Kept.of_eq hh0).push bh3
  have hA3 := hA.keep X3.warmed.alike (kp3 _ _ hA.1.1)
  have hne : b ≠ s.heap.size := hA.1.ne
  have c4 : Steps p.tables e below (s₁.setTop (entryFrame m #[.ref b, .int (Int32.ofNat o), .int (Int32.ofNat len)] 6)) (T3.setTop (mkF m 3 #[.val (.ref b), .val (.int (Int32.ofNat o)), .val (.int (Int32.ofNat len)), .unset, .unset, .unset] [.ref s.heap.size])) := c2.trans (st3 _ (Steps.refl _))
  have c5 : Steps p.tables e below (s₁.setTop (entryFrame m #[.ref b, .int (Int32.ofNat o), .int (Int32.ofNat len)] 6)) (T3.setTop (mkF m 9 #[.val (.ref b), .val (.int (Int32.ofNat o)), .val (.int (Int32.ofNat len)), .val (.ref s.heap.size), .unset, .unset] [.int (Int32.ofNat len), .int 0, .ref s.heap.size, .int (Int32.ofNat o), .ref b])) := c4.trans (by
    refine XS.astoreN X3.here hexec rfl (hb hbytes d3) rfl rfl rfl ?_
    refine XS.aloadN X3.here hexec rfl (hb hbytes d4) rfl rfl ?_
    refine XS.iloadN X3.here hexec rfl (hb hbytes d5) rfl ?_
    refine XS.aloadN X3.here hexec rfl (hb hbytes d6) rfl rfl ?_
    refine iconstV X3.here hexec rfl 0 (hb hbytes d7) (by decide) ?_
    refine XS.iloadN X3.here hexec rfl (hb hbytes d8) rfl ?_
    exact Steps.refl _)
  obtain ⟨v6, T6, X6, E6, g6⟩ := X3.callS hexec (Cmp5.law l b A s.heap.size B3 o 0 len) hown (wks W (staticW U16 115 Cmp5.yN)) (wk W Cmp5.tab) (W := 0) (Nat.le_of_ble_eq_true rfl) (Nat.le_of_ble_eq_true rfl) (Nat.le_refl _) (by show 0 + len + 0 ≤ len; omega) (g := (mkF m 9 #[.val (.ref b), .val (.int (Int32.ofNat o)), .val (.int (Int32.ofNat len)), .val (.ref s.heap.size), .unset, .unset] [.int (Int32.ofNat len), .int (Int32.ofNat 0), .ref s.heap.size, .int (Int32.ofNat o), .ref b])) rfl (by rw [hml]; rfl) c5 (argsL := [.ref b, .int (Int32.ofNat o), .ref s.heap.size, .int (Int32.ofNat 0), .int (Int32.ofNat len)]) (rest := []) rfl rfl (by show 2 * 0 + 0 ≤ _; decide) (hb hbytes d9) (⟨rfl, hA3, ba3, hne, l1, by rw [bs3]; simp, hp⟩)
  obtain ⟨rfl, B6, p6, f6⟩ := E6
  have c7 : Steps p.tables e below (s₁.setTop (entryFrame m #[.ref b, .int (Int32.ofNat o), .int (Int32.ofNat len)] 6)) (T6.setTop (mkF m 12 #[.val (.ref b), .val (.int (Int32.ofNat o)), .val (.int (Int32.ofNat len)), .val (.ref s.heap.size), .unset, .unset] [.int (Int32.ofNat len)])) := g6
  have c8 : Steps p.tables e below (s₁.setTop (entryFrame m #[.ref b, .int (Int32.ofNat o), .int (Int32.ofNat len)] 6)) (T6.setTop (mkF m 58 #[.val (.ref b), .val (.int (Int32.ofNat o)), .val (.int (Int32.ofNat len)), .val (.ref s.heap.size), .val (.int (Int32.ofNat len)), .unset] [.ref s.heap.size])) := c7.trans (by
    refine XS.istore X6.here hexec rfl (hb hbytes d12) rfl rfl ?_
    refine XS.iload X6.here hexec rfl (hb hbytes d14) rfl ?_
    refine XS.iloadN X6.here hexec rfl (hb hbytes d16) rfl ?_
    refine XS.icmpYes X6.here hexec rfl (pc0 := 17) rfl (hb hbytes d17) rfl (ii_eq_t rfl) (by decide) rfl ?_
    refine XS.aloadN X6.here hexec rfl (hb hbytes d57) rfl rfl ?_
    exact Steps.refl _)
  have X8 := X6.wide (L' := []) (cells' := 1) (slots' := len) (fun x hx hlt => by
    simp only [List.nil_append, copyLocs, List.mem_map, List.mem_range] at hx
    obtain ⟨i, -, rfl⟩ := hx
    exact absurd hlt (Nat.lt_irrefl _)) (Nat.le_refl _) (by omega)
  exact ⟨T6, some (.ref s.heap.size), _, _, _, X8, rfl, rfl, rfl, (fun h => by cases h), ⟨⟨rfl, B6, ba3.like (X3.warmed.alike.symm.trans X6.warmed.alike) p6.1 f6.1 f6.2.1 f6.2.2.1, f6.2.1.trans bv3, by rw [X6.warmed.alike.findClass, f6.1]; exact bf3, by rw [f6.2.2.1, bs3]; simp, fun j hj => by rw [f6.2.2.2 j, if_pos (by omega)]; rfl, kp3.put p6 (Nat.le_refl _)⟩, by rw [p6.2.2, bh3, hh0]; simp⟩, fun fs hl => c8.trans (X8.areturnOut hexec rfl hret rfl (hb hbytes d58) hl)⟩
end Cmp3
namespace CodL
def yN : MethodName := ⟨"java/lang/StringUTF16", "coderFromArrayLen", "([BI)B"⟩
abbrev yB : ByteArray := jdk_52_method_15_code
theorem d0 : decode yB 0 = .ok (.iload_n 1, 1) := by decide +kernel
theorem d1 : decode yB 1 = .ok (.aload_n 0, 1) := by decide +kernel
theorem d2 : decode yB 2 = .ok (.arraylength, 1) := by decide +kernel
theorem d3 : decode yB 3 = .ok (.isub, 1) := by decide +kernel
theorem d4 : decode yB 4 = .ok (.bipush 31, 2) := by decide +kernel
theorem d6 : decode yB 6 = .ok (.iushr, 1) := by decide +kernel
theorem d7 : decode yB 7 = .ok (.i2b, 1) := by decide +kernel
theorem d8 : decode yB 8 = .ok (.ireturn, 1) := by decide +kernel
def site : List Cond := []
def tab : Cond := tabOf yN yB 2 (some .byte) site
def P (d : Addr) (B : Cell) (args : Array Value) (s : State) : Prop := args = #[.ref d, .int (Int32.ofNat B.slots.size)] ∧ Arr .byte d B s
def E (r : Option Value) (s u : State) : Prop := XT.PureE (some (.int 0)) r s u
/-- an array as long as the number of chars: LATIN1 -/
theorem law (l : Launch) (d : Addr) (B : Cell) : Law l yN 2 2 0 0 yB 2 (some .byte) site (P d B) E [] 0 0 := by
  refine Law.of_walk (plainFor_of_name (by decide +kernel)) (by decide +kernel) (by decide +kernel) (by decide) (fun _ _ h => by rw [h.1]; rfl) (fun _ U U' hal hh h => ⟨h.1, h.2.mv hal hh⟩) (fun r U U' V V' h1 hal h2 h => XT.PureE.mv r U U' V V' h1 hal h2 h) ?_
  intro p e s m args below meth c s₁ X0 hexec hbytes hml hret hlk hnm hown hh0 W hP
  obtain ⟨rfl, hB⟩ := hP
  have hB0 := hB.mv X0.warmed.alike hh0
  have c1 : Steps p.tables e below (s₁.setTop (entryFrame m #[.ref d, .int (Int32.ofNat B.slots.size)] 2)) (s₁.setTop (mkF m 0 #[.val (.ref d), .val (.int (Int32.ofNat B.slots.size))] [])) := entry rfl
  have c2 : Steps p.tables e below (s₁.setTop (entryFrame m #[.ref d, .int (Int32.ofNat B.slots.size)] 2)) (s₁.setTop (mkF m 2 #[.val (.ref d), .val (.int (Int32.ofNat B.slots.size))] [.ref d, .int (Int32.ofNat B.slots.size)])) := c1.trans (by
    refine XS.iloadN X0.here hexec rfl (hb hbytes d0) rfl ?_
    refine XS.aloadN X0.here hexec rfl (hb hbytes d1) rfl rfl ?_
    exact Steps.refl _)
  have c3 : Steps p.tables e below (s₁.setTop (entryFrame m #[.ref d, .int (Int32.ofNat B.slots.size)] 2)) (s₁.setTop (mkF m 8 #[.val (.ref d), .val (.int (Int32.ofNat B.slots.size))] [.int (lo8 (ushr (Int32.ofNat B.slots.size - Int32.ofNat B.slots.size) 31))])) := c2.trans (by
    refine X0.alen hexec hB0 rfl rfl (hb hbytes d2) ?_
    refine XS.isub X0.here hexec rfl (hb hbytes d3) rfl ?_
    refine bipushV X0.here hexec rfl 31 (hb hbytes d4) (by decide) ?_
    refine iushr X0.here hexec rfl (hb hbytes d6) rfl ?_
    refine i2b X0.here hexec rfl (hb hbytes d7) rfl ?_
    exact Steps.refl _)
  have e0 : lo8 (ushr (Int32.ofNat B.slots.size - Int32.ofNat B.slots.size) 31) = 0 := by rw [Int32.sub_self]; decide
  rw [e0] at c3
  exact ⟨s₁, some (.int 0), _, _, _, X0, rfl, rfl, rfl, (fun h => by cases h), ⟨rfl, hh0⟩, fun fs hl => c3.trans (X0.ireturnOut hexec hret rfl (Or.inr (Or.inr (Or.inl rfl))) (hb hbytes d8) hl)⟩
end CodL
/-- the String at a is Latin-1 over a new byte[] (the heap's one new cell): the low bytes of the len chars of A from o on; every cell but a is kept -/
def Got (a : Addr) (D : Cell) (fV fC : Field) (A : Cell) (o len : Nat) (r : Option Value) (s u : State) : Prop := r = none ∧ ∃ D' V : Cell, Blank "java/lang/String" a D' u ∧ Same D D' [fV.slot, fC.slot] ∧ D'.slots[fV.slot]? = some (.ref s.heap.size) ∧ D'.slots[fC.slot]? = some (.int 0) ∧ Arr .byte s.heap.size V u ∧ V.vm = .none ∧ u.vm.findClass "[B" = some V.cls ∧ V.slots.size = len ∧ (∀ j, j < len → V.slots[j]? = some (.int (lo8 (cv A (o + j))))) ∧ (∀ (y : Addr) (c : Cell), y ≠ a → s.heap[y]? = some c → u.heap[y]? = some c) ∧ u.heap.size = s.heap.size + 1
theorem Got.mv {a : Addr} {D A : Cell} {fV fC : Field} {o len : Nat} : ∀ r (U U' V V' : State), U'.heap = U.heap → V.vm.Alike V'.vm → V'.heap = V.heap → Got a D fV fC A o len r U V → Got a D fV fC A o len r U' V' :=
  fun r U U' V V' h1 hal h2 ⟨e0, D', X, a1, a2, a3, a4, a5, a6, a7, a8, a9, a10, a11⟩ => ⟨e0, D', X, a1.mv hal h2, a2, by rw [h1]; exact a3, a4, by rw [h1]; exact a5.mv hal h2, a6, by rw [hal.findClass]; exact a7, a8, a9, by rw [h1, h2]; exact a10, by rw [h1, h2]; exact a11⟩
namespace New4
def yN : MethodName := ⟨"java/lang/String", "<init>", "([CIILjava/lang/Void;)V"⟩
abbrev yB : ByteArray := jdk_42_method_149_code
theorem d0 : decode yB 0 = .ok (.aload_n 0, 1) := by decide +kernel
theorem d1 : decode yB 1 = .ok (.invokespecial 1, 3) := by decide +kernel
theorem d4 : decode yB 4 = .ok (.iload_n 3, 1) := by decide +kernel
theorem d5 : decode yB 5 = .ok (.ifCond (.ne) 22, 3) := by decide +kernel
theorem d27 : decode yB 27 = .ok (.getstatic 38, 3) := by decide +kernel
theorem d30 : decode yB 30 = .ok (.ifCond (.eq) 28, 3) := by decide +kernel
theorem d33 : decode yB 33 = .ok (.aload_n 1, 1) := by decide +kernel
theorem d34 : decode yB 34 = .ok (.iload_n 2, 1) := by decide +kernel
theorem d35 : decode yB 35 = .ok (.iload_n 3, 1) := by decide +kernel
theorem d36 : decode yB 36 = .ok (.invokestatic 177, 3) := by decide +kernel
theorem d39 : decode yB 39 = .ok (.astore 5, 2) := by decide +kernel
theorem d41 : decode yB 41 = .ok (.aload_n 0, 1) := by decide +kernel
theorem d42 : decode yB 42 = .ok (.aload 5, 2) := by decide +kernel
theorem d44 : decode yB 44 = .ok (.iload_n 3, 1) := by decide +kernel
theorem d45 : decode yB 45 = .ok (.invokestatic 47, 3) := by decide +kernel
theorem d48 : decode yB 48 = .ok (.putfield 15, 3) := by decide +kernel
theorem d51 : decode yB 51 = .ok (.aload_n 0, 1) := by decide +kernel
theorem d52 : decode yB 52 = .ok (.aload 5, 2) := by decide +kernel
theorem d54 : decode yB 54 = .ok (.putfield 9, 3) := by decide +kernel
theorem d57 : decode yB 57 = .ok (.return_, 1) := by decide +kernel
def site : List Cond := [.fieldLink "java/lang/String" 38 "java/lang/String" "COMPACT_STRINGS" "Z", Cmp3.tab, CodL.tab, .laysFinal "java/lang/String" "java/lang/String" "value" "[B", .fieldLink "java/lang/String" 9 "java/lang/String" "value" "[B", .laysFinal "java/lang/String" "java/lang/String" "coder" "B", .fieldLink "java/lang/String" 15 "java/lang/String" "coder" "B"] ++ objW "java/lang/String" 1 ++ staticW "java/lang/String" 177 Cmp3.yN ++ staticW "java/lang/String" 47 CodL.yN
def tab : Cond := tabOf yN yB 6 none site
def P (a : Addr) (D : Cell) (fV fC : Field) (b : Addr) (A : Cell) (z : Int32) (o len : Nat) (args : Array Value) (s : State) : Prop := args = #[.ref a, .ref b, .int (Int32.ofNat o), .int (Int32.ofNat len), .null] ∧ Blank "java/lang/String" a D s ∧ Found "java/lang/String" "value" "[B" fV s ∧ Found "java/lang/String" "coder" "B" fC s ∧ Ch b A s ∧ StaticIs s "java/lang/String" "COMPACT_STRINGS" "Z" (.int z) ∧ ¬ z = 0 ∧ 0 < len ∧ o + len ≤ A.slots.size ∧ len ≤ 536870912 ∧ ∀ i, i < len → ¬ 255 < cv A (o + i)
def E (a : Addr) (D : Cell) (fV fC : Field) (A : Cell) (o len : Nat) (r : Option Value) (s u : State) : Prop := Got a D fV fC A o len r s u
/-- len > 0, no char of the range above 255: a Latin-1 String of their low bytes -/
theorem law (l : Launch) (a : Addr) (D : Cell) (fV fC : Field) (b : Addr) (A : Cell) (z : Int32) (o len : Nat) : Law l yN 5 4 2 35 yB 6 none site (P a D fV fC b A z o len) (E a D fV fC A o len) [⟨a, fC.slot⟩, ⟨a, fV.slot⟩] 1 len := by
  refine Law.of_walk (plainFor_of_name (by decide +kernel)) (by decide +kernel) (by decide +kernel) (by decide) (fun _ _ h => by rw [h.1]; rfl) (fun _ U U' hal hh h => ⟨h.1, h.2.1.mv hal hh, h.2.2.1.al hal, h.2.2.2.1.al hal, h.2.2.2.2.1.mv hal hh, h.2.2.2.2.2.1.there hal hh, h.2.2.2.2.2.2⟩) (fun r U U' V V' h1 hal h2 h => Got.mv r U U' V V' h1 hal h2 h) ?_
  intro p e s m args below meth c s₁ X0 hexec hbytes hml hret hlk hnm hown hh0 W hP
  obtain ⟨rfl, hB, f1, f2, hA, s1, hz, l0, l1, l2, hp⟩ := hP
  have a31 := hA.1.2.2.2
  have c1 : Steps p.tables e below (s₁.setTop (entryFrame m #[.ref a, .ref b, .int (Int32.ofNat o), .int (Int32.ofNat len), .null] 6)) (s₁.setTop (mkF m 0 #[.val (.ref a), .val (.ref b), .val (.int (Int32.ofNat o)), .val (.int (Int32.ofNat len)), .val .null, .unset] [])) := entry rfl
  have c2 : Steps p.tables e below (s₁.setTop (entryFrame m #[.ref a, .ref b, .int (Int32.ofNat o), .int (Int32.ofNat len), .null] 6)) (s₁.setTop (mkF m 1 #[.val (.ref a), .val (.ref b), .val (.int (Int32.ofNat o)), .val (.int (Int32.ofNat len)), .val .null, .unset] [.ref a])) := c1.trans (by
    refine XS.aloadN X0.here hexec rfl (hb hbytes d0) rfl rfl ?_
    exact Steps.refl _)
  obtain ⟨T3, X3, q3, st3⟩ := X0.oinit hexec hown (wks W (objW "java/lang/String" 1)) (g := (mkF m 1 #[.val (.ref a), .val (.ref b), .val (.int (Int32.ofNat o)), .val (.int (Int32.ofNat len)), .val .null, .unset] [.ref a])) rfl (by rw [hml]; rfl) (rest := []) rfl (hb hbytes d1) (W := 0) (by show 2 * 0 + 0 ≤ _; decide) (Nat.le_of_ble_eq_true rfl) (Nat.le_of_ble_eq_true rfl)
  have hh3 := q3.trans hh0
  have c4 : Steps p.tables e below (s₁.setTop (entryFrame m #[.ref a, .ref b, .int (Int32.ofNat o), .int (Int32.ofNat len), .null] 6)) (T3.setTop (mkF m 27 #[.val (.ref a), .val (.ref b), .val (.int (Int32.ofNat o)), .val (.int (Int32.ofNat len)), .val .null, .unset] [])) := (c2.trans (st3 _ (Steps.refl _))).trans (by
    refine XS.iloadN X3.here hexec rfl (hb hbytes d4) rfl ?_
    refine XS.ifYes X3.here hexec rfl (pc0 := 5) rfl (hb hbytes d5) rfl (i0_ne_t (nz32 (by omega) l0)) (by decide) rfl ?_
    exact Steps.refl _)
  obtain ⟨T5, X5, q5, st5⟩ := X3.sget hexec hown (wk W (.fieldLink "java/lang/String" 38 "java/lang/String" "COMPACT_STRINGS" "Z")) s1 (fun _ _ h => by rw [hh3]; exact h) (g := (mkF m 27 #[.val (.ref a), .val (.ref b), .val (.int (Int32.ofNat o)), .val (.int (Int32.ofNat len)), .val .null, .unset] [])) rfl (hb hbytes d27)
  have hh5 := q5.trans hh3
  have c6 : Steps p.tables e below (s₁.setTop (entryFrame m #[.ref a, .ref b, .int (Int32.ofNat o), .int (Int32.ofNat len), .null] 6)) (T5.setTop (mkF m 30 #[.val (.ref a), .val (.ref b), .val (.int (Int32.ofNat o)), .val (.int (Int32.ofNat len)), .val .null, .unset] [.int z])) := c4.trans (st5 _ (Steps.refl _))
  have c7 : Steps p.tables e below (s₁.setTop (entryFrame m #[.ref a, .ref b, .int (Int32.ofNat o), .int (Int32.ofNat len), .null] 6)) (T5.setTop (mkF m 36 #[.val (.ref a), .val (.ref b), .val (.int (Int32.ofNat o)), .val (.int (Int32.ofNat len)), .val .null, .unset] [.int (Int32.ofNat len), .int (Int32.ofNat o), .ref b])) := c6.trans (by
    refine XS.ifNo X5.here hexec rfl (hb hbytes d30) rfl (i0_eq_f hz) ?_
    refine XS.aloadN X5.here hexec rfl (hb hbytes d33) rfl rfl ?_
    refine XS.iloadN X5.here hexec rfl (hb hbytes d34) rfl ?_
    refine XS.iloadN X5.here hexec rfl (hb hbytes d35) rfl ?_
    exact Steps.refl _)
  obtain ⟨v8, T8, X8, E8, g8⟩ := X5.callS hexec (Cmp3.law l b A o len) hown (wks W (staticW "java/lang/String" 177 Cmp3.yN)) (wk W Cmp3.tab) (W := 0) (Nat.le_of_ble_eq_true rfl) (Nat.le_of_ble_eq_true rfl) (Nat.le_refl _) (by show 0 + len ≤ len; omega) (g := (mkF m 36 #[.val (.ref a), .val (.ref b), .val (.int (Int32.ofNat o)), .val (.int (Int32.ofNat len)), .val .null, .unset] [.int (Int32.ofNat len), .int (Int32.ofNat o), .ref b])) rfl (by rw [hml]; rfl) c7 (argsL := [.ref b, .int (Int32.ofNat o), .int (Int32.ofNat len)]) (rest := []) rfl rfl (by show 2 * 0 + 0 ≤ _; decide) (hb hbytes d36) (⟨rfl, hA.mv X5.warmed.alike hh5, l1, l2, hp⟩)
  obtain ⟨e8, z8⟩ := E8
  obtain ⟨rfl, N, n1, n2, n3, n4, n5, n6⟩ := NewArr.mv _ T5 s _ _ hh5.symm (Vm.Alike.refl _) rfl e8
  rw [hh5] at z8
  have hB1 := hB.keep X8.warmed.alike (n6 _ _ hB.1)
  have hne : s.heap.size ≠ a := (Nat.ne_of_lt (Array.getElem?_eq_some_iff.mp hB.1).1).symm
  have c9 : Steps p.tables e below (s₁.setTop (entryFrame m #[.ref a, .ref b, .int (Int32.ofNat o), .int (Int32.ofNat len), .null] 6)) (T8.setTop (mkF m 39 #[.val (.ref a), .val (.ref b), .val (.int (Int32.ofNat o)), .val (.int (Int32.ofNat len)), .val .null, .unset] [.ref s.heap.size])) := g8
  have c10 : Steps p.tables e below (s₁.setTop (entryFrame m #[.ref a, .ref b, .int (Int32.ofNat o), .int (Int32.ofNat len), .null] 6)) (T8.setTop (mkF m 45 #[.val (.ref a), .val (.ref b), .val (.int (Int32.ofNat o)), .val (.int (Int32.ofNat len)), .val .null, .val (.ref s.heap.size)] [.int (Int32.ofNat N.slots.size), .ref s.heap.size, .ref a])) := by
    have hc : Steps p.tables e below (s₁.setTop (entryFrame m #[.ref a, .ref b, .int (Int32.ofNat o), .int (Int32.ofNat len), .null] 6)) (T8.setTop (mkF m 45 #[.val (.ref a), .val (.ref b), .val (.int (Int32.ofNat o)), .val (.int (Int32.ofNat len)), .val .null, .val (.ref s.heap.size)] [.int (Int32.ofNat len), .ref s.heap.size, .ref a])) := c9.trans (by
      refine XS.astore X8.here hexec rfl (hb hbytes d39) rfl rfl rfl ?_
      refine XS.aloadN X8.here hexec rfl (hb hbytes d41) rfl rfl ?_
      refine XS.aload X8.here hexec rfl (hb hbytes d42) rfl rfl ?_
      refine XS.iloadN X8.here hexec rfl (hb hbytes d44) rfl ?_
      exact Steps.refl _)
    rw [n4]; exact hc
  obtain ⟨v11, T11, X11, E11, g11⟩ := X8.callS hexec (CodL.law l s.heap.size N) hown (wks W (staticW "java/lang/String" 47 CodL.yN)) (wk W CodL.tab) (W := 1) (Nat.le_of_ble_eq_true rfl) (Nat.le_of_ble_eq_true rfl) (Nat.le_refl _) (by show 0 + len + 0 ≤ len; omega) (g := (mkF m 45 #[.val (.ref a), .val (.ref b), .val (.int (Int32.ofNat o)), .val (.int (Int32.ofNat len)), .val .null, .val (.ref s.heap.size)] [.int (Int32.ofNat N.slots.size), .ref s.heap.size, .ref a])) rfl (by rw [hml]; rfl) c10 (argsL := [.ref s.heap.size, .int (Int32.ofNat N.slots.size)]) (rest := [.ref a]) rfl rfl (by show 2 * 0 + (1 + 0) ≤ _; decide) (hb hbytes d45) (⟨rfl, n1⟩)
  obtain ⟨rfl, q11⟩ := E11
  have hB11 := hB1.mv (X8.warmed.alike.symm.trans X11.warmed.alike) q11
  have c12 : Steps p.tables e below (s₁.setTop (entryFrame m #[.ref a, .ref b, .int (Int32.ofNat o), .int (Int32.ofNat len), .null] 6)) (T11.setTop (mkF m 48 #[.val (.ref a), .val (.ref b), .val (.int (Int32.ofNat o)), .val (.int (Int32.ofNat len)), .val .null, .val (.ref s.heap.size)] [.int 0, .ref a])) := g11
  obtain ⟨T13, X13, p13, bl13, sl13, st13⟩ := X11.finit hexec hown (wk W (.fieldLink "java/lang/String" 15 "java/lang/String" "coder" "B")) (Or.inr ⟨_, (wk W (.laysFinal "java/lang/String" "java/lang/String" "coder" "B"))⟩) (Or.inl ⟨rfl, hnm⟩) f2 (Or.inl rfl) hB11 (t := .byte) (by decide +kernel) rfl (g := (mkF m 48 #[.val (.ref a), .val (.ref b), .val (.int (Int32.ofNat o)), .val (.int (Int32.ofNat len)), .val .null, .val (.ref s.heap.size)] [.int 0, .ref a])) rfl (rest := []) rfl (hb hbytes d48)
  have c14 : Steps p.tables e below (s₁.setTop (entryFrame m #[.ref a, .ref b, .int (Int32.ofNat o), .int (Int32.ofNat len), .null] 6)) (T13.setTop (mkF m 54 #[.val (.ref a), .val (.ref b), .val (.int (Int32.ofNat o)), .val (.int (Int32.ofNat len)), .val .null, .val (.ref s.heap.size)] [.ref s.heap.size, .ref a])) := (c12.trans (st13 _ (Steps.refl _))).trans (by
    refine XS.aloadN X13.here hexec rfl (hb hbytes d51) rfl rfl ?_
    refine XS.aload X13.here hexec rfl (hb hbytes d52) rfl rfl ?_
    exact Steps.refl _)
  obtain ⟨T15, X15, p15, bl15, sl15, st15⟩ := X13.finit hexec hown (wk W (.fieldLink "java/lang/String" 9 "java/lang/String" "value" "[B")) (Or.inr ⟨_, (wk W (.laysFinal "java/lang/String" "java/lang/String" "value" "[B"))⟩) (Or.inl ⟨rfl, hnm⟩) f1 (Or.inl rfl) bl13 (t := (.array .byte)) (by decide +kernel) rfl (g := (mkF m 54 #[.val (.ref a), .val (.ref b), .val (.int (Int32.ofNat o)), .val (.int (Int32.ofNat len)), .val .null, .val (.ref s.heap.size)] [.ref s.heap.size, .ref a])) rfl (rest := []) rfl (hb hbytes d54)
  have c16 : Steps p.tables e below (s₁.setTop (entryFrame m #[.ref a, .ref b, .int (Int32.ofNat o), .int (Int32.ofNat len), .null] 6)) (T15.setTop (mkF m 57 #[.val (.ref a), .val (.ref b), .val (.int (Int32.ofNat o)), .val (.int (Int32.ofNat len)), .val .null, .val (.ref s.heap.size)] [])) := c14.trans (st15 _ (Steps.refl _))
  have ap := apart (Or.inr ⟨_, (wk W (.laysFinal "java/lang/String" "java/lang/String" "value" "[B"))⟩) (Or.inr ⟨_, (wk W (.laysFinal "java/lang/String" "java/lang/String" "coder" "B"))⟩) f1 f2 (t₁ := .array .byte) (t₂ := .byte) (by decide +kernel) (by decide +kernel) (by decide)
  have al := X8.warmed.alike.symm.trans X15.warmed.alike
  have n7 : T11.heap[s.heap.size]? = some N := by rw [q11]; exact n1.1
  exact ⟨T15, none, _, _, _, X15, by simp, rfl, by omega, (fun _ => rfl), ⟨rfl, _, N, bl15, ((Same.refl D _).set _ (by simp)).set _ (by simp), sl15, (Cell.slots_setSlot_ne _ ap).trans sl13, n1.keep al (p15.other hne (p13.other hne n7)), n2, by rw [al.findClass]; exact n3, n4, n5, fun y c h1 h2 => p15.other h1 (p13.other h1 (by rw [q11]; exact n6 y c h2)), by rw [p15.2.2, p13.2.2, q11]; exact z8⟩, fun fs hl => c16.trans (X15.returnOut hexec hret (hb hbytes d57) hl)⟩
end New4
namespace New1
def yN : MethodName := ⟨"java/lang/String", "<init>", "([C)V"⟩
abbrev yB : ByteArray := jdk_42_method_3_code
theorem d0 : decode yB 0 = .ok (.aload_n 0, 1) := by decide +kernel
theorem d1 : decode yB 1 = .ok (.aload_n 1, 1) := by decide +kernel
theorem d2 : decode yB 2 = .ok (.iconst 0, 1) := by decide +kernel
theorem d3 : decode yB 3 = .ok (.aload_n 1, 1) := by decide +kernel
theorem d4 : decode yB 4 = .ok (.arraylength, 1) := by decide +kernel
theorem d5 : decode yB 5 = .ok (.aconst_null, 1) := by decide +kernel
theorem d6 : decode yB 6 = .ok (.invokespecial 27, 3) := by decide +kernel
theorem d9 : decode yB 9 = .ok (.return_, 1) := by decide +kernel
def site : List Cond := [New4.tab] ++ initW "java/lang/String" 27 New4.yN
def tab : Cond := tabOf yN yB 2 none site
def P (a : Addr) (D : Cell) (fV fC : Field) (b : Addr) (A : Cell) (z : Int32) (args : Array Value) (s : State) : Prop := args = #[.ref a, .ref b] ∧ Blank "java/lang/String" a D s ∧ Found "java/lang/String" "value" "[B" fV s ∧ Found "java/lang/String" "coder" "B" fC s ∧ Ch b A s ∧ StaticIs s "java/lang/String" "COMPACT_STRINGS" "Z" (.int z) ∧ ¬ z = 0 ∧ 0 < A.slots.size ∧ A.slots.size ≤ 536870912 ∧ ∀ i, i < A.slots.size → ¬ 255 < cv A i
def E (a : Addr) (D : Cell) (fV fC : Field) (A : Cell) (r : Option Value) (s u : State) : Prop := Got a D fV fC A 0 A.slots.size r s u
/-- new String(chars), not empty, no char above 255: a Latin-1 String of their low bytes -/
theorem law (l : Launch) (a : Addr) (D : Cell) (fV fC : Field) (b : Addr) (A : Cell) (z : Int32) : Law l yN 2 1 3 52 yB 2 none site (P a D fV fC b A z) (E a D fV fC A) [⟨a, fC.slot⟩, ⟨a, fV.slot⟩] 1 A.slots.size := by
  refine Law.of_walk (plainFor_of_name (by decide +kernel)) (by decide +kernel) (by decide +kernel) (by decide) (fun _ _ h => by rw [h.1]; rfl) (fun _ U U' hal hh h => ⟨h.1, h.2.1.mv hal hh, h.2.2.1.al hal, h.2.2.2.1.al hal, h.2.2.2.2.1.mv hal hh, h.2.2.2.2.2.1.there hal hh, h.2.2.2.2.2.2⟩) (fun r U U' V V' h1 hal h2 h => Got.mv r U U' V V' h1 hal h2 h) ?_
  intro p e s m args below meth c s₁ X0 hexec hbytes hml hret hlk hnm hown hh0 W hP
  obtain ⟨rfl, hB, f1, f2, hA, s1, hz, l0, l2, hp⟩ := hP
  have c1 : Steps p.tables e below (s₁.setTop (entryFrame m #[.ref a, .ref b] 2)) (s₁.setTop (mkF m 0 #[.val (.ref a), .val (.ref b)] [])) := entry rfl
  have c2 : Steps p.tables e below (s₁.setTop (entryFrame m #[.ref a, .ref b] 2)) (s₁.setTop (mkF m 6 #[.val (.ref a), .val (.ref b)] [.null, .int (Int32.ofNat A.slots.size), .int 0, .ref b, .ref a])) := c1.trans (by
    refine XS.aloadN X0.here hexec rfl (hb hbytes d0) rfl rfl ?_
    refine XS.aloadN X0.here hexec rfl (hb hbytes d1) rfl rfl ?_
    refine iconstV X0.here hexec rfl 0 (hb hbytes d2) (by decide) ?_
    refine XS.aloadN X0.here hexec rfl (hb hbytes d3) rfl rfl ?_
    refine X0.alen hexec (hA.1.mv X0.warmed.alike hh0) rfl rfl (hb hbytes d4) ?_
    refine XS.aconstNull X0.here hexec rfl (hb hbytes d5) ?_
    exact Steps.refl _)
  obtain ⟨v3, T3, X3, E3, g3⟩ := X0.callN hexec (New4.law l a D fV fC b A z 0 A.slots.size) rfl hown (wks W (initW "java/lang/String" 27 New4.yN)) (W New4.tab (by simp only [site, List.mem_cons, List.mem_append, true_or, or_true])) (W := 0) (Nat.le_of_ble_eq_true rfl) (Nat.le_of_ble_eq_true rfl) (Nat.le_refl _) (by show 0 + A.slots.size ≤ A.slots.size; omega) (g := (mkF m 6 #[.val (.ref a), .val (.ref b)] [.null, .int (Int32.ofNat A.slots.size), .int (Int32.ofNat 0), .ref b, .ref a])) rfl (by rw [hml]; rfl) c2 (argsL := [.ref b, .int (Int32.ofNat 0), .int (Int32.ofNat A.slots.size), .null]) (rest := []) rfl rfl (by show 2 * 0 + 0 ≤ _; decide) (hb hbytes d6) (⟨rfl, hB.mv X0.warmed.alike hh0, f1.al X0.warmed.alike, f2.al X0.warmed.alike, hA.mv X0.warmed.alike hh0, s1.there X0.warmed.alike hh0, hz, l0, by omega, l2, fun i hi => by rw [Nat.zero_add]; exact hp i hi⟩)
  have e0 := Got.mv _ s₁ s _ _ hh0.symm (Vm.Alike.refl _) rfl E3
  obtain rfl := e0.1
  have c4 : Steps p.tables e below (s₁.setTop (entryFrame m #[.ref a, .ref b] 2)) (T3.setTop (mkF m 9 #[.val (.ref a), .val (.ref b)] [])) := g3
  exact ⟨T3, none, _, _, _, X3, by simp, rfl, by omega, (fun _ => rfl), e0, fun fs hl => c4.trans (X3.returnOut hexec hret (hb hbytes d9) hl)⟩
theorem pays {l : Launch} {R : Room} {p : Program} {e : Env} {below : List Frame} {s : State} {sargs : Array Value} {len W : Nat} (a : Addr) (D : Cell) (fV fC : Field) (b : Addr) (A : Cell) (z : Int32) (htab : tab.before sargs s = true) (hfr : 4 ≤ R.frames) (hlo : W + 65 ≤ R.locals) :
    Back l R p e below s sargs yN len W (fun A₁ a₁ => A₁.cells + 1 ≤ R.cells ∧ A₁.slots + A.slots.size ≤ R.slots ∧ P a D fV fC b A z a₁ A₁.U) (fun A₁ _ v₁ B₁ => E a D fV fC A v₁ A₁.U B₁.U ∧ B₁.locs = A₁.locs ++ [⟨a, fC.slot⟩, ⟨a, fV.slot⟩] ∧ B₁.cells = A₁.cells + 1 ∧ B₁.slots = A₁.slots + A.slots.size) :=
  (law l a D fV fC b A z).pays htab hfr (by omega)
end New1
end StrChars
namespace StrChars.Road
open Jvm Sem ClassFile Op Lib Jvm.Stand Jvm.Free Jvm.Free.XT
open Jvm.Lib.Cold (StaticIs)
abbrev ST : String := "java/lang/String"
/-- every table word that New1's law asks, flat -/
abbrev words : List Jvm.Cond := [.code New1.yN New1.yB 2 none, .initialized ST, .methodLink ST 27 New4.yN, .instanceMethod New4.yN,
  .code New4.yN New4.yB 6 none, .fieldLink ST 38 ST "COMPACT_STRINGS" "Z", .laysFinal ST ST "value" "[B", .fieldLink ST 9 ST "value" "[B", .laysFinal ST ST "coder" "B", .fieldLink ST 15 ST "coder" "B",
  .methodLink ST 1 Lib.objectInit, .instanceMethod Lib.objectInit, .code Lib.objectInit ⟨#[0xb1]⟩ 1 none, .methodLink ST 177 Cmp3.yN, .static Cmp3.yN, .methodLink ST 47 CodL.yN, .static CodL.yN,
  .code Cmp3.yN Cmp3.yB 6 (some (.array .byte)), .initialized U16, .arrayClass .byte, .methodLink U16 115 Cmp5.yN, .static Cmp5.yN, .code Cmp5.yN Cmp5.yB 7 (some .int), .code CodL.yN CodL.yB 2 (some .byte)]
theorem tab_of {a : Array Value} {s : State} (h : ∀ w ∈ words, w.before a s = true) : New1.tab.before a s = true := by
  have h5 : Cmp5.tab.before a s = true := unparts (wk h (.code Cmp5.yN Cmp5.yB 7 (some .int))) (wks h (.initialized Cmp5.yN.cls :: Cmp5.site))
  have hc : CodL.tab.before a s = true := unparts (wk h (.code CodL.yN CodL.yB 2 (some .byte))) (wks h (.initialized CodL.yN.cls :: CodL.site))
  have q5 : ∀ w ∈ Cmp5.tab :: words, w.before a s = true := fun w hw => (List.mem_cons.mp hw).elim (fun e => e ▸ h5) (h w)
  have h3 : Cmp3.tab.before a s = true := unparts (wk q5 (.code Cmp3.yN Cmp3.yB 6 (some (.array .byte)))) (wks q5 (.initialized Cmp3.yN.cls :: Cmp3.site))
  have q3 : ∀ w ∈ Cmp3.tab :: CodL.tab :: words, w.before a s = true := fun w hw => (List.mem_cons.mp hw).elim (fun e => e ▸ h3) fun hw => (List.mem_cons.mp hw).elim (fun e => e ▸ hc) (h w)
  have h4 : New4.tab.before a s = true := unparts (wk q3 (.code New4.yN New4.yB 6 none)) (wks q3 (.initialized New4.yN.cls :: New4.site))
  have q4 : ∀ w ∈ New4.tab :: words, w.before a s = true := fun w hw => (List.mem_cons.mp hw).elim (fun e => e ▸ h4) (h w)
  exact unparts (wk q4 (.code New1.yN New1.yB 2 none)) (wks q4 (.initialized New1.yN.cls :: New1.site))
/-- the words ride from the start Z to the walk's own state -/
theorem moved {Z s : State} {a0 args : Array Value} (hZ : Z.Warmed39 s.vm) (hw : ∀ d ∈ words, d.before a0 Z = true) : ∀ d ∈ words, d.before args s = true := fun d hd => by
  have q := hw d hd
  have t : ∀ d ∈ words, d = .arrayClass .byte ∨ (d.onTables && d.keepsFace) = true := by decide +kernel
  rcases t d hd with rfl | t
  · exact RoadKit.mvA hZ q
  · exact RoadKit.mv hZ q t
/-- WHAT COMES BACK, over the tables of the start Z: h the heap at the call, h' behind it -/
def Q (Z : State) (x : Addr) (A : Cell) (h : Heap) (v : Option Value) (h' : Heap) (L : List Loc) : Prop := v = none ∧ (∀ y ∈ L, y.base = x) ∧ RoadKit.Keep h h' [x] ∧ h'.size = h.size + 1 ∧ RoadKit.Exa Z h' x ST ∧ RoadKit.Fld Z h' x ST "value" "[B" (.ref h.size) ∧ RoadKit.Fld Z h' x ST "coder" "B" (.int 0) ∧
  (∃ V : Cell, RoadKit.Arr Z h' h.size V .byte ∧ V.vm = .none ∧ Z.vm.findClass "[B" = some V.cls ∧ V.slots.size = A.slots.size ∧ ∀ j, j < A.slots.size → V.slots[j]? = some (.int (lo8 (cv A j)))) ∧
  ∀ (O n d : String) (w : Value), RoadKit.Fld Z h x O n d w → RoadKit.slotOf Z O n d ≠ RoadKit.slotOf Z ST "value" "[B" → RoadKit.slotOf Z O n d ≠ RoadKit.slotOf Z ST "coder" "B" → RoadKit.Fld Z h' x O n d w
/-- **new String(chars) AT A CALL, IN THE ROAD'S FORM**: for specialBack behind newO: x the fresh String, b the char[] with the cell A -/
theorem back {p : Program} {l : Launch} {e : Env} {R : Room} {s : State} {args : Array Value} {below : List Frame} {len W : Nat} {Z : State} {a0 : Array Value} {h : Heap} (hZ : Z.Warmed39 s.vm) (hw : ∀ d ∈ words, d.before a0 Z = true) {kI : Nat} (wi : (Jvm.Cond.instantiable ST kI).before a0 Z = true)
    {x b : Addr} {A : Cell} {z : Int32} {v0 c0 : Value} (E : RoadKit.Exa Z h x ST) (V : RoadKit.Fld Z h x ST "value" "[B" v0) (C : RoadKit.Fld Z h x ST "coder" "B" c0) (K : RoadKit.Arr Z h b A .char) (hty : Typed .char A) (S : RoadKit.Sta Z h ST "COMPACT_STRINGS" "Z" (.int z)) (hz : ¬ z = 0)
    (l0 : 0 < A.slots.size) (l2 : A.slots.size ≤ 536870912) (hp : ∀ i, i < A.slots.size → ¬ 255 < cv A i) (hfr : 4 ≤ R.frames) (hlo : W + 65 ≤ R.locals) :
    Back l R p e below s args New1.yN len W (fun P a => a = #[.ref x, .ref b] ∧ P.U.heap = h ∧ P.cells + 1 ≤ R.cells ∧ P.slots + A.slots.size ≤ R.slots)
      (fun P _ v B => ∃ L, Q Z x A h v B.U.heap L ∧ B.locs = P.locs ++ L ∧ B.cells = P.cells + 1 ∧ B.slots = P.slots + A.slots.size) := by
  intro m meth c P g ig mk a X hg hsize hdg hW hn hp'
  obtain ⟨rfl, rfl, r1, r2⟩ := hp'
  have al : Z.vm.Alike P.U.vm := hZ.alike.trans X.warmed.alike
  obtain ⟨D, cfV, kV, iV, fV, hD, gV, stV, knV, obV, asV, slV⟩ := id V
  obtain ⟨D', cfC, kC, iC, fC, hD', gC, stC, -, -, asC, slC⟩ := id C
  cases hD.symm.trans hD'
  obtain ⟨D2, kD, e1, e2, e3, e4, e5⟩ := id E
  cases hD.symm.trans e1
  obtain ⟨c2, k2, i1, i2, i3, -⟩ := Cond.instantiable_spec wi
  cases e2.symm.trans i1
  cases e3.symm.trans i2
  obtain ⟨kU, u1, u2⟩ := al.2.2 _ _ e3
  have hB : Blank ST x D P.U := ⟨hD, ⟨knV, fun q hq => by rw [hq] at obV; cases obV⟩, by rw [al.findClass]; exact e2, kU, u1, by rw [u2]; exact i3, by rw [u2]; exact e5 i3⟩
  have F1 : Found ST "value" "[B" fV P.U := ⟨SBG.found_only al ⟨cfV, kV, iV, gV⟩, stV⟩
  have F2 : Found ST "coder" "B" fC P.U := ⟨SBG.found_only al ⟨cfC, kC, iC, gC⟩, stC⟩
  have hA : Ch b A P.U := ⟨⟨K.1, State.isArrayOf_alike al K.2.1, K.2.2, by omega⟩, hty⟩
  have hS : StaticIs P.U ST "COMPACT_STRINGS" "Z" (.int z) := by
    obtain ⟨cfS, iS, kS, fS, st, cS, t1, t2, t3, t4, t5, t6, t7⟩ := S
    exact StaticIs.there (s := { Z with heap := P.U.heap }) ⟨cfS, iS, kS, fS, st, cS, t1, t2, t3, t4, t5, (fun q => by rw [q] at t6; cases t6), t7⟩ al rfl
  obtain ⟨v, B, X', ⟨⟨hv, E', V', q1, q2, q3, q4, q5, q6, q7, q8, q9, q10, q11⟩, hl, hc, hs⟩, st⟩ := New1.pays x D fV fC b A z (tab_of (moved hZ hw)) hfr hlo m meth c P g ig mk _ X hg hsize hdg hW hn ⟨r1, r2, rfl, hB, F1, F2, hA, hS, hz, l0, l2, hp⟩
  have al' : Z.vm.Alike B.U.vm := hZ.alike.trans X'.warmed.alike
  have hsz : E'.slots.size = D.slots.size := by
    obtain ⟨-, -, -, kB, w1, w2, w3⟩ := q1
    obtain ⟨kB', y1, y2⟩ := al'.2.2 _ _ e3
    rw [q2.2.1] at w1
    cases w1.symm.trans y1
    rw [w3, e5 i3, y2]
  refine ⟨v, B, X', ⟨_, ⟨hv, ?_, ⟨by omega, fun y cy hy hn' => q10 y cy (by simpa using hn') hy, fun y cy hy => ?_⟩, q11, ⟨E', _, q1.1, by rw [q2.2.1]; exact e2, by rw [q2.2.1]; exact e3, by rw [q2.1]; exact obV, fun _ => by rw [hsz]; exact e5 i3⟩,
    ⟨E', cfV, kV, iV, fV, q1.1, gV, stV, by rw [q2.1]; exact knV, by rw [q2.1]; exact obV, by rw [q2.2.1]; exact asV, q3⟩, ⟨E', cfC, kC, iC, fC, q1.1, gC, stC, by rw [q2.1]; exact knV, by rw [q2.1]; exact obV, by rw [q2.2.1]; exact asC, q4⟩,
    ⟨V', ⟨q5.1, State.isArrayOf_alike al'.symm q5.2.1, q5.2.2.1⟩, q6, by rw [← al'.findClass]; exact q7, q8, fun j hj => by have := q9 j hj; rwa [Nat.zero_add] at this⟩, fun O n d w F n1 n2 => ?_⟩, hl, hc, hs⟩, st⟩
  · intro y hy
    simp only [List.mem_cons, List.not_mem_nil, or_false] at hy
    rcases hy with rfl | rfl <;> rfl
  · by_cases q : y = x
    · subst q
      cases hD.symm.trans hy
      exact ⟨E', q1.1, q2.2.1, q2.1, hsz⟩
    · exact ⟨cy, q10 y cy q hy, rfl, rfl, rfl⟩
  · obtain ⟨D3, cf, k, i, f, g1, g2, g3, g4, g5, g6, g7⟩ := F
    cases hD.symm.trans g1
    simp only [RoadKit.slotOf, g2, gV, gC, Option.map_some, Option.getD_some] at n1 n2
    exact ⟨E', cf, k, i, f, q1.1, g2, g3, by rw [q2.1]; exact g4, by rw [q2.1]; exact g5, by rw [q2.2.1]; exact g6, by rw [q2.2.2 f.slot (by simp [n1, n2])]; exact g7⟩
end StrChars.Road
namespace StrChars.Road
open Jvm Sem ClassFile Op Lib Jvm.Stand Jvm.Free Jvm.Free.XT
/-- WHAT COMES BACK, the byte[] as a list of values -/
def QA (Z : State) (x : Addr) (zn : Int32) (cs : List Int32) (h : Heap) (v : Option Value) (h' : Heap) (L : List Loc) : Prop := v = none ∧ (∀ y ∈ L, y.base = x) ∧ RoadKit.Keep h h' [x] ∧ h'.size = h.size + 1 ∧ RoadKit.Exa Z h' x ST ∧ RoadKit.Fld Z h' x ST "value" "[B" (.ref h.size) ∧ RoadKit.Fld Z h' x ST "coder" "B" (.int 0) ∧
  (∃ kb, Z.vm.findClass "[B" = some kb ∧ RoadKit.Arv Z h' h.size kb .byte zn (cs.map fun c => .int (lo8 c)) (.int 0)) ∧
  ∀ (O n d : String) (w : Value), RoadKit.Fld Z h x O n d w → RoadKit.slotOf Z O n d ≠ RoadKit.slotOf Z ST "value" "[B" → RoadKit.slotOf Z O n d ≠ RoadKit.slotOf Z ST "coder" "B" → RoadKit.Fld Z h' x O n d w
/-- **new String(chars) AT A CALL, THE ARRAYS AS LISTS**: the char[] at b holds cs, not empty, no char above 255 -/
theorem backArv {p : Program} {l : Launch} {e : Env} {R : Room} {s : State} {args : Array Value} {below : List Frame} {len W : Nat} {Z : State} {a0 : Array Value} {h : Heap} (hZ : Z.Warmed39 s.vm) (hw : ∀ d ∈ words, d.before a0 Z = true) {kI : Nat} (wi : (Jvm.Cond.instantiable ST kI).before a0 Z = true)
    {x b : Addr} {k : ClassId} {zn z : Int32} {cs : List Int32} {dv v0 c0 : Value} (E : RoadKit.Exa Z h x ST) (V : RoadKit.Fld Z h x ST "value" "[B" v0) (C : RoadKit.Fld Z h x ST "coder" "B" c0) (K : RoadKit.Arv Z h b k .char zn (cs.map Value.int) dv) (S : RoadKit.Sta Z h ST "COMPACT_STRINGS" "Z" (.int z)) (hz : ¬ z = 0)
    (hlen : zn.toNatClampNeg = cs.length) (h0 : 0 < cs.length) (hbig : cs.length ≤ 536870912) (hall : ∀ c ∈ cs, ¬ 255 < c) (hfr : 4 ≤ R.frames) (hlo : W + 65 ≤ R.locals) :
    Back l R p e below s args New1.yN len W (fun P a => a = #[.ref x, .ref b] ∧ P.U.heap = h ∧ P.cells + 1 ≤ R.cells ∧ P.slots + cs.length ≤ R.slots)
      (fun P _ v B => ∃ L, QA Z x zn cs h v B.U.heap L ∧ B.locs = P.locs ++ L ∧ B.cells = P.cells + 1 ∧ B.slots = P.slots + cs.length) := by
  obtain ⟨A, K1, K2, K3, K4, K5, K6⟩ := K
  have e : A.slots.size = cs.length := K3.trans hlen
  have hat : ∀ (i : Nat) (hi : i < cs.length), A.slots[i]? = some (.int cs[i]) := fun i hi => by rw [K5 i (by omega)]; simp [List.getD_eq_getElem?_getD, hi]
  have hcv : ∀ (i : Nat) (hi : i < cs.length), cv A i = cs[i] := fun i hi => by unfold cv; rw [hat i hi]
  have hty : Typed .char A := fun i v hv => by
    have hi : i < A.slots.size := (Array.getElem?_eq_some_iff.mp hv).1
    have q := K5 i hi
    rw [hv] at q
    rw [Option.some.inj q]
    exact K6 i hi
  refine Back.mono (back hZ hw wi E V C K1 hty S hz (by omega) (by omega) (fun i hi => by rw [hcv i (by omega)]; exact hall _ (List.getElem_mem _)) hfr hlo) (fun P a hp => ⟨hp.1, hp.2.1, hp.2.2.1, by rw [e]; exact hp.2.2.2⟩) (fun P a v B hp hq => ?_)
  obtain ⟨L, ⟨q1, q2, q3, q4, q5, q6, q7, ⟨V', v1, v2, v3, v4, v5⟩, q9⟩, hl, hc, hs⟩ := hq
  refine ⟨L, ⟨q1, q2, q3, q4, q5, q6, q7, ⟨V'.cls, v3, V', v1, rfl, by rw [v4, e, hlen], K4, fun i hi => ?_, fun i hi => ?_⟩, q9⟩, hl, hc, by rw [hs, e]⟩
  · have hi' : i < cs.length := by omega
    rw [v5 i (by omega), hcv i hi']; simp [List.getD_eq_getElem?_getD, hi']
  · have hi' : i < cs.length := by omega
    simp only [List.getD_eq_getElem?_getD, List.getElem?_map, List.getElem?_eq_getElem hi', Option.map_some, Option.getD_some]
    exact fits_lo8 _
end StrChars.Road
namespace StrChars.Road
open Jvm Sem ClassFile Op Lib Jvm.Stand Jvm.Free Jvm.Free.XT
/-- WHAT COMES BACK, in the writer's own shape -/
def QV (Z : State) (x : Addr) (N : Int32) (bs : List Int32) (h : Heap) (n0 : Nat) (v : Option Value) (h' : Heap) (L : List Loc) : Prop := v = none ∧ RoadKit.Fr n0 L ∧ RoadKit.Keep h h' [x] ∧ RoadKit.Exa Z h' x ST ∧ RoadKit.Fld Z h' x ST "coder" "B" (.int 0) ∧
  ∃ (t : Addr) (kb : ClassId), n0 ≤ t ∧ h.size ≤ t ∧ ¬ t = x ∧ RoadKit.Fld Z h' x ST "value" "[B" (.ref t) ∧ RoadKit.Arv Z h' t kb .byte N (bs.map Value.int) (.int 0)
/-- **new String(chars) AT A CALL, FOR THE WRITER**: a char[] of n known ints, each 0 to 255 -/
theorem backV {p : Program} {l : Launch} {e : Env} {R : Room} {s : State} {args : Array Value} {below : List Frame} {len W : Nat} {Z : State} {a0 : Array Value} {h : Heap} (hZ : Z.Warmed39 s.vm) (hw : ∀ d ∈ words, d.before a0 Z = true) {kI : Nat} (wi : (Jvm.Cond.instantiable ST kI).before a0 Z = true)
    {x b : Addr} {kC : ClassId} {cs bs : List Int32} {d v0 c0 : Value} {z N : Int32} {n n0 : Nat} (hx0 : n0 ≤ x) (hh0 : n0 ≤ h.size) (E : RoadKit.Exa Z h x ST) (V : RoadKit.Fld Z h x ST "value" "[B" v0) (C : RoadKit.Fld Z h x ST "coder" "B" c0) (K : RoadKit.Arv Z h b kC .char N (cs.map Value.int) d) (S : RoadKit.Sta Z h ST "COMPACT_STRINGS" "Z" (.int z)) (hz : ¬ z = 0)
    (hn : cs.length = n) (hN : N = Int32.ofNat n) (l0 : 0 < n) (l2 : n ≤ 4000) (hp : ∀ c ∈ cs, ¬ c < 0 ∧ ¬ (255 : Int32) < c) (hb : bs = cs.map (fun c => c.toInt8.toInt32)) (hfr : 4 ≤ R.frames) (hlo : W + 65 ≤ R.locals) :
    Back l R p e below s args (⟨"java/lang/String", "<init>", "([C)V"⟩ : MethodName) len W (fun P a => a = #[.ref x, .ref b] ∧ P.U.heap = h ∧ P.cells + 1 ≤ R.cells ∧ P.slots + n ≤ R.slots)
      (fun P _ v B => ∃ L, QV Z x N bs h n0 v B.U.heap L ∧ B.locs = P.locs ++ L ∧ B.cells = P.cells + 1 ∧ B.slots = P.slots + n) := by
  subst hn hN hb
  refine Back.mono (backArv hZ hw wi E V C K S hz (n32 (by omega)) l0 (by omega) (fun c hc => (hp c hc).2) hfr hlo) (fun P a hp => hp) (fun P a v B hp hq => ?_)
  obtain ⟨L, ⟨q1, q2, q3, q4, q5, q6, q7, ⟨kb, v1, v2⟩, q9⟩, hl, hc, hs⟩ := hq
  exact ⟨L, ⟨q1, fun y hy => by rw [q2 y hy]; exact hx0, q3, q5, q7, h.size, kb, hh0, Nat.le_refl _, Nat.ne_of_gt E.lt, q6, by rw [List.map_map]; exact v2⟩, hl, hc, hs⟩
end StrChars.Road
end Jvm.Pilot.@@N@@
namespace Jvm.Pilot.@@N@@
open Jvm Jvm.ClassFile Sem Op Lib Jvm.Free Jvm.Stand Jvm.LawKit Jvm.RoadKit Bundle Jvm.Own Jvm.Pilot.@@N@@.Jvm.D
theorem d0_0 : decode jdk_30_method_1_code 0 = .ok (.aload_n 0, 1) := by decide +kernel
theorem d0_1 : decode jdk_30_method_1_code 1 = .ok (.invokespecial 1, 3) := by decide +kernel
theorem W21 {Z : State} {a0 : Array Value} (hw : ∀ d ∈ tables_1, d.before a0 Z = true) : (Jvm.Cond.methodLink "java/lang/Record" (1 : Nat) ({ cls := "java/lang/Object", name := "<init>", desc := "()V" } : Jvm.MethodName)).before a0 Z = true := hw _ (List.mem_of_getElem? (i := 21) rfl)
theorem W22 {Z : State} {a0 : Array Value} (hw : ∀ d ∈ tables_1, d.before a0 Z = true) : (Jvm.Cond.instanceMethod ({ cls := "java/lang/Object", name := "<init>", desc := "()V" } : Jvm.MethodName)).before a0 Z = true := hw _ (List.mem_of_getElem? (i := 22) rfl)
theorem W23 {Z : State} {a0 : Array Value} (hw : ∀ d ∈ tables_1, d.before a0 Z = true) : (Jvm.Cond.code ({ cls := "java/lang/Object", name := "<init>", desc := "()V" } : Jvm.MethodName) object_method_1_code (1 : Nat) (Option.none : Option Jvm.ClassFile.FieldType)).before a0 Z = true := hw _ (List.mem_of_getElem? (i := 23) rfl)
theorem d0_4 : decode jdk_30_method_1_code 4 = .ok (.return_, 1) := by decide +kernel
theorem pn_5265636f7264_3 : plainName "java/lang/Record" = true := by first | (simp [plainName, overriddenIn]; done) | decide +kernel
theorem d1_0 : decode prog_78_method_1_code 0 = .ok (.aload_n 0, 1) := by decide +kernel
theorem d1_1 : decode prog_78_method_1_code 1 = .ok (.invokespecial 3, 3) := by decide +kernel
theorem W16 {Z : State} {a0 : Array Value} (hw : ∀ d ∈ tables_1, d.before a0 Z = true) : (Jvm.Cond.methodLink "com/example/tessera/tessera/Printf$Directive" (3 : Nat) ({ cls := "java/lang/Record", name := "<init>", desc := "()V" } : Jvm.MethodName)).before a0 Z = true := hw _ (List.mem_of_getElem? (i := 16) rfl)
theorem pd_282956 : parseMethodDescriptor "()V" = some ⟨[], none⟩ := by decide +kernel
theorem W17 {Z : State} {a0 : Array Value} (hw : ∀ d ∈ tables_1, d.before a0 Z = true) : (Jvm.Cond.instanceMethod ({ cls := "java/lang/Record", name := "<init>", desc := "()V" } : Jvm.MethodName)).before a0 Z = true := hw _ (List.mem_of_getElem? (i := 17) rfl)
theorem W20 {Z : State} {a0 : Array Value} (hw : ∀ d ∈ tables_1, d.before a0 Z = true) : (Jvm.Cond.code ({ cls := "java/lang/Record", name := "<init>", desc := "()V" } : Jvm.MethodName) jdk_30_method_1_code (1 : Nat) (Option.none : Option Jvm.ClassFile.FieldType)).before a0 Z = true := hw _ (List.mem_of_getElem? (i := 20) rfl)
theorem W19 {Z : State} {a0 : Array Value} (hw : ∀ d ∈ tables_1, d.before a0 Z = true) : (Jvm.Cond.initialized "java/lang/Record").before a0 Z = true := hw _ (List.mem_of_getElem? (i := 19) rfl)
theorem d1_4 : decode prog_78_method_1_code 4 = .ok (.aload_n 0, 1) := by decide +kernel
theorem d1_5 : decode prog_78_method_1_code 5 = .ok (.aload_n 1, 1) := by decide +kernel
theorem d1_6 : decode prog_78_method_1_code 6 = .ok (.putfield 9, 3) := by decide +kernel
theorem W24 {Z : State} {a0 : Array Value} (hw : ∀ d ∈ tables_1, d.before a0 Z = true) : (Jvm.Cond.fieldLink "com/example/tessera/tessera/Printf$Directive" (9 : Nat) "com/example/tessera/tessera/Printf$Directive" "flags" "Ljava/lang/String;").before a0 Z = true := hw _ (List.mem_of_getElem? (i := 24) rfl)
theorem W25 {Z : State} {a0 : Array Value} (hw : ∀ d ∈ tables_1, d.before a0 Z = true) : (Jvm.Cond.laysFinal "com/example/tessera/tessera/Printf$Directive" "com/example/tessera/tessera/Printf$Directive" "flags" "Ljava/lang/String;").before a0 Z = true := hw _ (List.mem_of_getElem? (i := 25) rfl)
theorem W11 {Z : State} {a0 : Array Value} (hw : ∀ d ∈ tables_1, d.before a0 Z = true) : (Jvm.Cond.instantiable "com/example/tessera/tessera/Printf$Directive" (5 : Nat)).before a0 Z = true := hw _ (List.mem_of_getElem? (i := 11) rfl)
theorem W27 {Z : State} {a0 : Array Value} (hw : ∀ d ∈ tables_1, d.before a0 Z = true) : (Jvm.Cond.laysFinal "com/example/tessera/tessera/Printf$Directive" "com/example/tessera/tessera/Printf$Directive" "width" "I").before a0 Z = true := hw _ (List.mem_of_getElem? (i := 27) rfl)
theorem W29 {Z : State} {a0 : Array Value} (hw : ∀ d ∈ tables_1, d.before a0 Z = true) : (Jvm.Cond.laysFinal "com/example/tessera/tessera/Printf$Directive" "com/example/tessera/tessera/Printf$Directive" "precision" "I").before a0 Z = true := hw _ (List.mem_of_getElem? (i := 29) rfl)
theorem W31 {Z : State} {a0 : Array Value} (hw : ∀ d ∈ tables_1, d.before a0 Z = true) : (Jvm.Cond.laysFinal "com/example/tessera/tessera/Printf$Directive" "com/example/tessera/tessera/Printf$Directive" "conversion" "C").before a0 Z = true := hw _ (List.mem_of_getElem? (i := 31) rfl)
theorem W33 {Z : State} {a0 : Array Value} (hw : ∀ d ∈ tables_1, d.before a0 Z = true) : (Jvm.Cond.laysFinal "com/example/tessera/tessera/Printf$Directive" "com/example/tessera/tessera/Printf$Directive" "end" "I").before a0 Z = true := hw _ (List.mem_of_getElem? (i := 33) rfl)
theorem d1_9 : decode prog_78_method_1_code 9 = .ok (.aload_n 0, 1) := by decide +kernel
theorem d1_10 : decode prog_78_method_1_code 10 = .ok (.iload_n 2, 1) := by decide +kernel
theorem d1_11 : decode prog_78_method_1_code 11 = .ok (.putfield 15, 3) := by decide +kernel
theorem W26 {Z : State} {a0 : Array Value} (hw : ∀ d ∈ tables_1, d.before a0 Z = true) : (Jvm.Cond.fieldLink "com/example/tessera/tessera/Printf$Directive" (15 : Nat) "com/example/tessera/tessera/Printf$Directive" "width" "I").before a0 Z = true := hw _ (List.mem_of_getElem? (i := 26) rfl)
theorem d1_14 : decode prog_78_method_1_code 14 = .ok (.aload_n 0, 1) := by decide +kernel
theorem d1_15 : decode prog_78_method_1_code 15 = .ok (.iload_n 3, 1) := by decide +kernel
theorem d1_16 : decode prog_78_method_1_code 16 = .ok (.putfield 19, 3) := by decide +kernel
theorem W28 {Z : State} {a0 : Array Value} (hw : ∀ d ∈ tables_1, d.before a0 Z = true) : (Jvm.Cond.fieldLink "com/example/tessera/tessera/Printf$Directive" (19 : Nat) "com/example/tessera/tessera/Printf$Directive" "precision" "I").before a0 Z = true := hw _ (List.mem_of_getElem? (i := 28) rfl)
theorem d1_19 : decode prog_78_method_1_code 19 = .ok (.aload_n 0, 1) := by decide +kernel
theorem d1_20 : decode prog_78_method_1_code 20 = .ok (.iload 4, 2) := by decide +kernel
theorem d1_22 : decode prog_78_method_1_code 22 = .ok (.putfield 22, 3) := by decide +kernel
theorem W30 {Z : State} {a0 : Array Value} (hw : ∀ d ∈ tables_1, d.before a0 Z = true) : (Jvm.Cond.fieldLink "com/example/tessera/tessera/Printf$Directive" (22 : Nat) "com/example/tessera/tessera/Printf$Directive" "conversion" "C").before a0 Z = true := hw _ (List.mem_of_getElem? (i := 30) rfl)
theorem d1_25 : decode prog_78_method_1_code 25 = .ok (.aload_n 0, 1) := by decide +kernel
theorem d1_26 : decode prog_78_method_1_code 26 = .ok (.iload 5, 2) := by decide +kernel
theorem d1_28 : decode prog_78_method_1_code 28 = .ok (.putfield 26, 3) := by decide +kernel
theorem W32 {Z : State} {a0 : Array Value} (hw : ∀ d ∈ tables_1, d.before a0 Z = true) : (Jvm.Cond.fieldLink "com/example/tessera/tessera/Printf$Directive" (26 : Nat) "com/example/tessera/tessera/Printf$Directive" "end" "I").before a0 Z = true := hw _ (List.mem_of_getElem? (i := 32) rfl)
theorem d1_31 : decode prog_78_method_1_code 31 = .ok (.return_, 1) := by decide +kernel
theorem pn_656374697665_1 : plainName "com/example/tessera/tessera/Printf$Directive" = true := by first | (simp [plainName, overriddenIn]; done) | decide +kernel
theorem d2_0 : decode prog_78_method_3_code 0 = .ok (.aload_n 0, 1) := by decide +kernel
theorem d2_1 : decode prog_78_method_3_code 1 = .ok (.getfield 22, 3) := by decide +kernel
theorem d2_4 : decode prog_78_method_3_code 4 = .ok (.bipush 115, 2) := by decide +kernel
theorem d2_6 : decode prog_78_method_3_code 6 = .ok (.if_icmp .eq 7, 3) := by decide +kernel
theorem d2_13 : decode prog_78_method_3_code 13 = .ok (.iconst 0, 1) := by decide +kernel
theorem d2_14 : decode prog_78_method_3_code 14 = .ok (.ireturn, 1) := by decide +kernel
theorem d2_9 : decode prog_78_method_3_code 9 = .ok (.iconst 1, 1) := by decide +kernel
theorem d2_10 : decode prog_78_method_3_code 10 = .ok (.goto 4, 3) := by decide +kernel
theorem W0 {Z : State} {a0 : Array Value} (hw : ∀ d ∈ tables_1, d.before a0 Z = true) : (Jvm.Cond.constant "com/example/tessera/tessera/DirectiveNumericPinLaw" (7 : Nat) (2147483647 : Int32)).before a0 Z = true := hw _ (List.mem_of_getElem? (i := 0) rfl)
theorem W1 {Z : State} {a0 : Array Value} (hw : ∀ d ∈ tables_1, d.before a0 Z = true) : (Jvm.Cond.arrayClass Jvm.ClassFile.FieldType.char).before a0 Z = true := hw _ (List.mem_of_getElem? (i := 1) rfl)
theorem W2 {Z : State} {a0 : Array Value} (hw : ∀ d ∈ tables_1, d.before a0 Z = true) : (Jvm.Cond.stringLink "com/example/tessera/tessera/DirectiveNumericPinLaw" (13 : Nat) "").before a0 Z = true := hw _ (List.mem_of_getElem? (i := 2) rfl)
theorem W10 {Z : State} {a0 : Array Value} (hw : ∀ d ∈ tables_1, d.before a0 Z = true) : (Jvm.Cond.classLink "com/example/tessera/tessera/DirectiveNumericPinLaw" (15 : Nat) "com/example/tessera/tessera/Printf$Directive").before a0 Z = true := hw _ (List.mem_of_getElem? (i := 10) rfl)
theorem W12 {Z : State} {a0 : Array Value} (hw : ∀ d ∈ tables_1, d.before a0 Z = true) : (Jvm.Cond.initialized "com/example/tessera/tessera/Printf$Directive").before a0 Z = true := hw _ (List.mem_of_getElem? (i := 12) rfl)
theorem W13 {Z : State} {a0 : Array Value} (hw : ∀ d ∈ tables_1, d.before a0 Z = true) : (Jvm.Cond.methodLink "com/example/tessera/tessera/DirectiveNumericPinLaw" (17 : Nat) ({ cls := "com/example/tessera/tessera/Printf$Directive", name := "<init>", desc := "(Ljava/lang/String;IICI)V" } : Jvm.MethodName)).before a0 Z = true := hw _ (List.mem_of_getElem? (i := 13) rfl)
theorem pd_3 : parseMethodDescriptor "(Ljava/lang/String;IICI)V" = some ⟨[(.object "java/lang/String"), .int, .int, .char, .int], none⟩ := by decide +kernel
theorem W14 {Z : State} {a0 : Array Value} (hw : ∀ d ∈ tables_1, d.before a0 Z = true) : (Jvm.Cond.instanceMethod ({ cls := "com/example/tessera/tessera/Printf$Directive", name := "<init>", desc := "(Ljava/lang/String;IICI)V" } : Jvm.MethodName)).before a0 Z = true := hw _ (List.mem_of_getElem? (i := 14) rfl)
theorem W15 {Z : State} {a0 : Array Value} (hw : ∀ d ∈ tables_1, d.before a0 Z = true) : (Jvm.Cond.code ({ cls := "com/example/tessera/tessera/Printf$Directive", name := "<init>", desc := "(Ljava/lang/String;IICI)V" } : Jvm.MethodName) prog_78_method_1_code (6 : Nat) (Option.none : Option Jvm.ClassFile.FieldType)).before a0 Z = true := hw _ (List.mem_of_getElem? (i := 15) rfl)
theorem W34 {Z : State} {a0 : Array Value} (hw : ∀ d ∈ tables_1, d.before a0 Z = true) : (Jvm.Cond.methodLink "com/example/tessera/tessera/DirectiveNumericPinLaw" (20 : Nat) ({ cls := "com/example/tessera/tessera/Printf$Directive", name := "numeric", desc := "()Z" } : Jvm.MethodName)).before a0 Z = true := hw _ (List.mem_of_getElem? (i := 34) rfl)
theorem pd_28295a : parseMethodDescriptor "()Z" = some ⟨[], (some .boolean)⟩ := by decide +kernel
theorem W35 {Z : State} {a0 : Array Value} (hw : ∀ d ∈ tables_1, d.before a0 Z = true) : (Jvm.Cond.declares ({ cls := "com/example/tessera/tessera/Printf$Directive", name := "numeric", desc := "()Z" } : Jvm.MethodName)).before a0 Z = true := hw _ (List.mem_of_getElem? (i := 35) rfl)
theorem W37 {Z : State} {a0 : Array Value} (hw : ∀ d ∈ tables_1, d.before a0 Z = true) : (Jvm.Cond.selects "com/example/tessera/tessera/Printf$Directive" ({ cls := "com/example/tessera/tessera/Printf$Directive", name := "numeric", desc := "()Z" } : Jvm.MethodName) ({ cls := "com/example/tessera/tessera/Printf$Directive", name := "numeric", desc := "()Z" } : Jvm.MethodName)).before a0 Z = true := hw _ (List.mem_of_getElem? (i := 37) rfl)
theorem W36 {Z : State} {a0 : Array Value} (hw : ∀ d ∈ tables_1, d.before a0 Z = true) : (Jvm.Cond.instanceMethod ({ cls := "com/example/tessera/tessera/Printf$Directive", name := "numeric", desc := "()Z" } : Jvm.MethodName)).before a0 Z = true := hw _ (List.mem_of_getElem? (i := 36) rfl)
theorem W38 {Z : State} {a0 : Array Value} (hw : ∀ d ∈ tables_1, d.before a0 Z = true) : (Jvm.Cond.code ({ cls := "com/example/tessera/tessera/Printf$Directive", name := "numeric", desc := "()Z" } : Jvm.MethodName) prog_78_method_3_code (1 : Nat) (Option.some Jvm.ClassFile.FieldType.boolean)).before a0 Z = true := hw _ (List.mem_of_getElem? (i := 38) rfl)
theorem W39 {Z : State} {a0 : Array Value} (hw : ∀ d ∈ tables_1, d.before a0 Z = true) : (Jvm.Cond.classLink "com/example/tessera/tessera/DirectiveNumericPinLaw" (8 : Nat) "java/lang/String").before a0 Z = true := hw _ (List.mem_of_getElem? (i := 39) rfl)
theorem W4 {Z : State} {a0 : Array Value} (hw : ∀ d ∈ tables_1, d.before a0 Z = true) : (Jvm.Cond.instantiable "java/lang/String" (4 : Nat)).before a0 Z = true := hw _ (List.mem_of_getElem? (i := 4) rfl)
theorem W3 {Z : State} {a0 : Array Value} (hw : ∀ d ∈ tables_1, d.before a0 Z = true) : (Jvm.Cond.initialized "java/lang/String").before a0 Z = true := hw _ (List.mem_of_getElem? (i := 3) rfl)
theorem W40 {Z : State} {a0 : Array Value} (hw : ∀ d ∈ tables_1, d.before a0 Z = true) : (Jvm.Cond.methodLink "com/example/tessera/tessera/DirectiveNumericPinLaw" (10 : Nat) ({ cls := "java/lang/String", name := "<init>", desc := "([C)V" } : Jvm.MethodName)).before a0 Z = true := hw _ (List.mem_of_getElem? (i := 40) rfl)
theorem W6 {Z : State} {a0 : Array Value} (hw : ∀ d ∈ tables_1, d.before a0 Z = true) : (Jvm.Cond.laysFinal "java/lang/String" "java/lang/String" "value" "[B").before a0 Z = true := hw _ (List.mem_of_getElem? (i := 6) rfl)
theorem W7 {Z : State} {a0 : Array Value} (hw : ∀ d ∈ tables_1, d.before a0 Z = true) : (Jvm.Cond.laysFinal "java/lang/String" "java/lang/String" "coder" "B").before a0 Z = true := hw _ (List.mem_of_getElem? (i := 7) rfl)
theorem W41 {Z : State} {a0 : Array Value} (hw : ∀ d ∈ tables_1, d.before a0 Z = true) : (Jvm.Cond.instanceMethod ({ cls := "java/lang/String", name := "<init>", desc := "([C)V" } : Jvm.MethodName)).before a0 Z = true := hw _ (List.mem_of_getElem? (i := 41) rfl)
theorem W42 {Z : State} {a0 : Array Value} (hw : ∀ d ∈ tables_1, d.before a0 Z = true) : (Jvm.Cond.code ({ cls := "java/lang/String", name := "<init>", desc := "([C)V" } : Jvm.MethodName) jdk_42_method_3_code (2 : Nat) (Option.none : Option Jvm.ClassFile.FieldType)).before a0 Z = true := hw _ (List.mem_of_getElem? (i := 42) rfl)
theorem pd_285b432956 : parseMethodDescriptor "([C)V" = some ⟨[(.array .char)], none⟩ := by decide +kernel
theorem pn_50696e4c6177_0 : plainName "com/example/tessera/tessera/DirectiveNumericPinLaw" = true := by first | (simp [plainName, overriddenIn]; done) | decide +kernel
def Glob (Z : State) (a0 : Array Value) (EL : List (String × Nat)) : Prop :=
  (∀ d ∈ tables_1, d.before a0 Z = true) ∧ EW Z a0 EL ∧ EL = [] ∧ (∃ z : Int32, Sta Z Z.heap "java/lang/String" "COMPACT_STRINGS" "Z" (.int z) ∧ ¬ z = 0) ∧ (∃ v : Value, Sta Z Z.heap "jdk/internal/util/Preconditions" "SIOOBE_FORMATTER" "Ljava/util/function/BiFunction;" v ∧ v.isRef = true)
theorem Glob.hw {Z : State} {a0 : Array Value} {EL : List (String × Nat)} (G : Glob Z a0 EL) : ∀ d ∈ tables_1, d.before a0 Z = true := G.1
theorem Glob.ew {Z : State} {a0 : Array Value} {EL : List (String × Nat)} (G : Glob Z a0 EL) : EW Z a0 EL := G.2.1
theorem Glob.el {Z : State} {a0 : Array Value} {EL : List (String × Nat)} (G : Glob Z a0 EL) : EL = [] := G.2.2.1
theorem Glob.cs {Z : State} {a0 : Array Value} {EL : List (String × Nat)} (G : Glob Z a0 EL) : ∃ z : Int32, Sta Z Z.heap "java/lang/String" "COMPACT_STRINGS" "Z" (.int z) ∧ ¬ z = 0 := G.2.2.2.1
theorem Glob.fm {Z : State} {a0 : Array Value} {EL : List (String × Nat)} (G : Glob Z a0 EL) : ∃ v : Value, Sta Z Z.heap "jdk/internal/util/Preconditions" "SIOOBE_FORMATTER" "Ljava/util/function/BiFunction;" v ∧ v.isRef = true := G.2.2.2.2
theorem Glob.wS {Z : State} {a0 : Array Value} {EL : List (String × Nat)} (G : Glob Z a0 EL) : ∀ a ∈ Bundle.stringAtoms, a.before a0 Z = true := fun d hd => G.hw d ((by decide +kernel : ∀ d ∈ Bundle.stringAtoms, d ∈ tables_1) d hd)
theorem Glob.w_backV {Z : State} {a0 : Array Value} {EL : List (String × Nat)} (G : Glob Z a0 EL) : ∀ d ∈ StrChars.Road.words, d.before a0 Z = true := fun d hd => G.hw d ((by decide +kernel : ∀ d ∈ StrChars.Road.words, d ∈ tables_1) d hd)
set_option maxRecDepth 65536 in
set_option maxHeartbeats 40000000 in
theorem rm_Record (l : Launch) (Z : State) (a0 : Array Value) (EL : List (String × Nat)) (G : Glob Z a0 EL) (a : Addr) (h : Heap) (O : Ext Z.heap h)  :
    Met l Z EL false (⟨"java/lang/Record", "<init>", "()V"⟩ : MethodName) jdk_30_method_1_code 1 none [] ({ frames := 1, cells := 0, slots := 0, locals := 12 } : Room) #[(.ref a)] h [] (fun v h' => v = none ∧ h = h') := by
  have hw := G.hw
  obtain ⟨zc, Sc, hzc⟩ := G.cs
  obtain ⟨vf, Sf, hvf⟩ := G.fm
  refine Met.of (plainFor_of_name pn_5265636f7264_3) G.ew O ?_
  intro p e s m below meth c T0 C0 S0
  refine Endw.eq (g' := mkF m 0 #[.val (.ref a)] []) (by first | rfl | (simp [entryFrame, mkF, argsToLocals, own_cI, own_cR, own_cN, own_cJ, own_cD, maxLocals]; done)) ?_
  refine Endw.st (T' := T0) (g' := (mkF m 1 #[.val (.ref a)] [(.ref a)])) (fun t k => XS.aloadN C0.here C0.hx rfl (C0.dec d0_0) rfl rfl k) ?_
  refine C0.initO (W21 hw) (W22 hw) (W23 hw) rfl d0_1 (pc' := 4) rfl (by decide) (W := 0) (Nat.le_of_ble_eq_true rfl) (by decide) ?_
  intro T1 C1
  show Endw p e below T1 (mkF m 4 #[.val (.ref a)] []) _
  exact C1.retV d0_4 (by decide) (by decide) ⟨rfl, rfl⟩
set_option maxRecDepth 65536 in
set_option maxHeartbeats 40000000 in
theorem rm_Dir (l : Launch) (Z : State) (a0 : Array Value) (EL : List (String × Nat)) (G : Glob Z a0 EL) (a : Addr) (v0 : Value) (hv0 : v0.isRef = true) (i1 : Int32) (i2 : Int32) (i3 : Int32) (hn3 : narrow .char (.int i3) = .int i3) (hf3 : fits .char (.int i3) = true) (i4 : Int32) (h : Heap) (O : Ext Z.heap h) (E0 : Exa Z h a "com/example/tessera/tessera/Printf$Directive") (F0 : Fld Z h a "com/example/tessera/tessera/Printf$Directive" "flags" "Ljava/lang/String;" .null) (F1 : Fld Z h a "com/example/tessera/tessera/Printf$Directive" "width" "I" (.int (0 : Int32))) (F2 : Fld Z h a "com/example/tessera/tessera/Printf$Directive" "precision" "I" (.int (0 : Int32))) (F3 : Fld Z h a "com/example/tessera/tessera/Printf$Directive" "conversion" "C" (.int (0 : Int32))) (F4 : Fld Z h a "com/example/tessera/tessera/Printf$Directive" "end" "I" (.int (0 : Int32))) (zg0 : Z.heap.size ≤ a) :
    Met l Z EL false (⟨"com/example/tessera/tessera/Printf$Directive", "<init>", "(Ljava/lang/String;IICI)V"⟩ : MethodName) prog_78_method_1_code 6 none [] ({ frames := 2, cells := 0, slots := 0, locals := 24 } : Room) #[(.ref a), v0, (.int i1), (.int i2), (.int i3), (.int i4)] h [] (fun r h' => r = none ∧ Keep h h' [a] ∧ Exa Z h' a "com/example/tessera/tessera/Printf$Directive" ∧ Fld Z h' a "com/example/tessera/tessera/Printf$Directive" "flags" "Ljava/lang/String;" v0 ∧ Fld Z h' a "com/example/tessera/tessera/Printf$Directive" "width" "I" (.int i1) ∧ Fld Z h' a "com/example/tessera/tessera/Printf$Directive" "precision" "I" (.int i2) ∧ Fld Z h' a "com/example/tessera/tessera/Printf$Directive" "conversion" "C" (.int i3) ∧ Fld Z h' a "com/example/tessera/tessera/Printf$Directive" "end" "I" (.int i4)) := by
  have hw := G.hw
  obtain ⟨zc, Sc, hzc⟩ := G.cs
  obtain ⟨vf, Sf, hvf⟩ := G.fm
  refine Met.of (plainFor_of_name pn_656374697665_1) G.ew O ?_
  intro p e s m below meth c T0 C0 S0
  refine Endw.eq (g' := mkF m 0 #[.val (.ref a), .val v0, .val (.int i1), .val (.int i2), .val (.int i3), .val (.int i4)] []) (by first | rfl | (simp [entryFrame, mkF, argsToLocals, own_cI, own_cR, own_cN, own_cJ, own_cD, maxLocals, XT.cat1 hv0]; done)) ?_
  refine Endw.st (T' := T0) (g' := (mkF m 1 #[.val (.ref a), .val v0, .val (.int i1), .val (.int i2), .val (.int i3), .val (.int i4)] [(.ref a)])) (fun t k => XS.aloadN C0.here C0.hx rfl (C0.dec d1_0) rfl rfl k) ?_
  refine C0.special (y := (⟨"java/lang/Record", "<init>", "()V"⟩ : MethodName)) (W := 0) (a := a) (argsL := []) (rest := []) rfl (W16 hw) (W17 hw) (W20 hw) (W19 hw) (by decide) (rm_Record l Z a0 EL G a h C0.old) rfl all0 (by decide) (by decide) (by decide) (by decide) (lenOf pd_282956 rfl) rfl (Nat.le_of_ble_eq_true rfl) rfl d1_1 (pc' := 4) rfl ?_
  intro vm1 T1 h1 v1 C1 A1 q1
  obtain ⟨rfl, rfl⟩ := q1
  show Endw p e below T1 (mkF m 4 #[.val (.ref a), .val v0, .val (.int i1), .val (.int i2), .val (.int i3), .val (.int i4)] []) _
  refine Endw.st (T' := T1) (g' := (mkF m 5 #[.val (.ref a), .val v0, .val (.int i1), .val (.int i2), .val (.int i3), .val (.int i4)] [(.ref a)])) (fun t k => XS.aloadN C1.here C1.hx rfl (C1.dec d1_4) rfl rfl k) ?_
  refine Endw.st (T' := T1) (g' := (mkF m 6 #[.val (.ref a), .val v0, .val (.int i1), .val (.int i2), .val (.int i3), .val (.int i4)] [v0, (.ref a)])) (fun t k => XS.aloadN C1.here C1.hx rfl (C1.dec d1_5) rfl hv0 k) ?_
  refine C1.putF (v := v0) (W24 hw) F0 E0 (Or.inr ⟨(W25 hw), rfl, rfl⟩) (W11 hw) (ty := (.object "java/lang/String")) (by decide) (own_nar_ref hv0) (own_fits_ref hv0) zg0 (Safe.exa C1.warm.alike E0 (by decide) (by decide)) d1_6 (pc' := 9) rfl ?_
  intro T2 h2 C2 K2 A2 Wr2
  have f3 := F0.same Wr2
  have f4 := F1.other Wr2 (Or.inr (slot_ne (Or.inr (W27 hw)) (Or.inr (W25 hw)) (by decide) (t := .int) (t' := (.object "java/lang/String")) (by decide) (by decide)))
  have f5 := F2.other Wr2 (Or.inr (slot_ne (Or.inr (W29 hw)) (Or.inr (W25 hw)) (by decide) (t := .int) (t' := (.object "java/lang/String")) (by decide) (by decide)))
  have f6 := F3.other Wr2 (Or.inr (slot_ne (Or.inr (W31 hw)) (Or.inr (W25 hw)) (by decide) (t := .char) (t' := (.object "java/lang/String")) (by decide) (by decide)))
  have f7 := F4.other Wr2 (Or.inr (slot_ne (Or.inr (W33 hw)) (Or.inr (W25 hw)) (by decide) (t := .int) (t' := (.object "java/lang/String")) (by decide) (by decide)))
  show Endw p e below T2 (mkF m 9 #[.val (.ref a), .val v0, .val (.int i1), .val (.int i2), .val (.int i3), .val (.int i4)] []) _
  refine Endw.st (T' := T2) (g' := (mkF m 10 #[.val (.ref a), .val v0, .val (.int i1), .val (.int i2), .val (.int i3), .val (.int i4)] [(.ref a)])) (fun t k => XS.aloadN C2.here C2.hx rfl (C2.dec d1_9) rfl rfl k) ?_
  refine Endw.st (T' := T2) (g' := (mkF m 11 #[.val (.ref a), .val v0, .val (.int i1), .val (.int i2), .val (.int i3), .val (.int i4)] [(.int i1), (.ref a)])) (fun t k => XS.iloadN C2.here C2.hx rfl (C2.dec d1_10) rfl k) ?_
  have f8 := (E0.keep K2)
  refine C2.putF (v := (.int i1)) (W26 hw) f4 f8 (Or.inr ⟨(W27 hw), rfl, rfl⟩) (W11 hw) (ty := .int) (by decide) rfl rfl zg0 (Safe.exa C2.warm.alike f8 (by decide) (by decide)) d1_11 (pc' := 14) rfl ?_
  intro T9 h9 C9 K9 A9 Wr9
  have f10 := f4.same Wr9
  have f11 := f3.other Wr9 (Or.inr (slot_ne (Or.inr (W25 hw)) (Or.inr (W27 hw)) (by decide) (t := (.object "java/lang/String")) (t' := .int) (by decide) (by decide)))
  have f12 := f5.other Wr9 (Or.inr (slot_ne (Or.inr (W29 hw)) (Or.inr (W27 hw)) (by decide) (t := .int) (t' := .int) (by decide) (by decide)))
  have f13 := f6.other Wr9 (Or.inr (slot_ne (Or.inr (W31 hw)) (Or.inr (W27 hw)) (by decide) (t := .char) (t' := .int) (by decide) (by decide)))
  have f14 := f7.other Wr9 (Or.inr (slot_ne (Or.inr (W33 hw)) (Or.inr (W27 hw)) (by decide) (t := .int) (t' := .int) (by decide) (by decide)))
  show Endw p e below T9 (mkF m 14 #[.val (.ref a), .val v0, .val (.int i1), .val (.int i2), .val (.int i3), .val (.int i4)] []) _
  refine Endw.st (T' := T9) (g' := (mkF m 15 #[.val (.ref a), .val v0, .val (.int i1), .val (.int i2), .val (.int i3), .val (.int i4)] [(.ref a)])) (fun t k => XS.aloadN C9.here C9.hx rfl (C9.dec d1_14) rfl rfl k) ?_
  refine Endw.st (T' := T9) (g' := (mkF m 16 #[.val (.ref a), .val v0, .val (.int i1), .val (.int i2), .val (.int i3), .val (.int i4)] [(.int i2), (.ref a)])) (fun t k => XS.iloadN C9.here C9.hx rfl (C9.dec d1_15) rfl k) ?_
  have f15 := (f8.keep K9)
  refine C9.putF (v := (.int i2)) (W28 hw) f12 f15 (Or.inr ⟨(W29 hw), rfl, rfl⟩) (W11 hw) (ty := .int) (by decide) rfl rfl zg0 (Safe.exa C9.warm.alike f15 (by decide) (by decide)) d1_16 (pc' := 19) rfl ?_
  intro T16 h16 C16 K16 A16 Wr16
  have f17 := f12.same Wr16
  have f18 := f11.other Wr16 (Or.inr (slot_ne (Or.inr (W25 hw)) (Or.inr (W29 hw)) (by decide) (t := (.object "java/lang/String")) (t' := .int) (by decide) (by decide)))
  have f19 := f10.other Wr16 (Or.inr (slot_ne (Or.inr (W27 hw)) (Or.inr (W29 hw)) (by decide) (t := .int) (t' := .int) (by decide) (by decide)))
  have f20 := f13.other Wr16 (Or.inr (slot_ne (Or.inr (W31 hw)) (Or.inr (W29 hw)) (by decide) (t := .char) (t' := .int) (by decide) (by decide)))
  have f21 := f14.other Wr16 (Or.inr (slot_ne (Or.inr (W33 hw)) (Or.inr (W29 hw)) (by decide) (t := .int) (t' := .int) (by decide) (by decide)))
  show Endw p e below T16 (mkF m 19 #[.val (.ref a), .val v0, .val (.int i1), .val (.int i2), .val (.int i3), .val (.int i4)] []) _
  refine Endw.st (T' := T16) (g' := (mkF m 20 #[.val (.ref a), .val v0, .val (.int i1), .val (.int i2), .val (.int i3), .val (.int i4)] [(.ref a)])) (fun t k => XS.aloadN C16.here C16.hx rfl (C16.dec d1_19) rfl rfl k) ?_
  refine Endw.st (T' := T16) (g' := (mkF m 22 #[.val (.ref a), .val v0, .val (.int i1), .val (.int i2), .val (.int i3), .val (.int i4)] [(.int i3), (.ref a)])) (fun t k => XS.iload C16.here C16.hx rfl (C16.dec d1_20) rfl k) ?_
  have f22 := (f15.keep K16)
  refine C16.putF (v := (.int i3)) (W30 hw) f20 f22 (Or.inr ⟨(W31 hw), rfl, rfl⟩) (W11 hw) (ty := .char) (by decide) hn3 hf3 zg0 (Safe.exa C16.warm.alike f22 (by decide) (by decide)) d1_22 (pc' := 25) rfl ?_
  intro T23 h23 C23 K23 A23 Wr23
  have f24 := f20.same Wr23
  have f25 := f18.other Wr23 (Or.inr (slot_ne (Or.inr (W25 hw)) (Or.inr (W31 hw)) (by decide) (t := (.object "java/lang/String")) (t' := .char) (by decide) (by decide)))
  have f26 := f19.other Wr23 (Or.inr (slot_ne (Or.inr (W27 hw)) (Or.inr (W31 hw)) (by decide) (t := .int) (t' := .char) (by decide) (by decide)))
  have f27 := f17.other Wr23 (Or.inr (slot_ne (Or.inr (W29 hw)) (Or.inr (W31 hw)) (by decide) (t := .int) (t' := .char) (by decide) (by decide)))
  have f28 := f21.other Wr23 (Or.inr (slot_ne (Or.inr (W33 hw)) (Or.inr (W31 hw)) (by decide) (t := .int) (t' := .char) (by decide) (by decide)))
  show Endw p e below T23 (mkF m 25 #[.val (.ref a), .val v0, .val (.int i1), .val (.int i2), .val (.int i3), .val (.int i4)] []) _
  refine Endw.st (T' := T23) (g' := (mkF m 26 #[.val (.ref a), .val v0, .val (.int i1), .val (.int i2), .val (.int i3), .val (.int i4)] [(.ref a)])) (fun t k => XS.aloadN C23.here C23.hx rfl (C23.dec d1_25) rfl rfl k) ?_
  refine Endw.st (T' := T23) (g' := (mkF m 28 #[.val (.ref a), .val v0, .val (.int i1), .val (.int i2), .val (.int i3), .val (.int i4)] [(.int i4), (.ref a)])) (fun t k => XS.iload C23.here C23.hx rfl (C23.dec d1_26) rfl k) ?_
  have f29 := (f22.keep K23)
  refine C23.putF (v := (.int i4)) (W32 hw) f28 f29 (Or.inr ⟨(W33 hw), rfl, rfl⟩) (W11 hw) (ty := .int) (by decide) rfl rfl zg0 (Safe.exa C23.warm.alike f29 (by decide) (by decide)) d1_28 (pc' := 31) rfl ?_
  intro T30 h30 C30 K30 A30 Wr30
  have f31 := f28.same Wr30
  have f32 := f25.other Wr30 (Or.inr (slot_ne (Or.inr (W25 hw)) (Or.inr (W33 hw)) (by decide) (t := (.object "java/lang/String")) (t' := .int) (by decide) (by decide)))
  have f33 := f26.other Wr30 (Or.inr (slot_ne (Or.inr (W27 hw)) (Or.inr (W33 hw)) (by decide) (t := .int) (t' := .int) (by decide) (by decide)))
  have f34 := f27.other Wr30 (Or.inr (slot_ne (Or.inr (W29 hw)) (Or.inr (W33 hw)) (by decide) (t := .int) (t' := .int) (by decide) (by decide)))
  have f35 := f24.other Wr30 (Or.inr (slot_ne (Or.inr (W31 hw)) (Or.inr (W33 hw)) (by decide) (t := .char) (t' := .int) (by decide) (by decide)))
  show Endw p e below T30 (mkF m 31 #[.val (.ref a), .val v0, .val (.int i1), .val (.int i2), .val (.int i3), .val (.int i4)] []) _
  have f36 := (f29.keep K30)
  exact C30.retV d1_31 (by decide) (by decide) ⟨rfl, (Keep.trans (Keep.trans (Keep.trans (Keep.trans (Keep.trans (Keep.refl h [a]) K2 (allS (Or.inl (by simp)) all0)) K9 (allS (Or.inl (by simp)) all0)) K16 (allS (Or.inl (by simp)) all0)) K23 (allS (Or.inl (by simp)) all0)) K30 (allS (Or.inl (by simp)) all0)), f36, f32, f33, f34, f35, f31⟩
set_option maxRecDepth 65536 in
set_option maxHeartbeats 40000000 in
theorem rm_Num (l : Launch) (Z : State) (a0 : Array Value) (EL : List (String × Nat)) (G : Glob Z a0 EL) (a : Addr) (u : Int32) (h : Heap) (O : Ext Z.heap h) (F0 : Fld Z h a "com/example/tessera/tessera/Printf$Directive" "conversion" "C" (.int u)) :
    Met l Z EL false (⟨"com/example/tessera/tessera/Printf$Directive", "numeric", "()Z"⟩ : MethodName) prog_78_method_3_code 1 (some .boolean) [] ({ frames := 0, cells := 0, slots := 0, locals := 0 } : Room) #[(.ref a)] h [] (fun r h' => ∃ z : Int32, r = some (.int z) ∧ ((u = 115 ∧ z = 0) ∨ (¬ u = 115 ∧ z = 1)) ∧ h = h') := by
  have hw := G.hw
  obtain ⟨zc, Sc, hzc⟩ := G.cs
  obtain ⟨vf, Sf, hvf⟩ := G.fm
  refine Met.of (plainFor_of_name pn_656374697665_1) G.ew O ?_
  intro p e s m below meth c T0 C0 S0
  refine Endw.eq (g' := mkF m 0 #[.val (.ref a)] []) (by first | rfl | (simp [entryFrame, mkF, argsToLocals, own_cI, own_cR, own_cN, own_cJ, own_cD, maxLocals]; done)) ?_
  refine Endw.st (T' := T0) (g' := (mkF m 1 #[.val (.ref a)] [(.ref a)])) (fun t k => XS.aloadN C0.here C0.hx rfl (C0.dec d2_0) rfl rfl k) ?_
  refine C0.getF (W30 hw) F0 d2_1 (pc' := 4) rfl ?_
  intro T1 C1
  show Endw p e below T1 (mkF m 4 #[.val (.ref a)] [(.int u)]) _
  refine Endw.st (T' := T1) (g' := (mkF m 6 #[.val (.ref a)] [(.int (115 : Int32)), (.int u)])) (fun t k => XS.bipush C1.here C1.hx rfl (C1.dec d2_4) k) ?_
  by_cases c2 : u = (115 : Int32)
  · refine Endw.st (T' := T1) (g' := (mkF m 13 #[.val (.ref a)] [])) (fun t k => XS.icmpYes C1.here C1.hx rfl (pc0 := 6) rfl (C1.dec d2_6) rfl (XT.ii_eq_t c2) (by decide) rfl k) ?_
    refine Endw.st (T' := T1) (g' := (mkF m 14 #[.val (.ref a)] [(.int (0 : Int32))])) (fun t k => XS.iconst C1.here C1.hx rfl (C1.dec d2_13) k) ?_
    exact C1.retI (t := .boolean) rfl (by simp) rfl d2_14 (by decide) (by decide) ⟨_, rfl, Or.inl ⟨c2, rfl⟩, rfl⟩
  · refine Endw.st (T' := T1) (g' := (mkF m 9 #[.val (.ref a)] [])) (fun t k => XS.icmpNo C1.here C1.hx rfl (C1.dec d2_6) rfl (XT.ii_eq_f c2) k) ?_
    refine Endw.st (T' := T1) (g' := (mkF m 10 #[.val (.ref a)] [(.int (1 : Int32))])) (fun t k => XS.iconst C1.here C1.hx rfl (C1.dec d2_9) k) ?_
    refine Endw.st (T' := T1) (g' := (mkF m 14 #[.val (.ref a)] [(.int (1 : Int32))])) (fun t k => XS.goto C1.here C1.hx rfl (pc0 := 10) rfl (C1.dec d2_10) (by decide) rfl k) ?_
    exact C1.retI (t := .boolean) rfl (by simp) rfl d2_14 (by decide) (by decide) ⟨_, rfl, Or.inr ⟨c2, rfl⟩, rfl⟩
set_option maxRecDepth 65536 in
set_option maxHeartbeats 40000000 in
theorem rm_law (l : Launch) (Z : State) (a0 : Array Value) (EL : List (String × Nat)) (G : Glob Z a0 EL) (i0 i1 i2 i3 i4 : Int32) (h : Heap) (O : Ext Z.heap h)  :
    Met l Z EL false x code maxLocals ret tables_1 room_1 #[(.int i0), (.int i1), (.int i2), (.int i3), (.int i4)] h [] (fun r h' => r = some (.int 1)) := by
  have hw := G.hw
  obtain ⟨zc, Sc, hzc⟩ := G.cs
  obtain ⟨vf, Sf, hvf⟩ := G.fm
  refine Met.of (plainFor_of_name pn_50696e4c6177_0) G.ew O ?_
  intro p e s m below meth c T0 C0 S0
  refine Endw.eq (g' := mkF m 0 #[.val (.int i0), .val (.int i1), .val (.int i2), .val (.int i3), .val (.int i4), .unset, .unset, .unset, .unset, .unset, .unset] []) (by first | rfl | (simp [entryFrame, mkF, argsToLocals, own_cI, own_cR, own_cN, own_cJ, own_cD, maxLocals]; done)) ?_
  refine Endw.st (T' := T0) (g' := (mkF m 1 #[.val (.int i0), .val (.int i1), .val (.int i2), .val (.int i3), .val (.int i4), .unset, .unset, .unset, .unset, .unset, .unset] [(.int i0)])) (fun t k => XS.iloadN C0.here C0.hx rfl (C0.dec at_0) rfl k) ?_
  refine Endw.st (T' := T0) (g' := (mkF m 3 #[.val (.int i0), .val (.int i1), .val (.int i2), .val (.int i3), .val (.int i4), .unset, .unset, .unset, .unset, .unset, .unset] [(.int (2147483647 : Int32)), (.int i0)])) (fun t k => own_ldcI C0 (W0 hw) rfl at_1 k) ?_
  refine Endw.st (T' := T0) (g' := (mkF m 4 #[.val (.int i0), .val (.int i1), .val (.int i2), .val (.int i3), .val (.int i4), .unset, .unset, .unset, .unset, .unset, .unset] [(.int (i0 &&& (2147483647 : Int32)))])) (fun t k => XS.iand C0.here C0.hx rfl (C0.dec at_3) rfl k) ?_
  refine Endw.st (T' := T0) (g' := (mkF m 5 #[.val (.int i0), .val (.int i1), .val (.int i2), .val (.int i3), .val (.int i4), .unset, .unset, .unset, .unset, .unset, .unset] [(.int (5 : Int32)), (.int (i0 &&& (2147483647 : Int32)))])) (fun t k => XS.iconst C0.here C0.hx rfl (C0.dec at_4) k) ?_
  refine Endw.st (T' := T0) (g' := (mkF m 6 #[.val (.int i0), .val (.int i1), .val (.int i2), .val (.int i3), .val (.int i4), .unset, .unset, .unset, .unset, .unset, .unset] [(.int ((i0 &&& (2147483647 : Int32)) % (5 : Int32)))])) (fun t k => own_irem C0 rfl at_5 rfl (by decide) k) ?_
  refine Endw.st (T' := T0) (g' := (mkF m 8 #[.val (.int i0), .val (.int i1), .val (.int i2), .val (.int i3), .val (.int i4), .val (.int ((i0 &&& (2147483647 : Int32)) % (5 : Int32))), .unset, .unset, .unset, .unset, .unset] [])) (fun t k => XS.istore C0.here C0.hx rfl (C0.dec at_6) rfl (l' := #[.val (.int i0), .val (.int i1), .val (.int i2), .val (.int i3), .val (.int i4), .val (.int ((i0 &&& (2147483647 : Int32)) % (5 : Int32))), .unset, .unset, .unset, .unset, .unset]) rfl k) ?_
  refine Endw.st (T' := T0) (g' := (mkF m 10 #[.val (.int i0), .val (.int i1), .val (.int i2), .val (.int i3), .val (.int i4), .val (.int ((i0 &&& (2147483647 : Int32)) % (5 : Int32))), .unset, .unset, .unset, .unset, .unset] [(.int ((i0 &&& (2147483647 : Int32)) % (5 : Int32)))])) (fun t k => XS.iload C0.here C0.hx rfl (C0.dec at_8) rfl k) ?_
  by_cases c1 : ((i0 &&& (2147483647 : Int32)) % (5 : Int32)) = (0 : Int32)
  · refine Endw.st (T' := T0) (g' := (mkF m 13 #[.val (.int i0), .val (.int i1), .val (.int i2), .val (.int i3), .val (.int i4), .val (.int ((i0 &&& (2147483647 : Int32)) % (5 : Int32))), .unset, .unset, .unset, .unset, .unset] [])) (fun t k => XS.ifNo C0.here C0.hx rfl (C0.dec at_10) rfl (XT.i0_ne_f c1) k) ?_
    refine Endw.st (T' := T0) (g' := (mkF m 15 #[.val (.int i0), .val (.int i1), .val (.int i2), .val (.int i3), .val (.int i4), .val (.int ((i0 &&& (2147483647 : Int32)) % (5 : Int32))), .unset, .unset, .unset, .unset, .unset] [(.int (100 : Int32))])) (fun t k => XS.bipush C0.here C0.hx rfl (C0.dec at_13) k) ?_
    refine Endw.st (T' := T0) (g' := (mkF m 17 #[.val (.int i0), .val (.int i1), .val (.int i2), .val (.int i3), .val (.int i4), .val (.int ((i0 &&& (2147483647 : Int32)) % (5 : Int32))), .val (.int (100 : Int32)), .unset, .unset, .unset, .unset] [])) (fun t k => XS.istore C0.here C0.hx rfl (C0.dec at_15) rfl (l' := #[.val (.int i0), .val (.int i1), .val (.int i2), .val (.int i3), .val (.int i4), .val (.int ((i0 &&& (2147483647 : Int32)) % (5 : Int32))), .val (.int (100 : Int32)), .unset, .unset, .unset, .unset]) rfl k) ?_
    refine Endw.st (T' := T0) (g' := (mkF m 18 #[.val (.int i0), .val (.int i1), .val (.int i2), .val (.int i3), .val (.int i4), .val (.int ((i0 &&& (2147483647 : Int32)) % (5 : Int32))), .val (.int (100 : Int32)), .unset, .unset, .unset, .unset] [(.int (1 : Int32))])) (fun t k => XS.iconst C0.here C0.hx rfl (C0.dec at_17) k) ?_
    refine Endw.st (T' := T0) (g' := (mkF m 20 #[.val (.int i0), .val (.int i1), .val (.int i2), .val (.int i3), .val (.int i4), .val (.int ((i0 &&& (2147483647 : Int32)) % (5 : Int32))), .val (.int (100 : Int32)), .val (.int (1 : Int32)), .unset, .unset, .unset] [])) (fun t k => XS.istore C0.here C0.hx rfl (C0.dec at_18) rfl (l' := #[.val (.int i0), .val (.int i1), .val (.int i2), .val (.int i3), .val (.int i4), .val (.int ((i0 &&& (2147483647 : Int32)) % (5 : Int32))), .val (.int (100 : Int32)), .val (.int (1 : Int32)), .unset, .unset, .unset]) rfl k) ?_
    refine Endw.st (T' := T0) (g' := (mkF m 78 #[.val (.int i0), .val (.int i1), .val (.int i2), .val (.int i3), .val (.int i4), .val (.int ((i0 &&& (2147483647 : Int32)) % (5 : Int32))), .val (.int (100 : Int32)), .val (.int (1 : Int32)), .unset, .unset, .unset] [])) (fun t k => XS.goto C0.here C0.hx rfl (pc0 := 20) rfl (C0.dec at_20) (by decide) rfl k) ?_
    refine Endw.st (T' := T0) (g' := (mkF m 79 #[.val (.int i0), .val (.int i1), .val (.int i2), .val (.int i3), .val (.int i4), .val (.int ((i0 &&& (2147483647 : Int32)) % (5 : Int32))), .val (.int (100 : Int32)), .val (.int (1 : Int32)), .unset, .unset, .unset] [(.int (1 : Int32))])) (fun t k => XS.iconst C0.here C0.hx rfl (C0.dec at_78) k) ?_
    refine C0.newA (aty := .char) (z := (1 : Int32)) (cap := 1) (vs := [(.int 0)]) (W1 hw) at_79 (pc' := 81) rfl (by decide) (by decide) (by decide) (by decide) (by decide) rfl ?_
    intro T2 h2 a2 kA2 C2 K2 A2 ge2 zg2 V2 S2
    show Endw p e below T2 (mkF m 81 #[.val (.int i0), .val (.int i1), .val (.int i2), .val (.int i3), .val (.int i4), .val (.int ((i0 &&& (2147483647 : Int32)) % (5 : Int32))), .val (.int (100 : Int32)), .val (.int (1 : Int32)), .unset, .unset, .unset] [(.ref a2)]) _
    refine Endw.st (T' := T2) (g' := (mkF m 83 #[.val (.int i0), .val (.int i1), .val (.int i2), .val (.int i3), .val (.int i4), .val (.int ((i0 &&& (2147483647 : Int32)) % (5 : Int32))), .val (.int (100 : Int32)), .val (.int (1 : Int32)), .val (.ref a2), .unset, .unset] [])) (fun t k => XS.astore C2.here C2.hx rfl (C2.dec at_81) rfl rfl (l' := #[.val (.int i0), .val (.int i1), .val (.int i2), .val (.int i3), .val (.int i4), .val (.int ((i0 &&& (2147483647 : Int32)) % (5 : Int32))), .val (.int (100 : Int32)), .val (.int (1 : Int32)), .val (.ref a2), .unset, .unset]) rfl k) ?_
    refine Endw.st (T' := T2) (g' := (mkF m 85 #[.val (.int i0), .val (.int i1), .val (.int i2), .val (.int i3), .val (.int i4), .val (.int ((i0 &&& (2147483647 : Int32)) % (5 : Int32))), .val (.int (100 : Int32)), .val (.int (1 : Int32)), .val (.ref a2), .unset, .unset] [(.ref a2)])) (fun t k => XS.aload C2.here C2.hx rfl (C2.dec at_83) rfl rfl k) ?_
    refine Endw.st (T' := T2) (g' := (mkF m 86 #[.val (.int i0), .val (.int i1), .val (.int i2), .val (.int i3), .val (.int i4), .val (.int ((i0 &&& (2147483647 : Int32)) % (5 : Int32))), .val (.int (100 : Int32)), .val (.int (1 : Int32)), .val (.ref a2), .unset, .unset] [(.int (0 : Int32)), (.ref a2)])) (fun t k => XS.iconst C2.here C2.hx rfl (C2.dec at_85) k) ?_
    refine Endw.st (T' := T2) (g' := (mkF m 88 #[.val (.int i0), .val (.int i1), .val (.int i2), .val (.int i3), .val (.int i4), .val (.int ((i0 &&& (2147483647 : Int32)) % (5 : Int32))), .val (.int (100 : Int32)), .val (.int (1 : Int32)), .val (.ref a2), .unset, .unset] [(.int i4), (.int (0 : Int32)), (.ref a2)])) (fun t k => XS.iload C2.here C2.hx rfl (C2.dec at_86) rfl k) ?_
    refine Endw.st (T' := T2) (g' := (mkF m 91 #[.val (.int i0), .val (.int i1), .val (.int i2), .val (.int i3), .val (.int i4), .val (.int ((i0 &&& (2147483647 : Int32)) % (5 : Int32))), .val (.int (100 : Int32)), .val (.int (1 : Int32)), .val (.ref a2), .unset, .unset] [(.int (255 : Int32)), (.int i4), (.int (0 : Int32)), (.ref a2)])) (fun t k => XS.sipush C2.here C2.hx rfl (C2.dec at_88) k) ?_
    refine Endw.st (T' := T2) (g' := (mkF m 92 #[.val (.int i0), .val (.int i1), .val (.int i2), .val (.int i3), .val (.int i4), .val (.int ((i0 &&& (2147483647 : Int32)) % (5 : Int32))), .val (.int (100 : Int32)), .val (.int (1 : Int32)), .val (.ref a2), .unset, .unset] [(.int (i4 &&& (255 : Int32))), (.int (0 : Int32)), (.ref a2)])) (fun t k => XS.iand C2.here C2.hx rfl (C2.dec at_91) rfl k) ?_
    refine Endw.st (T' := T2) (g' := (mkF m 93 #[.val (.int i0), .val (.int i1), .val (.int i2), .val (.int i3), .val (.int i4), .val (.int ((i0 &&& (2147483647 : Int32)) % (5 : Int32))), .val (.int (100 : Int32)), .val (.int (1 : Int32)), .val (.ref a2), .unset, .unset] [(.int ((i4 &&& (255 : Int32)).toUInt32.toUInt16.toUInt32.toInt32)), (.int (0 : Int32)), (.ref a2)])) (fun t k => XS.i2c C2.here C2.hx rfl (C2.dec at_92) rfl k) ?_
    rw [show (i4 &&& (255 : Int32)).toUInt32.toUInt16.toUInt32.toInt32 = (i4 &&& (255 : Int32)) from i2c_mask _]
    refine C2.castore V2 ⟨by decide, by decide⟩ 0 (by decide) (Nat.le_of_ble_eq_true rfl) (x' := (i4 &&& (255 : Int32))) (i2c_mask _) zg2 at_93 (pc' := 94) rfl ?_
    intro T3 h3 C3 K3 A3 V3
    show Endw p e below T3 (mkF m 94 #[.val (.int i0), .val (.int i1), .val (.int i2), .val (.int i3), .val (.int i4), .val (.int ((i0 &&& (2147483647 : Int32)) % (5 : Int32))), .val (.int (100 : Int32)), .val (.int (1 : Int32)), .val (.ref a2), .unset, .unset] []) _
    refine Endw.st (T' := T3) (g' := (mkF m 96 #[.val (.int i0), .val (.int i1), .val (.int i2), .val (.int i3), .val (.int i4), .val (.int ((i0 &&& (2147483647 : Int32)) % (5 : Int32))), .val (.int (100 : Int32)), .val (.int (1 : Int32)), .val (.ref a2), .unset, .unset] [(.int i4)])) (fun t k => XS.iload C3.here C3.hx rfl (C3.dec at_94) rfl k) ?_
    refine Endw.st (T' := T3) (g' := (mkF m 98 #[.val (.int i0), .val (.int i1), .val (.int i2), .val (.int i3), .val (.int i4), .val (.int ((i0 &&& (2147483647 : Int32)) % (5 : Int32))), .val (.int (100 : Int32)), .val (.int (1 : Int32)), .val (.ref a2), .unset, .unset] [(.int (8 : Int32)), (.int i4)])) (fun t k => XS.bipush C3.here C3.hx rfl (C3.dec at_96) k) ?_
    refine Endw.st (T' := T3) (g' := (mkF m 99 #[.val (.int i0), .val (.int i1), .val (.int i2), .val (.int i3), .val (.int i4), .val (.int ((i0 &&& (2147483647 : Int32)) % (5 : Int32))), .val (.int (100 : Int32)), .val (.int (1 : Int32)), .val (.ref a2), .unset, .unset] [(.int ((i4.toUInt32 >>> ((8 : Int32) &&& 31).toUInt32).toInt32))])) (fun t k => XS.iushr C3.here C3.hx rfl (C3.dec at_98) rfl k) ?_
    refine Endw.st (T' := T3) (g' := (mkF m 100 #[.val (.int i0), .val (.int i1), .val (.int i2), .val (.int i3), .val (.int i4), .val (.int ((i0 &&& (2147483647 : Int32)) % (5 : Int32))), .val (.int (100 : Int32)), .val (.int (1 : Int32)), .val (.ref a2), .unset, .unset] [(.int (1 : Int32)), (.int ((i4.toUInt32 >>> ((8 : Int32) &&& 31).toUInt32).toInt32))])) (fun t k => XS.iconst C3.here C3.hx rfl (C3.dec at_99) k) ?_
    refine Endw.st (T' := T3) (g' := (mkF m 101 #[.val (.int i0), .val (.int i1), .val (.int i2), .val (.int i3), .val (.int i4), .val (.int ((i0 &&& (2147483647 : Int32)) % (5 : Int32))), .val (.int (100 : Int32)), .val (.int (1 : Int32)), .val (.ref a2), .unset, .unset] [(.int (((i4.toUInt32 >>> ((8 : Int32) &&& 31).toUInt32).toInt32) &&& (1 : Int32)))])) (fun t k => XS.iand C3.here C3.hx rfl (C3.dec at_100) rfl k) ?_
    by_cases c4 : (((i4.toUInt32 >>> ((8 : Int32) &&& 31).toUInt32).toInt32) &&& (1 : Int32)) = (0 : Int32)
    · refine Endw.st (T' := T3) (g' := (mkF m 116 #[.val (.int i0), .val (.int i1), .val (.int i2), .val (.int i3), .val (.int i4), .val (.int ((i0 &&& (2147483647 : Int32)) % (5 : Int32))), .val (.int (100 : Int32)), .val (.int (1 : Int32)), .val (.ref a2), .unset, .unset] [])) (fun t k => XS.ifYes C3.here C3.hx rfl (pc0 := 101) rfl (C3.dec at_101) rfl (XT.i0_eq_t c4) (by decide) rfl k) ?_
      refine C3.ldcO (N := 0) (W2 hw) G.wS (by decide) (by decide) (by decide) (by decide) at_116 (pc' := 118) rfl rfl ?_
      intro vm5 T5 h5 a5 C5 K5 A5
      show Endw p e below T5 (mkF m 118 #[.val (.int i0), .val (.int i1), .val (.int i2), .val (.int i3), .val (.int i4), .val (.int ((i0 &&& (2147483647 : Int32)) % (5 : Int32))), .val (.int (100 : Int32)), .val (.int (1 : Int32)), .val (.ref a2), .unset, .unset] [(.ref a5)]) _
      refine Endw.st (T' := T5) (g' := (mkF m 120 #[.val (.int i0), .val (.int i1), .val (.int i2), .val (.int i3), .val (.int i4), .val (.int ((i0 &&& (2147483647 : Int32)) % (5 : Int32))), .val (.int (100 : Int32)), .val (.int (1 : Int32)), .val (.ref a2), .val (.ref a5), .unset] [])) (fun t k => XS.astore C5.here C5.hx rfl (C5.dec at_118) rfl rfl (l' := #[.val (.int i0), .val (.int i1), .val (.int i2), .val (.int i3), .val (.int i4), .val (.int ((i0 &&& (2147483647 : Int32)) % (5 : Int32))), .val (.int (100 : Int32)), .val (.int (1 : Int32)), .val (.ref a2), .val (.ref a5), .unset]) rfl k) ?_
      refine C5.new (W10 hw) (W11 hw) (W12 hw) at_120 (pc' := 123) rfl (by decide) (by decide) ?_
      intro T6 h6 a6 C6 K6 A6 ge6 zg6 E6 D6 S6
      show Endw p e below T6 (mkF m 123 #[.val (.int i0), .val (.int i1), .val (.int i2), .val (.int i3), .val (.int i4), .val (.int ((i0 &&& (2147483647 : Int32)) % (5 : Int32))), .val (.int (100 : Int32)), .val (.int (1 : Int32)), .val (.ref a2), .val (.ref a5), .unset] [(.ref a6)]) _
      refine Endw.st (T' := T6) (g' := (mkF m 124 #[.val (.int i0), .val (.int i1), .val (.int i2), .val (.int i3), .val (.int i4), .val (.int ((i0 &&& (2147483647 : Int32)) % (5 : Int32))), .val (.int (100 : Int32)), .val (.int (1 : Int32)), .val (.ref a2), .val (.ref a5), .unset] [(.ref a6), (.ref a6)])) (fun t k => XS.dup C6.here C6.hx rfl (C6.dec at_123) rfl rfl k) ?_
      refine Endw.st (T' := T6) (g' := (mkF m 126 #[.val (.int i0), .val (.int i1), .val (.int i2), .val (.int i3), .val (.int i4), .val (.int ((i0 &&& (2147483647 : Int32)) % (5 : Int32))), .val (.int (100 : Int32)), .val (.int (1 : Int32)), .val (.ref a2), .val (.ref a5), .unset] [(.ref a5), (.ref a6), (.ref a6)])) (fun t k => XS.aload C6.here C6.hx rfl (C6.dec at_124) rfl rfl k) ?_
      refine Endw.st (T' := T6) (g' := (mkF m 127 #[.val (.int i0), .val (.int i1), .val (.int i2), .val (.int i3), .val (.int i4), .val (.int ((i0 &&& (2147483647 : Int32)) % (5 : Int32))), .val (.int (100 : Int32)), .val (.int (1 : Int32)), .val (.ref a2), .val (.ref a5), .unset] [(.int i1), (.ref a5), (.ref a6), (.ref a6)])) (fun t k => XS.iloadN C6.here C6.hx rfl (C6.dec at_126) rfl k) ?_
      refine Endw.st (T' := T6) (g' := (mkF m 128 #[.val (.int i0), .val (.int i1), .val (.int i2), .val (.int i3), .val (.int i4), .val (.int ((i0 &&& (2147483647 : Int32)) % (5 : Int32))), .val (.int (100 : Int32)), .val (.int (1 : Int32)), .val (.ref a2), .val (.ref a5), .unset] [(.int i2), (.int i1), (.ref a5), (.ref a6), (.ref a6)])) (fun t k => XS.iloadN C6.here C6.hx rfl (C6.dec at_127) rfl k) ?_
      refine Endw.st (T' := T6) (g' := (mkF m 130 #[.val (.int i0), .val (.int i1), .val (.int i2), .val (.int i3), .val (.int i4), .val (.int ((i0 &&& (2147483647 : Int32)) % (5 : Int32))), .val (.int (100 : Int32)), .val (.int (1 : Int32)), .val (.ref a2), .val (.ref a5), .unset] [(.int (100 : Int32)), (.int i2), (.int i1), (.ref a5), (.ref a6), (.ref a6)])) (fun t k => XS.iload C6.here C6.hx rfl (C6.dec at_128) rfl k) ?_
      refine Endw.st (T' := T6) (g' := (mkF m 131 #[.val (.int i0), .val (.int i1), .val (.int i2), .val (.int i3), .val (.int i4), .val (.int ((i0 &&& (2147483647 : Int32)) % (5 : Int32))), .val (.int (100 : Int32)), .val (.int (1 : Int32)), .val (.ref a2), .val (.ref a5), .unset] [(.int i3), (.int (100 : Int32)), (.int i2), (.int i1), (.ref a5), (.ref a6), (.ref a6)])) (fun t k => XS.iloadN C6.here C6.hx rfl (C6.dec at_130) rfl k) ?_
      have f7 : Fld Z h6 a6 "com/example/tessera/tessera/Printf$Directive" "flags" "Ljava/lang/String;" .null := D6 (Or.inr (W25 hw)) (ty := (.object "java/lang/String")) (by decide)
      have f8 : Fld Z h6 a6 "com/example/tessera/tessera/Printf$Directive" "width" "I" (.int (0 : Int32)) := D6 (Or.inr (W27 hw)) (ty := .int) (by decide)
      have f9 : Fld Z h6 a6 "com/example/tessera/tessera/Printf$Directive" "precision" "I" (.int (0 : Int32)) := D6 (Or.inr (W29 hw)) (ty := .int) (by decide)
      have f10 : Fld Z h6 a6 "com/example/tessera/tessera/Printf$Directive" "conversion" "C" (.int (0 : Int32)) := D6 (Or.inr (W31 hw)) (ty := .char) (by decide)
      have f11 : Fld Z h6 a6 "com/example/tessera/tessera/Printf$Directive" "end" "I" (.int (0 : Int32)) := D6 (Or.inr (W33 hw)) (ty := .int) (by decide)
      refine C6.special (y := (⟨"com/example/tessera/tessera/Printf$Directive", "<init>", "(Ljava/lang/String;IICI)V"⟩ : MethodName)) (W := 1) (a := a6) (argsL := [(.ref a5), (.int i1), (.int i2), (.int (100 : Int32)), (.int i3)]) (rest := [(.ref a6)]) rfl (W13 hw) (W14 hw) (W15 hw) (W12 hw) (by decide) (rm_Dir l Z a0 EL G a6 (.ref a5) rfl i1 i2 (100 : Int32) rfl rfl i3 h6 C6.old E6 f7 f8 f9 f10 f11 zg6) rfl all0 (by decide) (by decide) (by decide) (by decide) (lenOf pd_3 rfl) rfl (Nat.le_of_ble_eq_true rfl) rfl at_131 (pc' := 134) rfl ?_
      intro vm12 T12 h12 v12 C12 A12 q12
      obtain ⟨rfl, K12, E12, F12_0, F12_1, F12_2, F12_3, F12_4⟩ := q12
      show Endw p e below T12 (mkF m 134 #[.val (.int i0), .val (.int i1), .val (.int i2), .val (.int i3), .val (.int i4), .val (.int ((i0 &&& (2147483647 : Int32)) % (5 : Int32))), .val (.int (100 : Int32)), .val (.int (1 : Int32)), .val (.ref a2), .val (.ref a5), .unset] [(.ref a6)]) _
      refine Endw.st (T' := T12) (g' := (mkF m 136 #[.val (.int i0), .val (.int i1), .val (.int i2), .val (.int i3), .val (.int i4), .val (.int ((i0 &&& (2147483647 : Int32)) % (5 : Int32))), .val (.int (100 : Int32)), .val (.int (1 : Int32)), .val (.ref a2), .val (.ref a5), .val (.ref a6)] [])) (fun t k => XS.astore C12.here C12.hx rfl (C12.dec at_134) rfl rfl (l' := #[.val (.int i0), .val (.int i1), .val (.int i2), .val (.int i3), .val (.int i4), .val (.int ((i0 &&& (2147483647 : Int32)) % (5 : Int32))), .val (.int (100 : Int32)), .val (.int (1 : Int32)), .val (.ref a2), .val (.ref a5), .val (.ref a6)]) rfl k) ?_
      refine Endw.st (T' := T12) (g' := (mkF m 138 #[.val (.int i0), .val (.int i1), .val (.int i2), .val (.int i3), .val (.int i4), .val (.int ((i0 &&& (2147483647 : Int32)) % (5 : Int32))), .val (.int (100 : Int32)), .val (.int (1 : Int32)), .val (.ref a2), .val (.ref a5), .val (.ref a6)] [(.ref a6)])) (fun t k => XS.aload C12.here C12.hx rfl (C12.dec at_136) rfl rfl k) ?_
      refine C12.virtual (y := (⟨"com/example/tessera/tessera/Printf$Directive", "numeric", "()Z"⟩ : MethodName)) (z := (⟨"com/example/tessera/tessera/Printf$Directive", "numeric", "()Z"⟩ : MethodName)) (W := 0) (a := a6) (argsL := []) (rest := []) (W34 hw) (W35 hw) (fun _ q => notFace_of_selects (args := #[]) (mvT q (W37 hw))) (W37 hw) (W36 hw) (W38 hw) (W12 hw) (by decide) (rm_Num l Z a0 EL G a6 (100 : Int32) h12 C12.old F12_3) rfl E12 all0 (by decide) (by decide) (by decide) (by decide) (lenOf pd_28295a rfl) rfl (Nat.le_of_ble_eq_true rfl) rfl at_138 (pc' := 141) rfl ?_
      intro vm13 T13 h13 v13 C13 A13 q13
      obtain ⟨z13, rfl, q13, rfl⟩ := q13
      obtain rfl : z13 = 1 := q13.elim (fun q => absurd q.1 (by decide)) (fun q => q.2)
      show Endw p e below T13 (mkF m 141 #[.val (.int i0), .val (.int i1), .val (.int i2), .val (.int i3), .val (.int i4), .val (.int ((i0 &&& (2147483647 : Int32)) % (5 : Int32))), .val (.int (100 : Int32)), .val (.int (1 : Int32)), .val (.ref a2), .val (.ref a5), .val (.ref a6)] [(.int (1 : Int32))]) _
      refine Endw.st (T' := T13) (g' := (mkF m 143 #[.val (.int i0), .val (.int i1), .val (.int i2), .val (.int i3), .val (.int i4), .val (.int ((i0 &&& (2147483647 : Int32)) % (5 : Int32))), .val (.int (100 : Int32)), .val (.int (1 : Int32)), .val (.ref a2), .val (.ref a5), .val (.ref a6)] [(.int (1 : Int32)), (.int (1 : Int32))])) (fun t k => XS.iload C13.here C13.hx rfl (C13.dec at_141) rfl k) ?_
      refine Endw.st (T' := T13) (g' := (mkF m 146 #[.val (.int i0), .val (.int i1), .val (.int i2), .val (.int i3), .val (.int i4), .val (.int ((i0 &&& (2147483647 : Int32)) % (5 : Int32))), .val (.int (100 : Int32)), .val (.int (1 : Int32)), .val (.ref a2), .val (.ref a5), .val (.ref a6)] [])) (fun t k => XS.icmpNo C13.here C13.hx rfl (C13.dec at_143) rfl (XT.ii_ne_f (by decide)) k) ?_
      refine Endw.st (T' := T13) (g' := (mkF m 147 #[.val (.int i0), .val (.int i1), .val (.int i2), .val (.int i3), .val (.int i4), .val (.int ((i0 &&& (2147483647 : Int32)) % (5 : Int32))), .val (.int (100 : Int32)), .val (.int (1 : Int32)), .val (.ref a2), .val (.ref a5), .val (.ref a6)] [(.int (1 : Int32))])) (fun t k => XS.iconst C13.here C13.hx rfl (C13.dec at_146) k) ?_
      refine Endw.st (T' := T13) (g' := (mkF m 151 #[.val (.int i0), .val (.int i1), .val (.int i2), .val (.int i3), .val (.int i4), .val (.int ((i0 &&& (2147483647 : Int32)) % (5 : Int32))), .val (.int (100 : Int32)), .val (.int (1 : Int32)), .val (.ref a2), .val (.ref a5), .val (.ref a6)] [(.int (1 : Int32))])) (fun t k => XS.goto C13.here C13.hx rfl (pc0 := 147) rfl (C13.dec at_147) (by decide) rfl k) ?_
      exact C13.retI (t := .boolean) rfl (by simp) rfl at_151 (by decide) (by decide) rfl
    · refine Endw.st (T' := T3) (g' := (mkF m 104 #[.val (.int i0), .val (.int i1), .val (.int i2), .val (.int i3), .val (.int i4), .val (.int ((i0 &&& (2147483647 : Int32)) % (5 : Int32))), .val (.int (100 : Int32)), .val (.int (1 : Int32)), .val (.ref a2), .unset, .unset] [])) (fun t k => XS.ifNo C3.here C3.hx rfl (C3.dec at_101) rfl (XT.i0_eq_f c4) k) ?_
      refine C3.new (W39 hw) (W4 hw) (W3 hw) at_104 (pc' := 107) rfl (by decide) (by decide) ?_
      intro T14 h14 a14 C14 K14 A14 ge14 zg14 E14 D14 S14
      show Endw p e below T14 (mkF m 107 #[.val (.int i0), .val (.int i1), .val (.int i2), .val (.int i3), .val (.int i4), .val (.int ((i0 &&& (2147483647 : Int32)) % (5 : Int32))), .val (.int (100 : Int32)), .val (.int (1 : Int32)), .val (.ref a2), .unset, .unset] [(.ref a14)]) _
      refine Endw.st (T' := T14) (g' := (mkF m 108 #[.val (.int i0), .val (.int i1), .val (.int i2), .val (.int i3), .val (.int i4), .val (.int ((i0 &&& (2147483647 : Int32)) % (5 : Int32))), .val (.int (100 : Int32)), .val (.int (1 : Int32)), .val (.ref a2), .unset, .unset] [(.ref a14), (.ref a14)])) (fun t k => XS.dup C14.here C14.hx rfl (C14.dec at_107) rfl rfl k) ?_
      refine Endw.st (T' := T14) (g' := (mkF m 110 #[.val (.int i0), .val (.int i1), .val (.int i2), .val (.int i3), .val (.int i4), .val (.int ((i0 &&& (2147483647 : Int32)) % (5 : Int32))), .val (.int (100 : Int32)), .val (.int (1 : Int32)), .val (.ref a2), .unset, .unset] [(.ref a2), (.ref a14), (.ref a14)])) (fun t k => XS.aload C14.here C14.hx rfl (C14.dec at_108) rfl rfl k) ?_
      have f15 := (V3.keep K14 nin0)
      have f16 : Fld Z h14 a14 "java/lang/String" "value" "[B" .null := D14 (Or.inr (W6 hw)) (ty := (.array .byte)) (by decide)
      have f17 : Fld Z h14 a14 "java/lang/String" "coder" "B" (.int (0 : Int32)) := D14 (Or.inr (W7 hw)) (ty := .byte) (by decide)
      have hp18 : ∀ c ∈ [(i4 &&& (255 : Int32))], B8 c := (own_cS (own_mask255 _) own_c0)
      refine C14.specialF (y := (⟨"java/lang/String", "<init>", "([C)V"⟩ : MethodName)) (ws := [a14]) (W := 1) (a := a14) (argsL := [.ref a2]) (rest := [(.ref a14)]) (ck := 1) (cn := 1) rfl (W40 hw) (W41 hw) (W42 hw) (by decide) (StrChars.Road.backV (W := 1) (n := 1) (n0 := Z.heap.size) (cs := [(i4 &&& (255 : Int32))]) (bs := [(i4 &&& (255 : Int32)).toInt8.toInt32]) C14.warm G.w_backV (kI := 4) (W4 hw) zg14 C14.le E14 f16 f17 f15 (Sc.ext C14.old) hzc rfl rfl (by decide) (by decide) hp18 rfl (by decide) (by decide)) (fun _ _ _ q => ⟨q.2.1, q.2.2.1⟩) (allS zg14 all0) (sfS S14 sf0) rfl (by decide) (by decide) (lenOf pd_285b432956 rfl) rfl (Nat.le_of_ble_eq_true rfl) rfl at_110 (pc' := 113) rfl ?_
      intro T18 h18 v18 C18 K18 A18 q18
      obtain ⟨_, rfl, -, -, E18, F18, t18, kb18, zg18, ge18, nt18, f18, V18⟩ := q18
      have Z18 : Str Z h18 a14 t18 kb18 [(i4 &&& (255 : Int32))] := ⟨E18, F18, f18, V18, hp18, Nat.le_of_ble_eq_true rfl⟩
      show Endw p e below T18 (mkF m 113 #[.val (.int i0), .val (.int i1), .val (.int i2), .val (.int i3), .val (.int i4), .val (.int ((i0 &&& (2147483647 : Int32)) % (5 : Int32))), .val (.int (100 : Int32)), .val (.int (1 : Int32)), .val (.ref a2), .unset, .unset] [(.ref a14)]) _
      refine Endw.st (T' := T18) (g' := (mkF m 118 #[.val (.int i0), .val (.int i1), .val (.int i2), .val (.int i3), .val (.int i4), .val (.int ((i0 &&& (2147483647 : Int32)) % (5 : Int32))), .val (.int (100 : Int32)), .val (.int (1 : Int32)), .val (.ref a2), .unset, .unset] [(.ref a14)])) (fun t k => XS.goto C18.here C18.hx rfl (pc0 := 113) rfl (C18.dec at_113) (by decide) rfl k) ?_
      refine Endw.st (T' := T18) (g' := (mkF m 120 #[.val (.int i0), .val (.int i1), .val (.int i2), .val (.int i3), .val (.int i4), .val (.int ((i0 &&& (2147483647 : Int32)) % (5 : Int32))), .val (.int (100 : Int32)), .val (.int (1 : Int32)), .val (.ref a2), .val (.ref a14), .unset] [])) (fun t k => XS.astore C18.here C18.hx rfl (C18.dec at_118) rfl rfl (l' := #[.val (.int i0), .val (.int i1), .val (.int i2), .val (.int i3), .val (.int i4), .val (.int ((i0 &&& (2147483647 : Int32)) % (5 : Int32))), .val (.int (100 : Int32)), .val (.int (1 : Int32)), .val (.ref a2), .val (.ref a14), .unset]) rfl k) ?_
      refine C18.new (W10 hw) (W11 hw) (W12 hw) at_120 (pc' := 123) rfl (by decide) (by decide) ?_
      intro T19 h19 a19 C19 K19 A19 ge19 zg19 E19 D19 S19
      show Endw p e below T19 (mkF m 123 #[.val (.int i0), .val (.int i1), .val (.int i2), .val (.int i3), .val (.int i4), .val (.int ((i0 &&& (2147483647 : Int32)) % (5 : Int32))), .val (.int (100 : Int32)), .val (.int (1 : Int32)), .val (.ref a2), .val (.ref a14), .unset] [(.ref a19)]) _
      refine Endw.st (T' := T19) (g' := (mkF m 124 #[.val (.int i0), .val (.int i1), .val (.int i2), .val (.int i3), .val (.int i4), .val (.int ((i0 &&& (2147483647 : Int32)) % (5 : Int32))), .val (.int (100 : Int32)), .val (.int (1 : Int32)), .val (.ref a2), .val (.ref a14), .unset] [(.ref a19), (.ref a19)])) (fun t k => XS.dup C19.here C19.hx rfl (C19.dec at_123) rfl rfl k) ?_
      refine Endw.st (T' := T19) (g' := (mkF m 126 #[.val (.int i0), .val (.int i1), .val (.int i2), .val (.int i3), .val (.int i4), .val (.int ((i0 &&& (2147483647 : Int32)) % (5 : Int32))), .val (.int (100 : Int32)), .val (.int (1 : Int32)), .val (.ref a2), .val (.ref a14), .unset] [(.ref a14), (.ref a19), (.ref a19)])) (fun t k => XS.aload C19.here C19.hx rfl (C19.dec at_124) rfl rfl k) ?_
      refine Endw.st (T' := T19) (g' := (mkF m 127 #[.val (.int i0), .val (.int i1), .val (.int i2), .val (.int i3), .val (.int i4), .val (.int ((i0 &&& (2147483647 : Int32)) % (5 : Int32))), .val (.int (100 : Int32)), .val (.int (1 : Int32)), .val (.ref a2), .val (.ref a14), .unset] [(.int i1), (.ref a14), (.ref a19), (.ref a19)])) (fun t k => XS.iloadN C19.here C19.hx rfl (C19.dec at_126) rfl k) ?_
      refine Endw.st (T' := T19) (g' := (mkF m 128 #[.val (.int i0), .val (.int i1), .val (.int i2), .val (.int i3), .val (.int i4), .val (.int ((i0 &&& (2147483647 : Int32)) % (5 : Int32))), .val (.int (100 : Int32)), .val (.int (1 : Int32)), .val (.ref a2), .val (.ref a14), .unset] [(.int i2), (.int i1), (.ref a14), (.ref a19), (.ref a19)])) (fun t k => XS.iloadN C19.here C19.hx rfl (C19.dec at_127) rfl k) ?_
      refine Endw.st (T' := T19) (g' := (mkF m 130 #[.val (.int i0), .val (.int i1), .val (.int i2), .val (.int i3), .val (.int i4), .val (.int ((i0 &&& (2147483647 : Int32)) % (5 : Int32))), .val (.int (100 : Int32)), .val (.int (1 : Int32)), .val (.ref a2), .val (.ref a14), .unset] [(.int (100 : Int32)), (.int i2), (.int i1), (.ref a14), (.ref a19), (.ref a19)])) (fun t k => XS.iload C19.here C19.hx rfl (C19.dec at_128) rfl k) ?_
      refine Endw.st (T' := T19) (g' := (mkF m 131 #[.val (.int i0), .val (.int i1), .val (.int i2), .val (.int i3), .val (.int i4), .val (.int ((i0 &&& (2147483647 : Int32)) % (5 : Int32))), .val (.int (100 : Int32)), .val (.int (1 : Int32)), .val (.ref a2), .val (.ref a14), .unset] [(.int i3), (.int (100 : Int32)), (.int i2), (.int i1), (.ref a14), (.ref a19), (.ref a19)])) (fun t k => XS.iloadN C19.here C19.hx rfl (C19.dec at_130) rfl k) ?_
      have f20 : Fld Z h19 a19 "com/example/tessera/tessera/Printf$Directive" "flags" "Ljava/lang/String;" .null := D19 (Or.inr (W25 hw)) (ty := (.object "java/lang/String")) (by decide)
      have f21 : Fld Z h19 a19 "com/example/tessera/tessera/Printf$Directive" "width" "I" (.int (0 : Int32)) := D19 (Or.inr (W27 hw)) (ty := .int) (by decide)
      have f22 : Fld Z h19 a19 "com/example/tessera/tessera/Printf$Directive" "precision" "I" (.int (0 : Int32)) := D19 (Or.inr (W29 hw)) (ty := .int) (by decide)
      have f23 : Fld Z h19 a19 "com/example/tessera/tessera/Printf$Directive" "conversion" "C" (.int (0 : Int32)) := D19 (Or.inr (W31 hw)) (ty := .char) (by decide)
      have f24 : Fld Z h19 a19 "com/example/tessera/tessera/Printf$Directive" "end" "I" (.int (0 : Int32)) := D19 (Or.inr (W33 hw)) (ty := .int) (by decide)
      refine C19.special (y := (⟨"com/example/tessera/tessera/Printf$Directive", "<init>", "(Ljava/lang/String;IICI)V"⟩ : MethodName)) (W := 1) (a := a19) (argsL := [(.ref a14), (.int i1), (.int i2), (.int (100 : Int32)), (.int i3)]) (rest := [(.ref a19)]) rfl (W13 hw) (W14 hw) (W15 hw) (W12 hw) (by decide) (rm_Dir l Z a0 EL G a19 (.ref a14) rfl i1 i2 (100 : Int32) rfl rfl i3 h19 C19.old E19 f20 f21 f22 f23 f24 zg19) rfl all0 (by decide) (by decide) (by decide) (by decide) (lenOf pd_3 rfl) rfl (Nat.le_of_ble_eq_true rfl) rfl at_131 (pc' := 134) rfl ?_
      intro vm25 T25 h25 v25 C25 A25 q25
      obtain ⟨rfl, K25, E25, F25_0, F25_1, F25_2, F25_3, F25_4⟩ := q25
      show Endw p e below T25 (mkF m 134 #[.val (.int i0), .val (.int i1), .val (.int i2), .val (.int i3), .val (.int i4), .val (.int ((i0 &&& (2147483647 : Int32)) % (5 : Int32))), .val (.int (100 : Int32)), .val (.int (1 : Int32)), .val (.ref a2), .val (.ref a14), .unset] [(.ref a19)]) _
      refine Endw.st (T' := T25) (g' := (mkF m 136 #[.val (.int i0), .val (.int i1), .val (.int i2), .val (.int i3), .val (.int i4), .val (.int ((i0 &&& (2147483647 : Int32)) % (5 : Int32))), .val (.int (100 : Int32)), .val (.int (1 : Int32)), .val (.ref a2), .val (.ref a14), .val (.ref a19)] [])) (fun t k => XS.astore C25.here C25.hx rfl (C25.dec at_134) rfl rfl (l' := #[.val (.int i0), .val (.int i1), .val (.int i2), .val (.int i3), .val (.int i4), .val (.int ((i0 &&& (2147483647 : Int32)) % (5 : Int32))), .val (.int (100 : Int32)), .val (.int (1 : Int32)), .val (.ref a2), .val (.ref a14), .val (.ref a19)]) rfl k) ?_
      refine Endw.st (T' := T25) (g' := (mkF m 138 #[.val (.int i0), .val (.int i1), .val (.int i2), .val (.int i3), .val (.int i4), .val (.int ((i0 &&& (2147483647 : Int32)) % (5 : Int32))), .val (.int (100 : Int32)), .val (.int (1 : Int32)), .val (.ref a2), .val (.ref a14), .val (.ref a19)] [(.ref a19)])) (fun t k => XS.aload C25.here C25.hx rfl (C25.dec at_136) rfl rfl k) ?_
      refine C25.virtual (y := (⟨"com/example/tessera/tessera/Printf$Directive", "numeric", "()Z"⟩ : MethodName)) (z := (⟨"com/example/tessera/tessera/Printf$Directive", "numeric", "()Z"⟩ : MethodName)) (W := 0) (a := a19) (argsL := []) (rest := []) (W34 hw) (W35 hw) (fun _ q => notFace_of_selects (args := #[]) (mvT q (W37 hw))) (W37 hw) (W36 hw) (W38 hw) (W12 hw) (by decide) (rm_Num l Z a0 EL G a19 (100 : Int32) h25 C25.old F25_3) rfl E25 all0 (by decide) (by decide) (by decide) (by decide) (lenOf pd_28295a rfl) rfl (Nat.le_of_ble_eq_true rfl) rfl at_138 (pc' := 141) rfl ?_
      intro vm26 T26 h26 v26 C26 A26 q26
      obtain ⟨z26, rfl, q26, rfl⟩ := q26
      obtain rfl : z26 = 1 := q26.elim (fun q => absurd q.1 (by decide)) (fun q => q.2)
      show Endw p e below T26 (mkF m 141 #[.val (.int i0), .val (.int i1), .val (.int i2), .val (.int i3), .val (.int i4), .val (.int ((i0 &&& (2147483647 : Int32)) % (5 : Int32))), .val (.int (100 : Int32)), .val (.int (1 : Int32)), .val (.ref a2), .val (.ref a14), .val (.ref a19)] [(.int (1 : Int32))]) _
      refine Endw.st (T' := T26) (g' := (mkF m 143 #[.val (.int i0), .val (.int i1), .val (.int i2), .val (.int i3), .val (.int i4), .val (.int ((i0 &&& (2147483647 : Int32)) % (5 : Int32))), .val (.int (100 : Int32)), .val (.int (1 : Int32)), .val (.ref a2), .val (.ref a14), .val (.ref a19)] [(.int (1 : Int32)), (.int (1 : Int32))])) (fun t k => XS.iload C26.here C26.hx rfl (C26.dec at_141) rfl k) ?_
      refine Endw.st (T' := T26) (g' := (mkF m 146 #[.val (.int i0), .val (.int i1), .val (.int i2), .val (.int i3), .val (.int i4), .val (.int ((i0 &&& (2147483647 : Int32)) % (5 : Int32))), .val (.int (100 : Int32)), .val (.int (1 : Int32)), .val (.ref a2), .val (.ref a14), .val (.ref a19)] [])) (fun t k => XS.icmpNo C26.here C26.hx rfl (C26.dec at_143) rfl (XT.ii_ne_f (by decide)) k) ?_
      refine Endw.st (T' := T26) (g' := (mkF m 147 #[.val (.int i0), .val (.int i1), .val (.int i2), .val (.int i3), .val (.int i4), .val (.int ((i0 &&& (2147483647 : Int32)) % (5 : Int32))), .val (.int (100 : Int32)), .val (.int (1 : Int32)), .val (.ref a2), .val (.ref a14), .val (.ref a19)] [(.int (1 : Int32))])) (fun t k => XS.iconst C26.here C26.hx rfl (C26.dec at_146) k) ?_
      refine Endw.st (T' := T26) (g' := (mkF m 151 #[.val (.int i0), .val (.int i1), .val (.int i2), .val (.int i3), .val (.int i4), .val (.int ((i0 &&& (2147483647 : Int32)) % (5 : Int32))), .val (.int (100 : Int32)), .val (.int (1 : Int32)), .val (.ref a2), .val (.ref a14), .val (.ref a19)] [(.int (1 : Int32))])) (fun t k => XS.goto C26.here C26.hx rfl (pc0 := 147) rfl (C26.dec at_147) (by decide) rfl k) ?_
      exact C26.retI (t := .boolean) rfl (by simp) rfl at_151 (by decide) (by decide) rfl
  · refine Endw.st (T' := T0) (g' := (mkF m 23 #[.val (.int i0), .val (.int i1), .val (.int i2), .val (.int i3), .val (.int i4), .val (.int ((i0 &&& (2147483647 : Int32)) % (5 : Int32))), .unset, .unset, .unset, .unset, .unset] [])) (fun t k => XS.ifYes C0.here C0.hx rfl (pc0 := 10) rfl (C0.dec at_10) rfl (XT.i0_ne_t c1) (by decide) rfl k) ?_
    refine Endw.st (T' := T0) (g' := (mkF m 25 #[.val (.int i0), .val (.int i1), .val (.int i2), .val (.int i3), .val (.int i4), .val (.int ((i0 &&& (2147483647 : Int32)) % (5 : Int32))), .unset, .unset, .unset, .unset, .unset] [(.int ((i0 &&& (2147483647 : Int32)) % (5 : Int32)))])) (fun t k => XS.iload C0.here C0.hx rfl (C0.dec at_23) rfl k) ?_
    refine Endw.st (T' := T0) (g' := (mkF m 26 #[.val (.int i0), .val (.int i1), .val (.int i2), .val (.int i3), .val (.int i4), .val (.int ((i0 &&& (2147483647 : Int32)) % (5 : Int32))), .unset, .unset, .unset, .unset, .unset] [(.int (1 : Int32)), (.int ((i0 &&& (2147483647 : Int32)) % (5 : Int32)))])) (fun t k => XS.iconst C0.here C0.hx rfl (C0.dec at_25) k) ?_
    by_cases c27 : ((i0 &&& (2147483647 : Int32)) % (5 : Int32)) = (1 : Int32)
    · refine Endw.st (T' := T0) (g' := (mkF m 29 #[.val (.int i0), .val (.int i1), .val (.int i2), .val (.int i3), .val (.int i4), .val (.int ((i0 &&& (2147483647 : Int32)) % (5 : Int32))), .unset, .unset, .unset, .unset, .unset] [])) (fun t k => XS.icmpNo C0.here C0.hx rfl (C0.dec at_26) rfl (XT.ii_ne_f c27) k) ?_
      refine Endw.st (T' := T0) (g' := (mkF m 31 #[.val (.int i0), .val (.int i1), .val (.int i2), .val (.int i3), .val (.int i4), .val (.int ((i0 &&& (2147483647 : Int32)) % (5 : Int32))), .unset, .unset, .unset, .unset, .unset] [(.int (102 : Int32))])) (fun t k => XS.bipush C0.here C0.hx rfl (C0.dec at_29) k) ?_
      refine Endw.st (T' := T0) (g' := (mkF m 33 #[.val (.int i0), .val (.int i1), .val (.int i2), .val (.int i3), .val (.int i4), .val (.int ((i0 &&& (2147483647 : Int32)) % (5 : Int32))), .val (.int (102 : Int32)), .unset, .unset, .unset, .unset] [])) (fun t k => XS.istore C0.here C0.hx rfl (C0.dec at_31) rfl (l' := #[.val (.int i0), .val (.int i1), .val (.int i2), .val (.int i3), .val (.int i4), .val (.int ((i0 &&& (2147483647 : Int32)) % (5 : Int32))), .val (.int (102 : Int32)), .unset, .unset, .unset, .unset]) rfl k) ?_
      refine Endw.st (T' := T0) (g' := (mkF m 34 #[.val (.int i0), .val (.int i1), .val (.int i2), .val (.int i3), .val (.int i4), .val (.int ((i0 &&& (2147483647 : Int32)) % (5 : Int32))), .val (.int (102 : Int32)), .unset, .unset, .unset, .unset] [(.int (1 : Int32))])) (fun t k => XS.iconst C0.here C0.hx rfl (C0.dec at_33) k) ?_
      refine Endw.st (T' := T0) (g' := (mkF m 36 #[.val (.int i0), .val (.int i1), .val (.int i2), .val (.int i3), .val (.int i4), .val (.int ((i0 &&& (2147483647 : Int32)) % (5 : Int32))), .val (.int (102 : Int32)), .val (.int (1 : Int32)), .unset, .unset, .unset] [])) (fun t k => XS.istore C0.here C0.hx rfl (C0.dec at_34) rfl (l' := #[.val (.int i0), .val (.int i1), .val (.int i2), .val (.int i3), .val (.int i4), .val (.int ((i0 &&& (2147483647 : Int32)) % (5 : Int32))), .val (.int (102 : Int32)), .val (.int (1 : Int32)), .unset, .unset, .unset]) rfl k) ?_
      refine Endw.st (T' := T0) (g' := (mkF m 78 #[.val (.int i0), .val (.int i1), .val (.int i2), .val (.int i3), .val (.int i4), .val (.int ((i0 &&& (2147483647 : Int32)) % (5 : Int32))), .val (.int (102 : Int32)), .val (.int (1 : Int32)), .unset, .unset, .unset] [])) (fun t k => XS.goto C0.here C0.hx rfl (pc0 := 36) rfl (C0.dec at_36) (by decide) rfl k) ?_
      refine Endw.st (T' := T0) (g' := (mkF m 79 #[.val (.int i0), .val (.int i1), .val (.int i2), .val (.int i3), .val (.int i4), .val (.int ((i0 &&& (2147483647 : Int32)) % (5 : Int32))), .val (.int (102 : Int32)), .val (.int (1 : Int32)), .unset, .unset, .unset] [(.int (1 : Int32))])) (fun t k => XS.iconst C0.here C0.hx rfl (C0.dec at_78) k) ?_
      refine C0.newA (aty := .char) (z := (1 : Int32)) (cap := 1) (vs := [(.int 0)]) (W1 hw) at_79 (pc' := 81) rfl (by decide) (by decide) (by decide) (by decide) (by decide) rfl ?_
      intro T28 h28 a28 kA28 C28 K28 A28 ge28 zg28 V28 S28
      show Endw p e below T28 (mkF m 81 #[.val (.int i0), .val (.int i1), .val (.int i2), .val (.int i3), .val (.int i4), .val (.int ((i0 &&& (2147483647 : Int32)) % (5 : Int32))), .val (.int (102 : Int32)), .val (.int (1 : Int32)), .unset, .unset, .unset] [(.ref a28)]) _
      refine Endw.st (T' := T28) (g' := (mkF m 83 #[.val (.int i0), .val (.int i1), .val (.int i2), .val (.int i3), .val (.int i4), .val (.int ((i0 &&& (2147483647 : Int32)) % (5 : Int32))), .val (.int (102 : Int32)), .val (.int (1 : Int32)), .val (.ref a28), .unset, .unset] [])) (fun t k => XS.astore C28.here C28.hx rfl (C28.dec at_81) rfl rfl (l' := #[.val (.int i0), .val (.int i1), .val (.int i2), .val (.int i3), .val (.int i4), .val (.int ((i0 &&& (2147483647 : Int32)) % (5 : Int32))), .val (.int (102 : Int32)), .val (.int (1 : Int32)), .val (.ref a28), .unset, .unset]) rfl k) ?_
      refine Endw.st (T' := T28) (g' := (mkF m 85 #[.val (.int i0), .val (.int i1), .val (.int i2), .val (.int i3), .val (.int i4), .val (.int ((i0 &&& (2147483647 : Int32)) % (5 : Int32))), .val (.int (102 : Int32)), .val (.int (1 : Int32)), .val (.ref a28), .unset, .unset] [(.ref a28)])) (fun t k => XS.aload C28.here C28.hx rfl (C28.dec at_83) rfl rfl k) ?_
      refine Endw.st (T' := T28) (g' := (mkF m 86 #[.val (.int i0), .val (.int i1), .val (.int i2), .val (.int i3), .val (.int i4), .val (.int ((i0 &&& (2147483647 : Int32)) % (5 : Int32))), .val (.int (102 : Int32)), .val (.int (1 : Int32)), .val (.ref a28), .unset, .unset] [(.int (0 : Int32)), (.ref a28)])) (fun t k => XS.iconst C28.here C28.hx rfl (C28.dec at_85) k) ?_
      refine Endw.st (T' := T28) (g' := (mkF m 88 #[.val (.int i0), .val (.int i1), .val (.int i2), .val (.int i3), .val (.int i4), .val (.int ((i0 &&& (2147483647 : Int32)) % (5 : Int32))), .val (.int (102 : Int32)), .val (.int (1 : Int32)), .val (.ref a28), .unset, .unset] [(.int i4), (.int (0 : Int32)), (.ref a28)])) (fun t k => XS.iload C28.here C28.hx rfl (C28.dec at_86) rfl k) ?_
      refine Endw.st (T' := T28) (g' := (mkF m 91 #[.val (.int i0), .val (.int i1), .val (.int i2), .val (.int i3), .val (.int i4), .val (.int ((i0 &&& (2147483647 : Int32)) % (5 : Int32))), .val (.int (102 : Int32)), .val (.int (1 : Int32)), .val (.ref a28), .unset, .unset] [(.int (255 : Int32)), (.int i4), (.int (0 : Int32)), (.ref a28)])) (fun t k => XS.sipush C28.here C28.hx rfl (C28.dec at_88) k) ?_
      refine Endw.st (T' := T28) (g' := (mkF m 92 #[.val (.int i0), .val (.int i1), .val (.int i2), .val (.int i3), .val (.int i4), .val (.int ((i0 &&& (2147483647 : Int32)) % (5 : Int32))), .val (.int (102 : Int32)), .val (.int (1 : Int32)), .val (.ref a28), .unset, .unset] [(.int (i4 &&& (255 : Int32))), (.int (0 : Int32)), (.ref a28)])) (fun t k => XS.iand C28.here C28.hx rfl (C28.dec at_91) rfl k) ?_
      refine Endw.st (T' := T28) (g' := (mkF m 93 #[.val (.int i0), .val (.int i1), .val (.int i2), .val (.int i3), .val (.int i4), .val (.int ((i0 &&& (2147483647 : Int32)) % (5 : Int32))), .val (.int (102 : Int32)), .val (.int (1 : Int32)), .val (.ref a28), .unset, .unset] [(.int ((i4 &&& (255 : Int32)).toUInt32.toUInt16.toUInt32.toInt32)), (.int (0 : Int32)), (.ref a28)])) (fun t k => XS.i2c C28.here C28.hx rfl (C28.dec at_92) rfl k) ?_
      rw [show (i4 &&& (255 : Int32)).toUInt32.toUInt16.toUInt32.toInt32 = (i4 &&& (255 : Int32)) from i2c_mask _]
      refine C28.castore V28 ⟨by decide, by decide⟩ 0 (by decide) (Nat.le_of_ble_eq_true rfl) (x' := (i4 &&& (255 : Int32))) (i2c_mask _) zg28 at_93 (pc' := 94) rfl ?_
      intro T29 h29 C29 K29 A29 V29
      show Endw p e below T29 (mkF m 94 #[.val (.int i0), .val (.int i1), .val (.int i2), .val (.int i3), .val (.int i4), .val (.int ((i0 &&& (2147483647 : Int32)) % (5 : Int32))), .val (.int (102 : Int32)), .val (.int (1 : Int32)), .val (.ref a28), .unset, .unset] []) _
      refine Endw.st (T' := T29) (g' := (mkF m 96 #[.val (.int i0), .val (.int i1), .val (.int i2), .val (.int i3), .val (.int i4), .val (.int ((i0 &&& (2147483647 : Int32)) % (5 : Int32))), .val (.int (102 : Int32)), .val (.int (1 : Int32)), .val (.ref a28), .unset, .unset] [(.int i4)])) (fun t k => XS.iload C29.here C29.hx rfl (C29.dec at_94) rfl k) ?_
      refine Endw.st (T' := T29) (g' := (mkF m 98 #[.val (.int i0), .val (.int i1), .val (.int i2), .val (.int i3), .val (.int i4), .val (.int ((i0 &&& (2147483647 : Int32)) % (5 : Int32))), .val (.int (102 : Int32)), .val (.int (1 : Int32)), .val (.ref a28), .unset, .unset] [(.int (8 : Int32)), (.int i4)])) (fun t k => XS.bipush C29.here C29.hx rfl (C29.dec at_96) k) ?_
      refine Endw.st (T' := T29) (g' := (mkF m 99 #[.val (.int i0), .val (.int i1), .val (.int i2), .val (.int i3), .val (.int i4), .val (.int ((i0 &&& (2147483647 : Int32)) % (5 : Int32))), .val (.int (102 : Int32)), .val (.int (1 : Int32)), .val (.ref a28), .unset, .unset] [(.int ((i4.toUInt32 >>> ((8 : Int32) &&& 31).toUInt32).toInt32))])) (fun t k => XS.iushr C29.here C29.hx rfl (C29.dec at_98) rfl k) ?_
      refine Endw.st (T' := T29) (g' := (mkF m 100 #[.val (.int i0), .val (.int i1), .val (.int i2), .val (.int i3), .val (.int i4), .val (.int ((i0 &&& (2147483647 : Int32)) % (5 : Int32))), .val (.int (102 : Int32)), .val (.int (1 : Int32)), .val (.ref a28), .unset, .unset] [(.int (1 : Int32)), (.int ((i4.toUInt32 >>> ((8 : Int32) &&& 31).toUInt32).toInt32))])) (fun t k => XS.iconst C29.here C29.hx rfl (C29.dec at_99) k) ?_
      refine Endw.st (T' := T29) (g' := (mkF m 101 #[.val (.int i0), .val (.int i1), .val (.int i2), .val (.int i3), .val (.int i4), .val (.int ((i0 &&& (2147483647 : Int32)) % (5 : Int32))), .val (.int (102 : Int32)), .val (.int (1 : Int32)), .val (.ref a28), .unset, .unset] [(.int (((i4.toUInt32 >>> ((8 : Int32) &&& 31).toUInt32).toInt32) &&& (1 : Int32)))])) (fun t k => XS.iand C29.here C29.hx rfl (C29.dec at_100) rfl k) ?_
      by_cases c30 : (((i4.toUInt32 >>> ((8 : Int32) &&& 31).toUInt32).toInt32) &&& (1 : Int32)) = (0 : Int32)
      · refine Endw.st (T' := T29) (g' := (mkF m 116 #[.val (.int i0), .val (.int i1), .val (.int i2), .val (.int i3), .val (.int i4), .val (.int ((i0 &&& (2147483647 : Int32)) % (5 : Int32))), .val (.int (102 : Int32)), .val (.int (1 : Int32)), .val (.ref a28), .unset, .unset] [])) (fun t k => XS.ifYes C29.here C29.hx rfl (pc0 := 101) rfl (C29.dec at_101) rfl (XT.i0_eq_t c30) (by decide) rfl k) ?_
        refine C29.ldcO (N := 0) (W2 hw) G.wS (by decide) (by decide) (by decide) (by decide) at_116 (pc' := 118) rfl rfl ?_
        intro vm31 T31 h31 a31 C31 K31 A31
        show Endw p e below T31 (mkF m 118 #[.val (.int i0), .val (.int i1), .val (.int i2), .val (.int i3), .val (.int i4), .val (.int ((i0 &&& (2147483647 : Int32)) % (5 : Int32))), .val (.int (102 : Int32)), .val (.int (1 : Int32)), .val (.ref a28), .unset, .unset] [(.ref a31)]) _
        refine Endw.st (T' := T31) (g' := (mkF m 120 #[.val (.int i0), .val (.int i1), .val (.int i2), .val (.int i3), .val (.int i4), .val (.int ((i0 &&& (2147483647 : Int32)) % (5 : Int32))), .val (.int (102 : Int32)), .val (.int (1 : Int32)), .val (.ref a28), .val (.ref a31), .unset] [])) (fun t k => XS.astore C31.here C31.hx rfl (C31.dec at_118) rfl rfl (l' := #[.val (.int i0), .val (.int i1), .val (.int i2), .val (.int i3), .val (.int i4), .val (.int ((i0 &&& (2147483647 : Int32)) % (5 : Int32))), .val (.int (102 : Int32)), .val (.int (1 : Int32)), .val (.ref a28), .val (.ref a31), .unset]) rfl k) ?_
        refine C31.new (W10 hw) (W11 hw) (W12 hw) at_120 (pc' := 123) rfl (by decide) (by decide) ?_
        intro T32 h32 a32 C32 K32 A32 ge32 zg32 E32 D32 S32
        show Endw p e below T32 (mkF m 123 #[.val (.int i0), .val (.int i1), .val (.int i2), .val (.int i3), .val (.int i4), .val (.int ((i0 &&& (2147483647 : Int32)) % (5 : Int32))), .val (.int (102 : Int32)), .val (.int (1 : Int32)), .val (.ref a28), .val (.ref a31), .unset] [(.ref a32)]) _
        refine Endw.st (T' := T32) (g' := (mkF m 124 #[.val (.int i0), .val (.int i1), .val (.int i2), .val (.int i3), .val (.int i4), .val (.int ((i0 &&& (2147483647 : Int32)) % (5 : Int32))), .val (.int (102 : Int32)), .val (.int (1 : Int32)), .val (.ref a28), .val (.ref a31), .unset] [(.ref a32), (.ref a32)])) (fun t k => XS.dup C32.here C32.hx rfl (C32.dec at_123) rfl rfl k) ?_
        refine Endw.st (T' := T32) (g' := (mkF m 126 #[.val (.int i0), .val (.int i1), .val (.int i2), .val (.int i3), .val (.int i4), .val (.int ((i0 &&& (2147483647 : Int32)) % (5 : Int32))), .val (.int (102 : Int32)), .val (.int (1 : Int32)), .val (.ref a28), .val (.ref a31), .unset] [(.ref a31), (.ref a32), (.ref a32)])) (fun t k => XS.aload C32.here C32.hx rfl (C32.dec at_124) rfl rfl k) ?_
        refine Endw.st (T' := T32) (g' := (mkF m 127 #[.val (.int i0), .val (.int i1), .val (.int i2), .val (.int i3), .val (.int i4), .val (.int ((i0 &&& (2147483647 : Int32)) % (5 : Int32))), .val (.int (102 : Int32)), .val (.int (1 : Int32)), .val (.ref a28), .val (.ref a31), .unset] [(.int i1), (.ref a31), (.ref a32), (.ref a32)])) (fun t k => XS.iloadN C32.here C32.hx rfl (C32.dec at_126) rfl k) ?_
        refine Endw.st (T' := T32) (g' := (mkF m 128 #[.val (.int i0), .val (.int i1), .val (.int i2), .val (.int i3), .val (.int i4), .val (.int ((i0 &&& (2147483647 : Int32)) % (5 : Int32))), .val (.int (102 : Int32)), .val (.int (1 : Int32)), .val (.ref a28), .val (.ref a31), .unset] [(.int i2), (.int i1), (.ref a31), (.ref a32), (.ref a32)])) (fun t k => XS.iloadN C32.here C32.hx rfl (C32.dec at_127) rfl k) ?_
        refine Endw.st (T' := T32) (g' := (mkF m 130 #[.val (.int i0), .val (.int i1), .val (.int i2), .val (.int i3), .val (.int i4), .val (.int ((i0 &&& (2147483647 : Int32)) % (5 : Int32))), .val (.int (102 : Int32)), .val (.int (1 : Int32)), .val (.ref a28), .val (.ref a31), .unset] [(.int (102 : Int32)), (.int i2), (.int i1), (.ref a31), (.ref a32), (.ref a32)])) (fun t k => XS.iload C32.here C32.hx rfl (C32.dec at_128) rfl k) ?_
        refine Endw.st (T' := T32) (g' := (mkF m 131 #[.val (.int i0), .val (.int i1), .val (.int i2), .val (.int i3), .val (.int i4), .val (.int ((i0 &&& (2147483647 : Int32)) % (5 : Int32))), .val (.int (102 : Int32)), .val (.int (1 : Int32)), .val (.ref a28), .val (.ref a31), .unset] [(.int i3), (.int (102 : Int32)), (.int i2), (.int i1), (.ref a31), (.ref a32), (.ref a32)])) (fun t k => XS.iloadN C32.here C32.hx rfl (C32.dec at_130) rfl k) ?_
        have f33 : Fld Z h32 a32 "com/example/tessera/tessera/Printf$Directive" "flags" "Ljava/lang/String;" .null := D32 (Or.inr (W25 hw)) (ty := (.object "java/lang/String")) (by decide)
        have f34 : Fld Z h32 a32 "com/example/tessera/tessera/Printf$Directive" "width" "I" (.int (0 : Int32)) := D32 (Or.inr (W27 hw)) (ty := .int) (by decide)
        have f35 : Fld Z h32 a32 "com/example/tessera/tessera/Printf$Directive" "precision" "I" (.int (0 : Int32)) := D32 (Or.inr (W29 hw)) (ty := .int) (by decide)
        have f36 : Fld Z h32 a32 "com/example/tessera/tessera/Printf$Directive" "conversion" "C" (.int (0 : Int32)) := D32 (Or.inr (W31 hw)) (ty := .char) (by decide)
        have f37 : Fld Z h32 a32 "com/example/tessera/tessera/Printf$Directive" "end" "I" (.int (0 : Int32)) := D32 (Or.inr (W33 hw)) (ty := .int) (by decide)
        refine C32.special (y := (⟨"com/example/tessera/tessera/Printf$Directive", "<init>", "(Ljava/lang/String;IICI)V"⟩ : MethodName)) (W := 1) (a := a32) (argsL := [(.ref a31), (.int i1), (.int i2), (.int (102 : Int32)), (.int i3)]) (rest := [(.ref a32)]) rfl (W13 hw) (W14 hw) (W15 hw) (W12 hw) (by decide) (rm_Dir l Z a0 EL G a32 (.ref a31) rfl i1 i2 (102 : Int32) rfl rfl i3 h32 C32.old E32 f33 f34 f35 f36 f37 zg32) rfl all0 (by decide) (by decide) (by decide) (by decide) (lenOf pd_3 rfl) rfl (Nat.le_of_ble_eq_true rfl) rfl at_131 (pc' := 134) rfl ?_
        intro vm38 T38 h38 v38 C38 A38 q38
        obtain ⟨rfl, K38, E38, F38_0, F38_1, F38_2, F38_3, F38_4⟩ := q38
        show Endw p e below T38 (mkF m 134 #[.val (.int i0), .val (.int i1), .val (.int i2), .val (.int i3), .val (.int i4), .val (.int ((i0 &&& (2147483647 : Int32)) % (5 : Int32))), .val (.int (102 : Int32)), .val (.int (1 : Int32)), .val (.ref a28), .val (.ref a31), .unset] [(.ref a32)]) _
        refine Endw.st (T' := T38) (g' := (mkF m 136 #[.val (.int i0), .val (.int i1), .val (.int i2), .val (.int i3), .val (.int i4), .val (.int ((i0 &&& (2147483647 : Int32)) % (5 : Int32))), .val (.int (102 : Int32)), .val (.int (1 : Int32)), .val (.ref a28), .val (.ref a31), .val (.ref a32)] [])) (fun t k => XS.astore C38.here C38.hx rfl (C38.dec at_134) rfl rfl (l' := #[.val (.int i0), .val (.int i1), .val (.int i2), .val (.int i3), .val (.int i4), .val (.int ((i0 &&& (2147483647 : Int32)) % (5 : Int32))), .val (.int (102 : Int32)), .val (.int (1 : Int32)), .val (.ref a28), .val (.ref a31), .val (.ref a32)]) rfl k) ?_
        refine Endw.st (T' := T38) (g' := (mkF m 138 #[.val (.int i0), .val (.int i1), .val (.int i2), .val (.int i3), .val (.int i4), .val (.int ((i0 &&& (2147483647 : Int32)) % (5 : Int32))), .val (.int (102 : Int32)), .val (.int (1 : Int32)), .val (.ref a28), .val (.ref a31), .val (.ref a32)] [(.ref a32)])) (fun t k => XS.aload C38.here C38.hx rfl (C38.dec at_136) rfl rfl k) ?_
        refine C38.virtual (y := (⟨"com/example/tessera/tessera/Printf$Directive", "numeric", "()Z"⟩ : MethodName)) (z := (⟨"com/example/tessera/tessera/Printf$Directive", "numeric", "()Z"⟩ : MethodName)) (W := 0) (a := a32) (argsL := []) (rest := []) (W34 hw) (W35 hw) (fun _ q => notFace_of_selects (args := #[]) (mvT q (W37 hw))) (W37 hw) (W36 hw) (W38 hw) (W12 hw) (by decide) (rm_Num l Z a0 EL G a32 (102 : Int32) h38 C38.old F38_3) rfl E38 all0 (by decide) (by decide) (by decide) (by decide) (lenOf pd_28295a rfl) rfl (Nat.le_of_ble_eq_true rfl) rfl at_138 (pc' := 141) rfl ?_
        intro vm39 T39 h39 v39 C39 A39 q39
        obtain ⟨z39, rfl, q39, rfl⟩ := q39
        obtain rfl : z39 = 1 := q39.elim (fun q => absurd q.1 (by decide)) (fun q => q.2)
        show Endw p e below T39 (mkF m 141 #[.val (.int i0), .val (.int i1), .val (.int i2), .val (.int i3), .val (.int i4), .val (.int ((i0 &&& (2147483647 : Int32)) % (5 : Int32))), .val (.int (102 : Int32)), .val (.int (1 : Int32)), .val (.ref a28), .val (.ref a31), .val (.ref a32)] [(.int (1 : Int32))]) _
        refine Endw.st (T' := T39) (g' := (mkF m 143 #[.val (.int i0), .val (.int i1), .val (.int i2), .val (.int i3), .val (.int i4), .val (.int ((i0 &&& (2147483647 : Int32)) % (5 : Int32))), .val (.int (102 : Int32)), .val (.int (1 : Int32)), .val (.ref a28), .val (.ref a31), .val (.ref a32)] [(.int (1 : Int32)), (.int (1 : Int32))])) (fun t k => XS.iload C39.here C39.hx rfl (C39.dec at_141) rfl k) ?_
        refine Endw.st (T' := T39) (g' := (mkF m 146 #[.val (.int i0), .val (.int i1), .val (.int i2), .val (.int i3), .val (.int i4), .val (.int ((i0 &&& (2147483647 : Int32)) % (5 : Int32))), .val (.int (102 : Int32)), .val (.int (1 : Int32)), .val (.ref a28), .val (.ref a31), .val (.ref a32)] [])) (fun t k => XS.icmpNo C39.here C39.hx rfl (C39.dec at_143) rfl (XT.ii_ne_f (by decide)) k) ?_
        refine Endw.st (T' := T39) (g' := (mkF m 147 #[.val (.int i0), .val (.int i1), .val (.int i2), .val (.int i3), .val (.int i4), .val (.int ((i0 &&& (2147483647 : Int32)) % (5 : Int32))), .val (.int (102 : Int32)), .val (.int (1 : Int32)), .val (.ref a28), .val (.ref a31), .val (.ref a32)] [(.int (1 : Int32))])) (fun t k => XS.iconst C39.here C39.hx rfl (C39.dec at_146) k) ?_
        refine Endw.st (T' := T39) (g' := (mkF m 151 #[.val (.int i0), .val (.int i1), .val (.int i2), .val (.int i3), .val (.int i4), .val (.int ((i0 &&& (2147483647 : Int32)) % (5 : Int32))), .val (.int (102 : Int32)), .val (.int (1 : Int32)), .val (.ref a28), .val (.ref a31), .val (.ref a32)] [(.int (1 : Int32))])) (fun t k => XS.goto C39.here C39.hx rfl (pc0 := 147) rfl (C39.dec at_147) (by decide) rfl k) ?_
        exact C39.retI (t := .boolean) rfl (by simp) rfl at_151 (by decide) (by decide) rfl
      · refine Endw.st (T' := T29) (g' := (mkF m 104 #[.val (.int i0), .val (.int i1), .val (.int i2), .val (.int i3), .val (.int i4), .val (.int ((i0 &&& (2147483647 : Int32)) % (5 : Int32))), .val (.int (102 : Int32)), .val (.int (1 : Int32)), .val (.ref a28), .unset, .unset] [])) (fun t k => XS.ifNo C29.here C29.hx rfl (C29.dec at_101) rfl (XT.i0_eq_f c30) k) ?_
        refine C29.new (W39 hw) (W4 hw) (W3 hw) at_104 (pc' := 107) rfl (by decide) (by decide) ?_
        intro T40 h40 a40 C40 K40 A40 ge40 zg40 E40 D40 S40
        show Endw p e below T40 (mkF m 107 #[.val (.int i0), .val (.int i1), .val (.int i2), .val (.int i3), .val (.int i4), .val (.int ((i0 &&& (2147483647 : Int32)) % (5 : Int32))), .val (.int (102 : Int32)), .val (.int (1 : Int32)), .val (.ref a28), .unset, .unset] [(.ref a40)]) _
        refine Endw.st (T' := T40) (g' := (mkF m 108 #[.val (.int i0), .val (.int i1), .val (.int i2), .val (.int i3), .val (.int i4), .val (.int ((i0 &&& (2147483647 : Int32)) % (5 : Int32))), .val (.int (102 : Int32)), .val (.int (1 : Int32)), .val (.ref a28), .unset, .unset] [(.ref a40), (.ref a40)])) (fun t k => XS.dup C40.here C40.hx rfl (C40.dec at_107) rfl rfl k) ?_
        refine Endw.st (T' := T40) (g' := (mkF m 110 #[.val (.int i0), .val (.int i1), .val (.int i2), .val (.int i3), .val (.int i4), .val (.int ((i0 &&& (2147483647 : Int32)) % (5 : Int32))), .val (.int (102 : Int32)), .val (.int (1 : Int32)), .val (.ref a28), .unset, .unset] [(.ref a28), (.ref a40), (.ref a40)])) (fun t k => XS.aload C40.here C40.hx rfl (C40.dec at_108) rfl rfl k) ?_
        have f41 := (V29.keep K40 nin0)
        have f42 : Fld Z h40 a40 "java/lang/String" "value" "[B" .null := D40 (Or.inr (W6 hw)) (ty := (.array .byte)) (by decide)
        have f43 : Fld Z h40 a40 "java/lang/String" "coder" "B" (.int (0 : Int32)) := D40 (Or.inr (W7 hw)) (ty := .byte) (by decide)
        have hp44 : ∀ c ∈ [(i4 &&& (255 : Int32))], B8 c := (own_cS (own_mask255 _) own_c0)
        refine C40.specialF (y := (⟨"java/lang/String", "<init>", "([C)V"⟩ : MethodName)) (ws := [a40]) (W := 1) (a := a40) (argsL := [.ref a28]) (rest := [(.ref a40)]) (ck := 1) (cn := 1) rfl (W40 hw) (W41 hw) (W42 hw) (by decide) (StrChars.Road.backV (W := 1) (n := 1) (n0 := Z.heap.size) (cs := [(i4 &&& (255 : Int32))]) (bs := [(i4 &&& (255 : Int32)).toInt8.toInt32]) C40.warm G.w_backV (kI := 4) (W4 hw) zg40 C40.le E40 f42 f43 f41 (Sc.ext C40.old) hzc rfl rfl (by decide) (by decide) hp44 rfl (by decide) (by decide)) (fun _ _ _ q => ⟨q.2.1, q.2.2.1⟩) (allS zg40 all0) (sfS S40 sf0) rfl (by decide) (by decide) (lenOf pd_285b432956 rfl) rfl (Nat.le_of_ble_eq_true rfl) rfl at_110 (pc' := 113) rfl ?_
        intro T44 h44 v44 C44 K44 A44 q44
        obtain ⟨_, rfl, -, -, E44, F44, t44, kb44, zg44, ge44, nt44, f44, V44⟩ := q44
        have Z44 : Str Z h44 a40 t44 kb44 [(i4 &&& (255 : Int32))] := ⟨E44, F44, f44, V44, hp44, Nat.le_of_ble_eq_true rfl⟩
        show Endw p e below T44 (mkF m 113 #[.val (.int i0), .val (.int i1), .val (.int i2), .val (.int i3), .val (.int i4), .val (.int ((i0 &&& (2147483647 : Int32)) % (5 : Int32))), .val (.int (102 : Int32)), .val (.int (1 : Int32)), .val (.ref a28), .unset, .unset] [(.ref a40)]) _
        refine Endw.st (T' := T44) (g' := (mkF m 118 #[.val (.int i0), .val (.int i1), .val (.int i2), .val (.int i3), .val (.int i4), .val (.int ((i0 &&& (2147483647 : Int32)) % (5 : Int32))), .val (.int (102 : Int32)), .val (.int (1 : Int32)), .val (.ref a28), .unset, .unset] [(.ref a40)])) (fun t k => XS.goto C44.here C44.hx rfl (pc0 := 113) rfl (C44.dec at_113) (by decide) rfl k) ?_
        refine Endw.st (T' := T44) (g' := (mkF m 120 #[.val (.int i0), .val (.int i1), .val (.int i2), .val (.int i3), .val (.int i4), .val (.int ((i0 &&& (2147483647 : Int32)) % (5 : Int32))), .val (.int (102 : Int32)), .val (.int (1 : Int32)), .val (.ref a28), .val (.ref a40), .unset] [])) (fun t k => XS.astore C44.here C44.hx rfl (C44.dec at_118) rfl rfl (l' := #[.val (.int i0), .val (.int i1), .val (.int i2), .val (.int i3), .val (.int i4), .val (.int ((i0 &&& (2147483647 : Int32)) % (5 : Int32))), .val (.int (102 : Int32)), .val (.int (1 : Int32)), .val (.ref a28), .val (.ref a40), .unset]) rfl k) ?_
        refine C44.new (W10 hw) (W11 hw) (W12 hw) at_120 (pc' := 123) rfl (by decide) (by decide) ?_
        intro T45 h45 a45 C45 K45 A45 ge45 zg45 E45 D45 S45
        show Endw p e below T45 (mkF m 123 #[.val (.int i0), .val (.int i1), .val (.int i2), .val (.int i3), .val (.int i4), .val (.int ((i0 &&& (2147483647 : Int32)) % (5 : Int32))), .val (.int (102 : Int32)), .val (.int (1 : Int32)), .val (.ref a28), .val (.ref a40), .unset] [(.ref a45)]) _
        refine Endw.st (T' := T45) (g' := (mkF m 124 #[.val (.int i0), .val (.int i1), .val (.int i2), .val (.int i3), .val (.int i4), .val (.int ((i0 &&& (2147483647 : Int32)) % (5 : Int32))), .val (.int (102 : Int32)), .val (.int (1 : Int32)), .val (.ref a28), .val (.ref a40), .unset] [(.ref a45), (.ref a45)])) (fun t k => XS.dup C45.here C45.hx rfl (C45.dec at_123) rfl rfl k) ?_
        refine Endw.st (T' := T45) (g' := (mkF m 126 #[.val (.int i0), .val (.int i1), .val (.int i2), .val (.int i3), .val (.int i4), .val (.int ((i0 &&& (2147483647 : Int32)) % (5 : Int32))), .val (.int (102 : Int32)), .val (.int (1 : Int32)), .val (.ref a28), .val (.ref a40), .unset] [(.ref a40), (.ref a45), (.ref a45)])) (fun t k => XS.aload C45.here C45.hx rfl (C45.dec at_124) rfl rfl k) ?_
        refine Endw.st (T' := T45) (g' := (mkF m 127 #[.val (.int i0), .val (.int i1), .val (.int i2), .val (.int i3), .val (.int i4), .val (.int ((i0 &&& (2147483647 : Int32)) % (5 : Int32))), .val (.int (102 : Int32)), .val (.int (1 : Int32)), .val (.ref a28), .val (.ref a40), .unset] [(.int i1), (.ref a40), (.ref a45), (.ref a45)])) (fun t k => XS.iloadN C45.here C45.hx rfl (C45.dec at_126) rfl k) ?_
        refine Endw.st (T' := T45) (g' := (mkF m 128 #[.val (.int i0), .val (.int i1), .val (.int i2), .val (.int i3), .val (.int i4), .val (.int ((i0 &&& (2147483647 : Int32)) % (5 : Int32))), .val (.int (102 : Int32)), .val (.int (1 : Int32)), .val (.ref a28), .val (.ref a40), .unset] [(.int i2), (.int i1), (.ref a40), (.ref a45), (.ref a45)])) (fun t k => XS.iloadN C45.here C45.hx rfl (C45.dec at_127) rfl k) ?_
        refine Endw.st (T' := T45) (g' := (mkF m 130 #[.val (.int i0), .val (.int i1), .val (.int i2), .val (.int i3), .val (.int i4), .val (.int ((i0 &&& (2147483647 : Int32)) % (5 : Int32))), .val (.int (102 : Int32)), .val (.int (1 : Int32)), .val (.ref a28), .val (.ref a40), .unset] [(.int (102 : Int32)), (.int i2), (.int i1), (.ref a40), (.ref a45), (.ref a45)])) (fun t k => XS.iload C45.here C45.hx rfl (C45.dec at_128) rfl k) ?_
        refine Endw.st (T' := T45) (g' := (mkF m 131 #[.val (.int i0), .val (.int i1), .val (.int i2), .val (.int i3), .val (.int i4), .val (.int ((i0 &&& (2147483647 : Int32)) % (5 : Int32))), .val (.int (102 : Int32)), .val (.int (1 : Int32)), .val (.ref a28), .val (.ref a40), .unset] [(.int i3), (.int (102 : Int32)), (.int i2), (.int i1), (.ref a40), (.ref a45), (.ref a45)])) (fun t k => XS.iloadN C45.here C45.hx rfl (C45.dec at_130) rfl k) ?_
        have f46 : Fld Z h45 a45 "com/example/tessera/tessera/Printf$Directive" "flags" "Ljava/lang/String;" .null := D45 (Or.inr (W25 hw)) (ty := (.object "java/lang/String")) (by decide)
        have f47 : Fld Z h45 a45 "com/example/tessera/tessera/Printf$Directive" "width" "I" (.int (0 : Int32)) := D45 (Or.inr (W27 hw)) (ty := .int) (by decide)
        have f48 : Fld Z h45 a45 "com/example/tessera/tessera/Printf$Directive" "precision" "I" (.int (0 : Int32)) := D45 (Or.inr (W29 hw)) (ty := .int) (by decide)
        have f49 : Fld Z h45 a45 "com/example/tessera/tessera/Printf$Directive" "conversion" "C" (.int (0 : Int32)) := D45 (Or.inr (W31 hw)) (ty := .char) (by decide)
        have f50 : Fld Z h45 a45 "com/example/tessera/tessera/Printf$Directive" "end" "I" (.int (0 : Int32)) := D45 (Or.inr (W33 hw)) (ty := .int) (by decide)
        refine C45.special (y := (⟨"com/example/tessera/tessera/Printf$Directive", "<init>", "(Ljava/lang/String;IICI)V"⟩ : MethodName)) (W := 1) (a := a45) (argsL := [(.ref a40), (.int i1), (.int i2), (.int (102 : Int32)), (.int i3)]) (rest := [(.ref a45)]) rfl (W13 hw) (W14 hw) (W15 hw) (W12 hw) (by decide) (rm_Dir l Z a0 EL G a45 (.ref a40) rfl i1 i2 (102 : Int32) rfl rfl i3 h45 C45.old E45 f46 f47 f48 f49 f50 zg45) rfl all0 (by decide) (by decide) (by decide) (by decide) (lenOf pd_3 rfl) rfl (Nat.le_of_ble_eq_true rfl) rfl at_131 (pc' := 134) rfl ?_
        intro vm51 T51 h51 v51 C51 A51 q51
        obtain ⟨rfl, K51, E51, F51_0, F51_1, F51_2, F51_3, F51_4⟩ := q51
        show Endw p e below T51 (mkF m 134 #[.val (.int i0), .val (.int i1), .val (.int i2), .val (.int i3), .val (.int i4), .val (.int ((i0 &&& (2147483647 : Int32)) % (5 : Int32))), .val (.int (102 : Int32)), .val (.int (1 : Int32)), .val (.ref a28), .val (.ref a40), .unset] [(.ref a45)]) _
        refine Endw.st (T' := T51) (g' := (mkF m 136 #[.val (.int i0), .val (.int i1), .val (.int i2), .val (.int i3), .val (.int i4), .val (.int ((i0 &&& (2147483647 : Int32)) % (5 : Int32))), .val (.int (102 : Int32)), .val (.int (1 : Int32)), .val (.ref a28), .val (.ref a40), .val (.ref a45)] [])) (fun t k => XS.astore C51.here C51.hx rfl (C51.dec at_134) rfl rfl (l' := #[.val (.int i0), .val (.int i1), .val (.int i2), .val (.int i3), .val (.int i4), .val (.int ((i0 &&& (2147483647 : Int32)) % (5 : Int32))), .val (.int (102 : Int32)), .val (.int (1 : Int32)), .val (.ref a28), .val (.ref a40), .val (.ref a45)]) rfl k) ?_
        refine Endw.st (T' := T51) (g' := (mkF m 138 #[.val (.int i0), .val (.int i1), .val (.int i2), .val (.int i3), .val (.int i4), .val (.int ((i0 &&& (2147483647 : Int32)) % (5 : Int32))), .val (.int (102 : Int32)), .val (.int (1 : Int32)), .val (.ref a28), .val (.ref a40), .val (.ref a45)] [(.ref a45)])) (fun t k => XS.aload C51.here C51.hx rfl (C51.dec at_136) rfl rfl k) ?_
        refine C51.virtual (y := (⟨"com/example/tessera/tessera/Printf$Directive", "numeric", "()Z"⟩ : MethodName)) (z := (⟨"com/example/tessera/tessera/Printf$Directive", "numeric", "()Z"⟩ : MethodName)) (W := 0) (a := a45) (argsL := []) (rest := []) (W34 hw) (W35 hw) (fun _ q => notFace_of_selects (args := #[]) (mvT q (W37 hw))) (W37 hw) (W36 hw) (W38 hw) (W12 hw) (by decide) (rm_Num l Z a0 EL G a45 (102 : Int32) h51 C51.old F51_3) rfl E51 all0 (by decide) (by decide) (by decide) (by decide) (lenOf pd_28295a rfl) rfl (Nat.le_of_ble_eq_true rfl) rfl at_138 (pc' := 141) rfl ?_
        intro vm52 T52 h52 v52 C52 A52 q52
        obtain ⟨z52, rfl, q52, rfl⟩ := q52
        obtain rfl : z52 = 1 := q52.elim (fun q => absurd q.1 (by decide)) (fun q => q.2)
        show Endw p e below T52 (mkF m 141 #[.val (.int i0), .val (.int i1), .val (.int i2), .val (.int i3), .val (.int i4), .val (.int ((i0 &&& (2147483647 : Int32)) % (5 : Int32))), .val (.int (102 : Int32)), .val (.int (1 : Int32)), .val (.ref a28), .val (.ref a40), .val (.ref a45)] [(.int (1 : Int32))]) _
        refine Endw.st (T' := T52) (g' := (mkF m 143 #[.val (.int i0), .val (.int i1), .val (.int i2), .val (.int i3), .val (.int i4), .val (.int ((i0 &&& (2147483647 : Int32)) % (5 : Int32))), .val (.int (102 : Int32)), .val (.int (1 : Int32)), .val (.ref a28), .val (.ref a40), .val (.ref a45)] [(.int (1 : Int32)), (.int (1 : Int32))])) (fun t k => XS.iload C52.here C52.hx rfl (C52.dec at_141) rfl k) ?_
        refine Endw.st (T' := T52) (g' := (mkF m 146 #[.val (.int i0), .val (.int i1), .val (.int i2), .val (.int i3), .val (.int i4), .val (.int ((i0 &&& (2147483647 : Int32)) % (5 : Int32))), .val (.int (102 : Int32)), .val (.int (1 : Int32)), .val (.ref a28), .val (.ref a40), .val (.ref a45)] [])) (fun t k => XS.icmpNo C52.here C52.hx rfl (C52.dec at_143) rfl (XT.ii_ne_f (by decide)) k) ?_
        refine Endw.st (T' := T52) (g' := (mkF m 147 #[.val (.int i0), .val (.int i1), .val (.int i2), .val (.int i3), .val (.int i4), .val (.int ((i0 &&& (2147483647 : Int32)) % (5 : Int32))), .val (.int (102 : Int32)), .val (.int (1 : Int32)), .val (.ref a28), .val (.ref a40), .val (.ref a45)] [(.int (1 : Int32))])) (fun t k => XS.iconst C52.here C52.hx rfl (C52.dec at_146) k) ?_
        refine Endw.st (T' := T52) (g' := (mkF m 151 #[.val (.int i0), .val (.int i1), .val (.int i2), .val (.int i3), .val (.int i4), .val (.int ((i0 &&& (2147483647 : Int32)) % (5 : Int32))), .val (.int (102 : Int32)), .val (.int (1 : Int32)), .val (.ref a28), .val (.ref a40), .val (.ref a45)] [(.int (1 : Int32))])) (fun t k => XS.goto C52.here C52.hx rfl (pc0 := 147) rfl (C52.dec at_147) (by decide) rfl k) ?_
        exact C52.retI (t := .boolean) rfl (by simp) rfl at_151 (by decide) (by decide) rfl
    · refine Endw.st (T' := T0) (g' := (mkF m 39 #[.val (.int i0), .val (.int i1), .val (.int i2), .val (.int i3), .val (.int i4), .val (.int ((i0 &&& (2147483647 : Int32)) % (5 : Int32))), .unset, .unset, .unset, .unset, .unset] [])) (fun t k => XS.icmpYes C0.here C0.hx rfl (pc0 := 26) rfl (C0.dec at_26) rfl (XT.ii_ne_t c27) (by decide) rfl k) ?_
      refine Endw.st (T' := T0) (g' := (mkF m 41 #[.val (.int i0), .val (.int i1), .val (.int i2), .val (.int i3), .val (.int i4), .val (.int ((i0 &&& (2147483647 : Int32)) % (5 : Int32))), .unset, .unset, .unset, .unset, .unset] [(.int ((i0 &&& (2147483647 : Int32)) % (5 : Int32)))])) (fun t k => XS.iload C0.here C0.hx rfl (C0.dec at_39) rfl k) ?_
      refine Endw.st (T' := T0) (g' := (mkF m 42 #[.val (.int i0), .val (.int i1), .val (.int i2), .val (.int i3), .val (.int i4), .val (.int ((i0 &&& (2147483647 : Int32)) % (5 : Int32))), .unset, .unset, .unset, .unset, .unset] [(.int (2 : Int32)), (.int ((i0 &&& (2147483647 : Int32)) % (5 : Int32)))])) (fun t k => XS.iconst C0.here C0.hx rfl (C0.dec at_41) k) ?_
      by_cases c53 : ((i0 &&& (2147483647 : Int32)) % (5 : Int32)) = (2 : Int32)
      · refine Endw.st (T' := T0) (g' := (mkF m 45 #[.val (.int i0), .val (.int i1), .val (.int i2), .val (.int i3), .val (.int i4), .val (.int ((i0 &&& (2147483647 : Int32)) % (5 : Int32))), .unset, .unset, .unset, .unset, .unset] [])) (fun t k => XS.icmpNo C0.here C0.hx rfl (C0.dec at_42) rfl (XT.ii_ne_f c53) k) ?_
        refine Endw.st (T' := T0) (g' := (mkF m 47 #[.val (.int i0), .val (.int i1), .val (.int i2), .val (.int i3), .val (.int i4), .val (.int ((i0 &&& (2147483647 : Int32)) % (5 : Int32))), .unset, .unset, .unset, .unset, .unset] [(.int (101 : Int32))])) (fun t k => XS.bipush C0.here C0.hx rfl (C0.dec at_45) k) ?_
        refine Endw.st (T' := T0) (g' := (mkF m 49 #[.val (.int i0), .val (.int i1), .val (.int i2), .val (.int i3), .val (.int i4), .val (.int ((i0 &&& (2147483647 : Int32)) % (5 : Int32))), .val (.int (101 : Int32)), .unset, .unset, .unset, .unset] [])) (fun t k => XS.istore C0.here C0.hx rfl (C0.dec at_47) rfl (l' := #[.val (.int i0), .val (.int i1), .val (.int i2), .val (.int i3), .val (.int i4), .val (.int ((i0 &&& (2147483647 : Int32)) % (5 : Int32))), .val (.int (101 : Int32)), .unset, .unset, .unset, .unset]) rfl k) ?_
        refine Endw.st (T' := T0) (g' := (mkF m 50 #[.val (.int i0), .val (.int i1), .val (.int i2), .val (.int i3), .val (.int i4), .val (.int ((i0 &&& (2147483647 : Int32)) % (5 : Int32))), .val (.int (101 : Int32)), .unset, .unset, .unset, .unset] [(.int (1 : Int32))])) (fun t k => XS.iconst C0.here C0.hx rfl (C0.dec at_49) k) ?_
        refine Endw.st (T' := T0) (g' := (mkF m 52 #[.val (.int i0), .val (.int i1), .val (.int i2), .val (.int i3), .val (.int i4), .val (.int ((i0 &&& (2147483647 : Int32)) % (5 : Int32))), .val (.int (101 : Int32)), .val (.int (1 : Int32)), .unset, .unset, .unset] [])) (fun t k => XS.istore C0.here C0.hx rfl (C0.dec at_50) rfl (l' := #[.val (.int i0), .val (.int i1), .val (.int i2), .val (.int i3), .val (.int i4), .val (.int ((i0 &&& (2147483647 : Int32)) % (5 : Int32))), .val (.int (101 : Int32)), .val (.int (1 : Int32)), .unset, .unset, .unset]) rfl k) ?_
        refine Endw.st (T' := T0) (g' := (mkF m 78 #[.val (.int i0), .val (.int i1), .val (.int i2), .val (.int i3), .val (.int i4), .val (.int ((i0 &&& (2147483647 : Int32)) % (5 : Int32))), .val (.int (101 : Int32)), .val (.int (1 : Int32)), .unset, .unset, .unset] [])) (fun t k => XS.goto C0.here C0.hx rfl (pc0 := 52) rfl (C0.dec at_52) (by decide) rfl k) ?_
        refine Endw.st (T' := T0) (g' := (mkF m 79 #[.val (.int i0), .val (.int i1), .val (.int i2), .val (.int i3), .val (.int i4), .val (.int ((i0 &&& (2147483647 : Int32)) % (5 : Int32))), .val (.int (101 : Int32)), .val (.int (1 : Int32)), .unset, .unset, .unset] [(.int (1 : Int32))])) (fun t k => XS.iconst C0.here C0.hx rfl (C0.dec at_78) k) ?_
        refine C0.newA (aty := .char) (z := (1 : Int32)) (cap := 1) (vs := [(.int 0)]) (W1 hw) at_79 (pc' := 81) rfl (by decide) (by decide) (by decide) (by decide) (by decide) rfl ?_
        intro T54 h54 a54 kA54 C54 K54 A54 ge54 zg54 V54 S54
        show Endw p e below T54 (mkF m 81 #[.val (.int i0), .val (.int i1), .val (.int i2), .val (.int i3), .val (.int i4), .val (.int ((i0 &&& (2147483647 : Int32)) % (5 : Int32))), .val (.int (101 : Int32)), .val (.int (1 : Int32)), .unset, .unset, .unset] [(.ref a54)]) _
        refine Endw.st (T' := T54) (g' := (mkF m 83 #[.val (.int i0), .val (.int i1), .val (.int i2), .val (.int i3), .val (.int i4), .val (.int ((i0 &&& (2147483647 : Int32)) % (5 : Int32))), .val (.int (101 : Int32)), .val (.int (1 : Int32)), .val (.ref a54), .unset, .unset] [])) (fun t k => XS.astore C54.here C54.hx rfl (C54.dec at_81) rfl rfl (l' := #[.val (.int i0), .val (.int i1), .val (.int i2), .val (.int i3), .val (.int i4), .val (.int ((i0 &&& (2147483647 : Int32)) % (5 : Int32))), .val (.int (101 : Int32)), .val (.int (1 : Int32)), .val (.ref a54), .unset, .unset]) rfl k) ?_
        refine Endw.st (T' := T54) (g' := (mkF m 85 #[.val (.int i0), .val (.int i1), .val (.int i2), .val (.int i3), .val (.int i4), .val (.int ((i0 &&& (2147483647 : Int32)) % (5 : Int32))), .val (.int (101 : Int32)), .val (.int (1 : Int32)), .val (.ref a54), .unset, .unset] [(.ref a54)])) (fun t k => XS.aload C54.here C54.hx rfl (C54.dec at_83) rfl rfl k) ?_
        refine Endw.st (T' := T54) (g' := (mkF m 86 #[.val (.int i0), .val (.int i1), .val (.int i2), .val (.int i3), .val (.int i4), .val (.int ((i0 &&& (2147483647 : Int32)) % (5 : Int32))), .val (.int (101 : Int32)), .val (.int (1 : Int32)), .val (.ref a54), .unset, .unset] [(.int (0 : Int32)), (.ref a54)])) (fun t k => XS.iconst C54.here C54.hx rfl (C54.dec at_85) k) ?_
        refine Endw.st (T' := T54) (g' := (mkF m 88 #[.val (.int i0), .val (.int i1), .val (.int i2), .val (.int i3), .val (.int i4), .val (.int ((i0 &&& (2147483647 : Int32)) % (5 : Int32))), .val (.int (101 : Int32)), .val (.int (1 : Int32)), .val (.ref a54), .unset, .unset] [(.int i4), (.int (0 : Int32)), (.ref a54)])) (fun t k => XS.iload C54.here C54.hx rfl (C54.dec at_86) rfl k) ?_
        refine Endw.st (T' := T54) (g' := (mkF m 91 #[.val (.int i0), .val (.int i1), .val (.int i2), .val (.int i3), .val (.int i4), .val (.int ((i0 &&& (2147483647 : Int32)) % (5 : Int32))), .val (.int (101 : Int32)), .val (.int (1 : Int32)), .val (.ref a54), .unset, .unset] [(.int (255 : Int32)), (.int i4), (.int (0 : Int32)), (.ref a54)])) (fun t k => XS.sipush C54.here C54.hx rfl (C54.dec at_88) k) ?_
        refine Endw.st (T' := T54) (g' := (mkF m 92 #[.val (.int i0), .val (.int i1), .val (.int i2), .val (.int i3), .val (.int i4), .val (.int ((i0 &&& (2147483647 : Int32)) % (5 : Int32))), .val (.int (101 : Int32)), .val (.int (1 : Int32)), .val (.ref a54), .unset, .unset] [(.int (i4 &&& (255 : Int32))), (.int (0 : Int32)), (.ref a54)])) (fun t k => XS.iand C54.here C54.hx rfl (C54.dec at_91) rfl k) ?_
        refine Endw.st (T' := T54) (g' := (mkF m 93 #[.val (.int i0), .val (.int i1), .val (.int i2), .val (.int i3), .val (.int i4), .val (.int ((i0 &&& (2147483647 : Int32)) % (5 : Int32))), .val (.int (101 : Int32)), .val (.int (1 : Int32)), .val (.ref a54), .unset, .unset] [(.int ((i4 &&& (255 : Int32)).toUInt32.toUInt16.toUInt32.toInt32)), (.int (0 : Int32)), (.ref a54)])) (fun t k => XS.i2c C54.here C54.hx rfl (C54.dec at_92) rfl k) ?_
        rw [show (i4 &&& (255 : Int32)).toUInt32.toUInt16.toUInt32.toInt32 = (i4 &&& (255 : Int32)) from i2c_mask _]
        refine C54.castore V54 ⟨by decide, by decide⟩ 0 (by decide) (Nat.le_of_ble_eq_true rfl) (x' := (i4 &&& (255 : Int32))) (i2c_mask _) zg54 at_93 (pc' := 94) rfl ?_
        intro T55 h55 C55 K55 A55 V55
        show Endw p e below T55 (mkF m 94 #[.val (.int i0), .val (.int i1), .val (.int i2), .val (.int i3), .val (.int i4), .val (.int ((i0 &&& (2147483647 : Int32)) % (5 : Int32))), .val (.int (101 : Int32)), .val (.int (1 : Int32)), .val (.ref a54), .unset, .unset] []) _
        refine Endw.st (T' := T55) (g' := (mkF m 96 #[.val (.int i0), .val (.int i1), .val (.int i2), .val (.int i3), .val (.int i4), .val (.int ((i0 &&& (2147483647 : Int32)) % (5 : Int32))), .val (.int (101 : Int32)), .val (.int (1 : Int32)), .val (.ref a54), .unset, .unset] [(.int i4)])) (fun t k => XS.iload C55.here C55.hx rfl (C55.dec at_94) rfl k) ?_
        refine Endw.st (T' := T55) (g' := (mkF m 98 #[.val (.int i0), .val (.int i1), .val (.int i2), .val (.int i3), .val (.int i4), .val (.int ((i0 &&& (2147483647 : Int32)) % (5 : Int32))), .val (.int (101 : Int32)), .val (.int (1 : Int32)), .val (.ref a54), .unset, .unset] [(.int (8 : Int32)), (.int i4)])) (fun t k => XS.bipush C55.here C55.hx rfl (C55.dec at_96) k) ?_
        refine Endw.st (T' := T55) (g' := (mkF m 99 #[.val (.int i0), .val (.int i1), .val (.int i2), .val (.int i3), .val (.int i4), .val (.int ((i0 &&& (2147483647 : Int32)) % (5 : Int32))), .val (.int (101 : Int32)), .val (.int (1 : Int32)), .val (.ref a54), .unset, .unset] [(.int ((i4.toUInt32 >>> ((8 : Int32) &&& 31).toUInt32).toInt32))])) (fun t k => XS.iushr C55.here C55.hx rfl (C55.dec at_98) rfl k) ?_
        refine Endw.st (T' := T55) (g' := (mkF m 100 #[.val (.int i0), .val (.int i1), .val (.int i2), .val (.int i3), .val (.int i4), .val (.int ((i0 &&& (2147483647 : Int32)) % (5 : Int32))), .val (.int (101 : Int32)), .val (.int (1 : Int32)), .val (.ref a54), .unset, .unset] [(.int (1 : Int32)), (.int ((i4.toUInt32 >>> ((8 : Int32) &&& 31).toUInt32).toInt32))])) (fun t k => XS.iconst C55.here C55.hx rfl (C55.dec at_99) k) ?_
        refine Endw.st (T' := T55) (g' := (mkF m 101 #[.val (.int i0), .val (.int i1), .val (.int i2), .val (.int i3), .val (.int i4), .val (.int ((i0 &&& (2147483647 : Int32)) % (5 : Int32))), .val (.int (101 : Int32)), .val (.int (1 : Int32)), .val (.ref a54), .unset, .unset] [(.int (((i4.toUInt32 >>> ((8 : Int32) &&& 31).toUInt32).toInt32) &&& (1 : Int32)))])) (fun t k => XS.iand C55.here C55.hx rfl (C55.dec at_100) rfl k) ?_
        by_cases c56 : (((i4.toUInt32 >>> ((8 : Int32) &&& 31).toUInt32).toInt32) &&& (1 : Int32)) = (0 : Int32)
        · refine Endw.st (T' := T55) (g' := (mkF m 116 #[.val (.int i0), .val (.int i1), .val (.int i2), .val (.int i3), .val (.int i4), .val (.int ((i0 &&& (2147483647 : Int32)) % (5 : Int32))), .val (.int (101 : Int32)), .val (.int (1 : Int32)), .val (.ref a54), .unset, .unset] [])) (fun t k => XS.ifYes C55.here C55.hx rfl (pc0 := 101) rfl (C55.dec at_101) rfl (XT.i0_eq_t c56) (by decide) rfl k) ?_
          refine C55.ldcO (N := 0) (W2 hw) G.wS (by decide) (by decide) (by decide) (by decide) at_116 (pc' := 118) rfl rfl ?_
          intro vm57 T57 h57 a57 C57 K57 A57
          show Endw p e below T57 (mkF m 118 #[.val (.int i0), .val (.int i1), .val (.int i2), .val (.int i3), .val (.int i4), .val (.int ((i0 &&& (2147483647 : Int32)) % (5 : Int32))), .val (.int (101 : Int32)), .val (.int (1 : Int32)), .val (.ref a54), .unset, .unset] [(.ref a57)]) _
          refine Endw.st (T' := T57) (g' := (mkF m 120 #[.val (.int i0), .val (.int i1), .val (.int i2), .val (.int i3), .val (.int i4), .val (.int ((i0 &&& (2147483647 : Int32)) % (5 : Int32))), .val (.int (101 : Int32)), .val (.int (1 : Int32)), .val (.ref a54), .val (.ref a57), .unset] [])) (fun t k => XS.astore C57.here C57.hx rfl (C57.dec at_118) rfl rfl (l' := #[.val (.int i0), .val (.int i1), .val (.int i2), .val (.int i3), .val (.int i4), .val (.int ((i0 &&& (2147483647 : Int32)) % (5 : Int32))), .val (.int (101 : Int32)), .val (.int (1 : Int32)), .val (.ref a54), .val (.ref a57), .unset]) rfl k) ?_
          refine C57.new (W10 hw) (W11 hw) (W12 hw) at_120 (pc' := 123) rfl (by decide) (by decide) ?_
          intro T58 h58 a58 C58 K58 A58 ge58 zg58 E58 D58 S58
          show Endw p e below T58 (mkF m 123 #[.val (.int i0), .val (.int i1), .val (.int i2), .val (.int i3), .val (.int i4), .val (.int ((i0 &&& (2147483647 : Int32)) % (5 : Int32))), .val (.int (101 : Int32)), .val (.int (1 : Int32)), .val (.ref a54), .val (.ref a57), .unset] [(.ref a58)]) _
          refine Endw.st (T' := T58) (g' := (mkF m 124 #[.val (.int i0), .val (.int i1), .val (.int i2), .val (.int i3), .val (.int i4), .val (.int ((i0 &&& (2147483647 : Int32)) % (5 : Int32))), .val (.int (101 : Int32)), .val (.int (1 : Int32)), .val (.ref a54), .val (.ref a57), .unset] [(.ref a58), (.ref a58)])) (fun t k => XS.dup C58.here C58.hx rfl (C58.dec at_123) rfl rfl k) ?_
          refine Endw.st (T' := T58) (g' := (mkF m 126 #[.val (.int i0), .val (.int i1), .val (.int i2), .val (.int i3), .val (.int i4), .val (.int ((i0 &&& (2147483647 : Int32)) % (5 : Int32))), .val (.int (101 : Int32)), .val (.int (1 : Int32)), .val (.ref a54), .val (.ref a57), .unset] [(.ref a57), (.ref a58), (.ref a58)])) (fun t k => XS.aload C58.here C58.hx rfl (C58.dec at_124) rfl rfl k) ?_
          refine Endw.st (T' := T58) (g' := (mkF m 127 #[.val (.int i0), .val (.int i1), .val (.int i2), .val (.int i3), .val (.int i4), .val (.int ((i0 &&& (2147483647 : Int32)) % (5 : Int32))), .val (.int (101 : Int32)), .val (.int (1 : Int32)), .val (.ref a54), .val (.ref a57), .unset] [(.int i1), (.ref a57), (.ref a58), (.ref a58)])) (fun t k => XS.iloadN C58.here C58.hx rfl (C58.dec at_126) rfl k) ?_
          refine Endw.st (T' := T58) (g' := (mkF m 128 #[.val (.int i0), .val (.int i1), .val (.int i2), .val (.int i3), .val (.int i4), .val (.int ((i0 &&& (2147483647 : Int32)) % (5 : Int32))), .val (.int (101 : Int32)), .val (.int (1 : Int32)), .val (.ref a54), .val (.ref a57), .unset] [(.int i2), (.int i1), (.ref a57), (.ref a58), (.ref a58)])) (fun t k => XS.iloadN C58.here C58.hx rfl (C58.dec at_127) rfl k) ?_
          refine Endw.st (T' := T58) (g' := (mkF m 130 #[.val (.int i0), .val (.int i1), .val (.int i2), .val (.int i3), .val (.int i4), .val (.int ((i0 &&& (2147483647 : Int32)) % (5 : Int32))), .val (.int (101 : Int32)), .val (.int (1 : Int32)), .val (.ref a54), .val (.ref a57), .unset] [(.int (101 : Int32)), (.int i2), (.int i1), (.ref a57), (.ref a58), (.ref a58)])) (fun t k => XS.iload C58.here C58.hx rfl (C58.dec at_128) rfl k) ?_
          refine Endw.st (T' := T58) (g' := (mkF m 131 #[.val (.int i0), .val (.int i1), .val (.int i2), .val (.int i3), .val (.int i4), .val (.int ((i0 &&& (2147483647 : Int32)) % (5 : Int32))), .val (.int (101 : Int32)), .val (.int (1 : Int32)), .val (.ref a54), .val (.ref a57), .unset] [(.int i3), (.int (101 : Int32)), (.int i2), (.int i1), (.ref a57), (.ref a58), (.ref a58)])) (fun t k => XS.iloadN C58.here C58.hx rfl (C58.dec at_130) rfl k) ?_
          have f59 : Fld Z h58 a58 "com/example/tessera/tessera/Printf$Directive" "flags" "Ljava/lang/String;" .null := D58 (Or.inr (W25 hw)) (ty := (.object "java/lang/String")) (by decide)
          have f60 : Fld Z h58 a58 "com/example/tessera/tessera/Printf$Directive" "width" "I" (.int (0 : Int32)) := D58 (Or.inr (W27 hw)) (ty := .int) (by decide)
          have f61 : Fld Z h58 a58 "com/example/tessera/tessera/Printf$Directive" "precision" "I" (.int (0 : Int32)) := D58 (Or.inr (W29 hw)) (ty := .int) (by decide)
          have f62 : Fld Z h58 a58 "com/example/tessera/tessera/Printf$Directive" "conversion" "C" (.int (0 : Int32)) := D58 (Or.inr (W31 hw)) (ty := .char) (by decide)
          have f63 : Fld Z h58 a58 "com/example/tessera/tessera/Printf$Directive" "end" "I" (.int (0 : Int32)) := D58 (Or.inr (W33 hw)) (ty := .int) (by decide)
          refine C58.special (y := (⟨"com/example/tessera/tessera/Printf$Directive", "<init>", "(Ljava/lang/String;IICI)V"⟩ : MethodName)) (W := 1) (a := a58) (argsL := [(.ref a57), (.int i1), (.int i2), (.int (101 : Int32)), (.int i3)]) (rest := [(.ref a58)]) rfl (W13 hw) (W14 hw) (W15 hw) (W12 hw) (by decide) (rm_Dir l Z a0 EL G a58 (.ref a57) rfl i1 i2 (101 : Int32) rfl rfl i3 h58 C58.old E58 f59 f60 f61 f62 f63 zg58) rfl all0 (by decide) (by decide) (by decide) (by decide) (lenOf pd_3 rfl) rfl (Nat.le_of_ble_eq_true rfl) rfl at_131 (pc' := 134) rfl ?_
          intro vm64 T64 h64 v64 C64 A64 q64
          obtain ⟨rfl, K64, E64, F64_0, F64_1, F64_2, F64_3, F64_4⟩ := q64
          show Endw p e below T64 (mkF m 134 #[.val (.int i0), .val (.int i1), .val (.int i2), .val (.int i3), .val (.int i4), .val (.int ((i0 &&& (2147483647 : Int32)) % (5 : Int32))), .val (.int (101 : Int32)), .val (.int (1 : Int32)), .val (.ref a54), .val (.ref a57), .unset] [(.ref a58)]) _
          refine Endw.st (T' := T64) (g' := (mkF m 136 #[.val (.int i0), .val (.int i1), .val (.int i2), .val (.int i3), .val (.int i4), .val (.int ((i0 &&& (2147483647 : Int32)) % (5 : Int32))), .val (.int (101 : Int32)), .val (.int (1 : Int32)), .val (.ref a54), .val (.ref a57), .val (.ref a58)] [])) (fun t k => XS.astore C64.here C64.hx rfl (C64.dec at_134) rfl rfl (l' := #[.val (.int i0), .val (.int i1), .val (.int i2), .val (.int i3), .val (.int i4), .val (.int ((i0 &&& (2147483647 : Int32)) % (5 : Int32))), .val (.int (101 : Int32)), .val (.int (1 : Int32)), .val (.ref a54), .val (.ref a57), .val (.ref a58)]) rfl k) ?_
          refine Endw.st (T' := T64) (g' := (mkF m 138 #[.val (.int i0), .val (.int i1), .val (.int i2), .val (.int i3), .val (.int i4), .val (.int ((i0 &&& (2147483647 : Int32)) % (5 : Int32))), .val (.int (101 : Int32)), .val (.int (1 : Int32)), .val (.ref a54), .val (.ref a57), .val (.ref a58)] [(.ref a58)])) (fun t k => XS.aload C64.here C64.hx rfl (C64.dec at_136) rfl rfl k) ?_
          refine C64.virtual (y := (⟨"com/example/tessera/tessera/Printf$Directive", "numeric", "()Z"⟩ : MethodName)) (z := (⟨"com/example/tessera/tessera/Printf$Directive", "numeric", "()Z"⟩ : MethodName)) (W := 0) (a := a58) (argsL := []) (rest := []) (W34 hw) (W35 hw) (fun _ q => notFace_of_selects (args := #[]) (mvT q (W37 hw))) (W37 hw) (W36 hw) (W38 hw) (W12 hw) (by decide) (rm_Num l Z a0 EL G a58 (101 : Int32) h64 C64.old F64_3) rfl E64 all0 (by decide) (by decide) (by decide) (by decide) (lenOf pd_28295a rfl) rfl (Nat.le_of_ble_eq_true rfl) rfl at_138 (pc' := 141) rfl ?_
          intro vm65 T65 h65 v65 C65 A65 q65
          obtain ⟨z65, rfl, q65, rfl⟩ := q65
          obtain rfl : z65 = 1 := q65.elim (fun q => absurd q.1 (by decide)) (fun q => q.2)
          show Endw p e below T65 (mkF m 141 #[.val (.int i0), .val (.int i1), .val (.int i2), .val (.int i3), .val (.int i4), .val (.int ((i0 &&& (2147483647 : Int32)) % (5 : Int32))), .val (.int (101 : Int32)), .val (.int (1 : Int32)), .val (.ref a54), .val (.ref a57), .val (.ref a58)] [(.int (1 : Int32))]) _
          refine Endw.st (T' := T65) (g' := (mkF m 143 #[.val (.int i0), .val (.int i1), .val (.int i2), .val (.int i3), .val (.int i4), .val (.int ((i0 &&& (2147483647 : Int32)) % (5 : Int32))), .val (.int (101 : Int32)), .val (.int (1 : Int32)), .val (.ref a54), .val (.ref a57), .val (.ref a58)] [(.int (1 : Int32)), (.int (1 : Int32))])) (fun t k => XS.iload C65.here C65.hx rfl (C65.dec at_141) rfl k) ?_
          refine Endw.st (T' := T65) (g' := (mkF m 146 #[.val (.int i0), .val (.int i1), .val (.int i2), .val (.int i3), .val (.int i4), .val (.int ((i0 &&& (2147483647 : Int32)) % (5 : Int32))), .val (.int (101 : Int32)), .val (.int (1 : Int32)), .val (.ref a54), .val (.ref a57), .val (.ref a58)] [])) (fun t k => XS.icmpNo C65.here C65.hx rfl (C65.dec at_143) rfl (XT.ii_ne_f (by decide)) k) ?_
          refine Endw.st (T' := T65) (g' := (mkF m 147 #[.val (.int i0), .val (.int i1), .val (.int i2), .val (.int i3), .val (.int i4), .val (.int ((i0 &&& (2147483647 : Int32)) % (5 : Int32))), .val (.int (101 : Int32)), .val (.int (1 : Int32)), .val (.ref a54), .val (.ref a57), .val (.ref a58)] [(.int (1 : Int32))])) (fun t k => XS.iconst C65.here C65.hx rfl (C65.dec at_146) k) ?_
          refine Endw.st (T' := T65) (g' := (mkF m 151 #[.val (.int i0), .val (.int i1), .val (.int i2), .val (.int i3), .val (.int i4), .val (.int ((i0 &&& (2147483647 : Int32)) % (5 : Int32))), .val (.int (101 : Int32)), .val (.int (1 : Int32)), .val (.ref a54), .val (.ref a57), .val (.ref a58)] [(.int (1 : Int32))])) (fun t k => XS.goto C65.here C65.hx rfl (pc0 := 147) rfl (C65.dec at_147) (by decide) rfl k) ?_
          exact C65.retI (t := .boolean) rfl (by simp) rfl at_151 (by decide) (by decide) rfl
        · refine Endw.st (T' := T55) (g' := (mkF m 104 #[.val (.int i0), .val (.int i1), .val (.int i2), .val (.int i3), .val (.int i4), .val (.int ((i0 &&& (2147483647 : Int32)) % (5 : Int32))), .val (.int (101 : Int32)), .val (.int (1 : Int32)), .val (.ref a54), .unset, .unset] [])) (fun t k => XS.ifNo C55.here C55.hx rfl (C55.dec at_101) rfl (XT.i0_eq_f c56) k) ?_
          refine C55.new (W39 hw) (W4 hw) (W3 hw) at_104 (pc' := 107) rfl (by decide) (by decide) ?_
          intro T66 h66 a66 C66 K66 A66 ge66 zg66 E66 D66 S66
          show Endw p e below T66 (mkF m 107 #[.val (.int i0), .val (.int i1), .val (.int i2), .val (.int i3), .val (.int i4), .val (.int ((i0 &&& (2147483647 : Int32)) % (5 : Int32))), .val (.int (101 : Int32)), .val (.int (1 : Int32)), .val (.ref a54), .unset, .unset] [(.ref a66)]) _
          refine Endw.st (T' := T66) (g' := (mkF m 108 #[.val (.int i0), .val (.int i1), .val (.int i2), .val (.int i3), .val (.int i4), .val (.int ((i0 &&& (2147483647 : Int32)) % (5 : Int32))), .val (.int (101 : Int32)), .val (.int (1 : Int32)), .val (.ref a54), .unset, .unset] [(.ref a66), (.ref a66)])) (fun t k => XS.dup C66.here C66.hx rfl (C66.dec at_107) rfl rfl k) ?_
          refine Endw.st (T' := T66) (g' := (mkF m 110 #[.val (.int i0), .val (.int i1), .val (.int i2), .val (.int i3), .val (.int i4), .val (.int ((i0 &&& (2147483647 : Int32)) % (5 : Int32))), .val (.int (101 : Int32)), .val (.int (1 : Int32)), .val (.ref a54), .unset, .unset] [(.ref a54), (.ref a66), (.ref a66)])) (fun t k => XS.aload C66.here C66.hx rfl (C66.dec at_108) rfl rfl k) ?_
          have f67 := (V55.keep K66 nin0)
          have f68 : Fld Z h66 a66 "java/lang/String" "value" "[B" .null := D66 (Or.inr (W6 hw)) (ty := (.array .byte)) (by decide)
          have f69 : Fld Z h66 a66 "java/lang/String" "coder" "B" (.int (0 : Int32)) := D66 (Or.inr (W7 hw)) (ty := .byte) (by decide)
          have hp70 : ∀ c ∈ [(i4 &&& (255 : Int32))], B8 c := (own_cS (own_mask255 _) own_c0)
          refine C66.specialF (y := (⟨"java/lang/String", "<init>", "([C)V"⟩ : MethodName)) (ws := [a66]) (W := 1) (a := a66) (argsL := [.ref a54]) (rest := [(.ref a66)]) (ck := 1) (cn := 1) rfl (W40 hw) (W41 hw) (W42 hw) (by decide) (StrChars.Road.backV (W := 1) (n := 1) (n0 := Z.heap.size) (cs := [(i4 &&& (255 : Int32))]) (bs := [(i4 &&& (255 : Int32)).toInt8.toInt32]) C66.warm G.w_backV (kI := 4) (W4 hw) zg66 C66.le E66 f68 f69 f67 (Sc.ext C66.old) hzc rfl rfl (by decide) (by decide) hp70 rfl (by decide) (by decide)) (fun _ _ _ q => ⟨q.2.1, q.2.2.1⟩) (allS zg66 all0) (sfS S66 sf0) rfl (by decide) (by decide) (lenOf pd_285b432956 rfl) rfl (Nat.le_of_ble_eq_true rfl) rfl at_110 (pc' := 113) rfl ?_
          intro T70 h70 v70 C70 K70 A70 q70
          obtain ⟨_, rfl, -, -, E70, F70, t70, kb70, zg70, ge70, nt70, f70, V70⟩ := q70
          have Z70 : Str Z h70 a66 t70 kb70 [(i4 &&& (255 : Int32))] := ⟨E70, F70, f70, V70, hp70, Nat.le_of_ble_eq_true rfl⟩
          show Endw p e below T70 (mkF m 113 #[.val (.int i0), .val (.int i1), .val (.int i2), .val (.int i3), .val (.int i4), .val (.int ((i0 &&& (2147483647 : Int32)) % (5 : Int32))), .val (.int (101 : Int32)), .val (.int (1 : Int32)), .val (.ref a54), .unset, .unset] [(.ref a66)]) _
          refine Endw.st (T' := T70) (g' := (mkF m 118 #[.val (.int i0), .val (.int i1), .val (.int i2), .val (.int i3), .val (.int i4), .val (.int ((i0 &&& (2147483647 : Int32)) % (5 : Int32))), .val (.int (101 : Int32)), .val (.int (1 : Int32)), .val (.ref a54), .unset, .unset] [(.ref a66)])) (fun t k => XS.goto C70.here C70.hx rfl (pc0 := 113) rfl (C70.dec at_113) (by decide) rfl k) ?_
          refine Endw.st (T' := T70) (g' := (mkF m 120 #[.val (.int i0), .val (.int i1), .val (.int i2), .val (.int i3), .val (.int i4), .val (.int ((i0 &&& (2147483647 : Int32)) % (5 : Int32))), .val (.int (101 : Int32)), .val (.int (1 : Int32)), .val (.ref a54), .val (.ref a66), .unset] [])) (fun t k => XS.astore C70.here C70.hx rfl (C70.dec at_118) rfl rfl (l' := #[.val (.int i0), .val (.int i1), .val (.int i2), .val (.int i3), .val (.int i4), .val (.int ((i0 &&& (2147483647 : Int32)) % (5 : Int32))), .val (.int (101 : Int32)), .val (.int (1 : Int32)), .val (.ref a54), .val (.ref a66), .unset]) rfl k) ?_
          refine C70.new (W10 hw) (W11 hw) (W12 hw) at_120 (pc' := 123) rfl (by decide) (by decide) ?_
          intro T71 h71 a71 C71 K71 A71 ge71 zg71 E71 D71 S71
          show Endw p e below T71 (mkF m 123 #[.val (.int i0), .val (.int i1), .val (.int i2), .val (.int i3), .val (.int i4), .val (.int ((i0 &&& (2147483647 : Int32)) % (5 : Int32))), .val (.int (101 : Int32)), .val (.int (1 : Int32)), .val (.ref a54), .val (.ref a66), .unset] [(.ref a71)]) _
          refine Endw.st (T' := T71) (g' := (mkF m 124 #[.val (.int i0), .val (.int i1), .val (.int i2), .val (.int i3), .val (.int i4), .val (.int ((i0 &&& (2147483647 : Int32)) % (5 : Int32))), .val (.int (101 : Int32)), .val (.int (1 : Int32)), .val (.ref a54), .val (.ref a66), .unset] [(.ref a71), (.ref a71)])) (fun t k => XS.dup C71.here C71.hx rfl (C71.dec at_123) rfl rfl k) ?_
          refine Endw.st (T' := T71) (g' := (mkF m 126 #[.val (.int i0), .val (.int i1), .val (.int i2), .val (.int i3), .val (.int i4), .val (.int ((i0 &&& (2147483647 : Int32)) % (5 : Int32))), .val (.int (101 : Int32)), .val (.int (1 : Int32)), .val (.ref a54), .val (.ref a66), .unset] [(.ref a66), (.ref a71), (.ref a71)])) (fun t k => XS.aload C71.here C71.hx rfl (C71.dec at_124) rfl rfl k) ?_
          refine Endw.st (T' := T71) (g' := (mkF m 127 #[.val (.int i0), .val (.int i1), .val (.int i2), .val (.int i3), .val (.int i4), .val (.int ((i0 &&& (2147483647 : Int32)) % (5 : Int32))), .val (.int (101 : Int32)), .val (.int (1 : Int32)), .val (.ref a54), .val (.ref a66), .unset] [(.int i1), (.ref a66), (.ref a71), (.ref a71)])) (fun t k => XS.iloadN C71.here C71.hx rfl (C71.dec at_126) rfl k) ?_
          refine Endw.st (T' := T71) (g' := (mkF m 128 #[.val (.int i0), .val (.int i1), .val (.int i2), .val (.int i3), .val (.int i4), .val (.int ((i0 &&& (2147483647 : Int32)) % (5 : Int32))), .val (.int (101 : Int32)), .val (.int (1 : Int32)), .val (.ref a54), .val (.ref a66), .unset] [(.int i2), (.int i1), (.ref a66), (.ref a71), (.ref a71)])) (fun t k => XS.iloadN C71.here C71.hx rfl (C71.dec at_127) rfl k) ?_
          refine Endw.st (T' := T71) (g' := (mkF m 130 #[.val (.int i0), .val (.int i1), .val (.int i2), .val (.int i3), .val (.int i4), .val (.int ((i0 &&& (2147483647 : Int32)) % (5 : Int32))), .val (.int (101 : Int32)), .val (.int (1 : Int32)), .val (.ref a54), .val (.ref a66), .unset] [(.int (101 : Int32)), (.int i2), (.int i1), (.ref a66), (.ref a71), (.ref a71)])) (fun t k => XS.iload C71.here C71.hx rfl (C71.dec at_128) rfl k) ?_
          refine Endw.st (T' := T71) (g' := (mkF m 131 #[.val (.int i0), .val (.int i1), .val (.int i2), .val (.int i3), .val (.int i4), .val (.int ((i0 &&& (2147483647 : Int32)) % (5 : Int32))), .val (.int (101 : Int32)), .val (.int (1 : Int32)), .val (.ref a54), .val (.ref a66), .unset] [(.int i3), (.int (101 : Int32)), (.int i2), (.int i1), (.ref a66), (.ref a71), (.ref a71)])) (fun t k => XS.iloadN C71.here C71.hx rfl (C71.dec at_130) rfl k) ?_
          have f72 : Fld Z h71 a71 "com/example/tessera/tessera/Printf$Directive" "flags" "Ljava/lang/String;" .null := D71 (Or.inr (W25 hw)) (ty := (.object "java/lang/String")) (by decide)
          have f73 : Fld Z h71 a71 "com/example/tessera/tessera/Printf$Directive" "width" "I" (.int (0 : Int32)) := D71 (Or.inr (W27 hw)) (ty := .int) (by decide)
          have f74 : Fld Z h71 a71 "com/example/tessera/tessera/Printf$Directive" "precision" "I" (.int (0 : Int32)) := D71 (Or.inr (W29 hw)) (ty := .int) (by decide)
          have f75 : Fld Z h71 a71 "com/example/tessera/tessera/Printf$Directive" "conversion" "C" (.int (0 : Int32)) := D71 (Or.inr (W31 hw)) (ty := .char) (by decide)
          have f76 : Fld Z h71 a71 "com/example/tessera/tessera/Printf$Directive" "end" "I" (.int (0 : Int32)) := D71 (Or.inr (W33 hw)) (ty := .int) (by decide)
          refine C71.special (y := (⟨"com/example/tessera/tessera/Printf$Directive", "<init>", "(Ljava/lang/String;IICI)V"⟩ : MethodName)) (W := 1) (a := a71) (argsL := [(.ref a66), (.int i1), (.int i2), (.int (101 : Int32)), (.int i3)]) (rest := [(.ref a71)]) rfl (W13 hw) (W14 hw) (W15 hw) (W12 hw) (by decide) (rm_Dir l Z a0 EL G a71 (.ref a66) rfl i1 i2 (101 : Int32) rfl rfl i3 h71 C71.old E71 f72 f73 f74 f75 f76 zg71) rfl all0 (by decide) (by decide) (by decide) (by decide) (lenOf pd_3 rfl) rfl (Nat.le_of_ble_eq_true rfl) rfl at_131 (pc' := 134) rfl ?_
          intro vm77 T77 h77 v77 C77 A77 q77
          obtain ⟨rfl, K77, E77, F77_0, F77_1, F77_2, F77_3, F77_4⟩ := q77
          show Endw p e below T77 (mkF m 134 #[.val (.int i0), .val (.int i1), .val (.int i2), .val (.int i3), .val (.int i4), .val (.int ((i0 &&& (2147483647 : Int32)) % (5 : Int32))), .val (.int (101 : Int32)), .val (.int (1 : Int32)), .val (.ref a54), .val (.ref a66), .unset] [(.ref a71)]) _
          refine Endw.st (T' := T77) (g' := (mkF m 136 #[.val (.int i0), .val (.int i1), .val (.int i2), .val (.int i3), .val (.int i4), .val (.int ((i0 &&& (2147483647 : Int32)) % (5 : Int32))), .val (.int (101 : Int32)), .val (.int (1 : Int32)), .val (.ref a54), .val (.ref a66), .val (.ref a71)] [])) (fun t k => XS.astore C77.here C77.hx rfl (C77.dec at_134) rfl rfl (l' := #[.val (.int i0), .val (.int i1), .val (.int i2), .val (.int i3), .val (.int i4), .val (.int ((i0 &&& (2147483647 : Int32)) % (5 : Int32))), .val (.int (101 : Int32)), .val (.int (1 : Int32)), .val (.ref a54), .val (.ref a66), .val (.ref a71)]) rfl k) ?_
          refine Endw.st (T' := T77) (g' := (mkF m 138 #[.val (.int i0), .val (.int i1), .val (.int i2), .val (.int i3), .val (.int i4), .val (.int ((i0 &&& (2147483647 : Int32)) % (5 : Int32))), .val (.int (101 : Int32)), .val (.int (1 : Int32)), .val (.ref a54), .val (.ref a66), .val (.ref a71)] [(.ref a71)])) (fun t k => XS.aload C77.here C77.hx rfl (C77.dec at_136) rfl rfl k) ?_
          refine C77.virtual (y := (⟨"com/example/tessera/tessera/Printf$Directive", "numeric", "()Z"⟩ : MethodName)) (z := (⟨"com/example/tessera/tessera/Printf$Directive", "numeric", "()Z"⟩ : MethodName)) (W := 0) (a := a71) (argsL := []) (rest := []) (W34 hw) (W35 hw) (fun _ q => notFace_of_selects (args := #[]) (mvT q (W37 hw))) (W37 hw) (W36 hw) (W38 hw) (W12 hw) (by decide) (rm_Num l Z a0 EL G a71 (101 : Int32) h77 C77.old F77_3) rfl E77 all0 (by decide) (by decide) (by decide) (by decide) (lenOf pd_28295a rfl) rfl (Nat.le_of_ble_eq_true rfl) rfl at_138 (pc' := 141) rfl ?_
          intro vm78 T78 h78 v78 C78 A78 q78
          obtain ⟨z78, rfl, q78, rfl⟩ := q78
          obtain rfl : z78 = 1 := q78.elim (fun q => absurd q.1 (by decide)) (fun q => q.2)
          show Endw p e below T78 (mkF m 141 #[.val (.int i0), .val (.int i1), .val (.int i2), .val (.int i3), .val (.int i4), .val (.int ((i0 &&& (2147483647 : Int32)) % (5 : Int32))), .val (.int (101 : Int32)), .val (.int (1 : Int32)), .val (.ref a54), .val (.ref a66), .val (.ref a71)] [(.int (1 : Int32))]) _
          refine Endw.st (T' := T78) (g' := (mkF m 143 #[.val (.int i0), .val (.int i1), .val (.int i2), .val (.int i3), .val (.int i4), .val (.int ((i0 &&& (2147483647 : Int32)) % (5 : Int32))), .val (.int (101 : Int32)), .val (.int (1 : Int32)), .val (.ref a54), .val (.ref a66), .val (.ref a71)] [(.int (1 : Int32)), (.int (1 : Int32))])) (fun t k => XS.iload C78.here C78.hx rfl (C78.dec at_141) rfl k) ?_
          refine Endw.st (T' := T78) (g' := (mkF m 146 #[.val (.int i0), .val (.int i1), .val (.int i2), .val (.int i3), .val (.int i4), .val (.int ((i0 &&& (2147483647 : Int32)) % (5 : Int32))), .val (.int (101 : Int32)), .val (.int (1 : Int32)), .val (.ref a54), .val (.ref a66), .val (.ref a71)] [])) (fun t k => XS.icmpNo C78.here C78.hx rfl (C78.dec at_143) rfl (XT.ii_ne_f (by decide)) k) ?_
          refine Endw.st (T' := T78) (g' := (mkF m 147 #[.val (.int i0), .val (.int i1), .val (.int i2), .val (.int i3), .val (.int i4), .val (.int ((i0 &&& (2147483647 : Int32)) % (5 : Int32))), .val (.int (101 : Int32)), .val (.int (1 : Int32)), .val (.ref a54), .val (.ref a66), .val (.ref a71)] [(.int (1 : Int32))])) (fun t k => XS.iconst C78.here C78.hx rfl (C78.dec at_146) k) ?_
          refine Endw.st (T' := T78) (g' := (mkF m 151 #[.val (.int i0), .val (.int i1), .val (.int i2), .val (.int i3), .val (.int i4), .val (.int ((i0 &&& (2147483647 : Int32)) % (5 : Int32))), .val (.int (101 : Int32)), .val (.int (1 : Int32)), .val (.ref a54), .val (.ref a66), .val (.ref a71)] [(.int (1 : Int32))])) (fun t k => XS.goto C78.here C78.hx rfl (pc0 := 147) rfl (C78.dec at_147) (by decide) rfl k) ?_
          exact C78.retI (t := .boolean) rfl (by simp) rfl at_151 (by decide) (by decide) rfl
      · refine Endw.st (T' := T0) (g' := (mkF m 55 #[.val (.int i0), .val (.int i1), .val (.int i2), .val (.int i3), .val (.int i4), .val (.int ((i0 &&& (2147483647 : Int32)) % (5 : Int32))), .unset, .unset, .unset, .unset, .unset] [])) (fun t k => XS.icmpYes C0.here C0.hx rfl (pc0 := 42) rfl (C0.dec at_42) rfl (XT.ii_ne_t c53) (by decide) rfl k) ?_
        refine Endw.st (T' := T0) (g' := (mkF m 57 #[.val (.int i0), .val (.int i1), .val (.int i2), .val (.int i3), .val (.int i4), .val (.int ((i0 &&& (2147483647 : Int32)) % (5 : Int32))), .unset, .unset, .unset, .unset, .unset] [(.int ((i0 &&& (2147483647 : Int32)) % (5 : Int32)))])) (fun t k => XS.iload C0.here C0.hx rfl (C0.dec at_55) rfl k) ?_
        refine Endw.st (T' := T0) (g' := (mkF m 58 #[.val (.int i0), .val (.int i1), .val (.int i2), .val (.int i3), .val (.int i4), .val (.int ((i0 &&& (2147483647 : Int32)) % (5 : Int32))), .unset, .unset, .unset, .unset, .unset] [(.int (3 : Int32)), (.int ((i0 &&& (2147483647 : Int32)) % (5 : Int32)))])) (fun t k => XS.iconst C0.here C0.hx rfl (C0.dec at_57) k) ?_
        by_cases c79 : ((i0 &&& (2147483647 : Int32)) % (5 : Int32)) = (3 : Int32)
        · refine Endw.st (T' := T0) (g' := (mkF m 61 #[.val (.int i0), .val (.int i1), .val (.int i2), .val (.int i3), .val (.int i4), .val (.int ((i0 &&& (2147483647 : Int32)) % (5 : Int32))), .unset, .unset, .unset, .unset, .unset] [])) (fun t k => XS.icmpNo C0.here C0.hx rfl (C0.dec at_58) rfl (XT.ii_ne_f c79) k) ?_
          refine Endw.st (T' := T0) (g' := (mkF m 63 #[.val (.int i0), .val (.int i1), .val (.int i2), .val (.int i3), .val (.int i4), .val (.int ((i0 &&& (2147483647 : Int32)) % (5 : Int32))), .unset, .unset, .unset, .unset, .unset] [(.int (103 : Int32))])) (fun t k => XS.bipush C0.here C0.hx rfl (C0.dec at_61) k) ?_
          refine Endw.st (T' := T0) (g' := (mkF m 65 #[.val (.int i0), .val (.int i1), .val (.int i2), .val (.int i3), .val (.int i4), .val (.int ((i0 &&& (2147483647 : Int32)) % (5 : Int32))), .val (.int (103 : Int32)), .unset, .unset, .unset, .unset] [])) (fun t k => XS.istore C0.here C0.hx rfl (C0.dec at_63) rfl (l' := #[.val (.int i0), .val (.int i1), .val (.int i2), .val (.int i3), .val (.int i4), .val (.int ((i0 &&& (2147483647 : Int32)) % (5 : Int32))), .val (.int (103 : Int32)), .unset, .unset, .unset, .unset]) rfl k) ?_
          refine Endw.st (T' := T0) (g' := (mkF m 66 #[.val (.int i0), .val (.int i1), .val (.int i2), .val (.int i3), .val (.int i4), .val (.int ((i0 &&& (2147483647 : Int32)) % (5 : Int32))), .val (.int (103 : Int32)), .unset, .unset, .unset, .unset] [(.int (1 : Int32))])) (fun t k => XS.iconst C0.here C0.hx rfl (C0.dec at_65) k) ?_
          refine Endw.st (T' := T0) (g' := (mkF m 68 #[.val (.int i0), .val (.int i1), .val (.int i2), .val (.int i3), .val (.int i4), .val (.int ((i0 &&& (2147483647 : Int32)) % (5 : Int32))), .val (.int (103 : Int32)), .val (.int (1 : Int32)), .unset, .unset, .unset] [])) (fun t k => XS.istore C0.here C0.hx rfl (C0.dec at_66) rfl (l' := #[.val (.int i0), .val (.int i1), .val (.int i2), .val (.int i3), .val (.int i4), .val (.int ((i0 &&& (2147483647 : Int32)) % (5 : Int32))), .val (.int (103 : Int32)), .val (.int (1 : Int32)), .unset, .unset, .unset]) rfl k) ?_
          refine Endw.st (T' := T0) (g' := (mkF m 78 #[.val (.int i0), .val (.int i1), .val (.int i2), .val (.int i3), .val (.int i4), .val (.int ((i0 &&& (2147483647 : Int32)) % (5 : Int32))), .val (.int (103 : Int32)), .val (.int (1 : Int32)), .unset, .unset, .unset] [])) (fun t k => XS.goto C0.here C0.hx rfl (pc0 := 68) rfl (C0.dec at_68) (by decide) rfl k) ?_
          refine Endw.st (T' := T0) (g' := (mkF m 79 #[.val (.int i0), .val (.int i1), .val (.int i2), .val (.int i3), .val (.int i4), .val (.int ((i0 &&& (2147483647 : Int32)) % (5 : Int32))), .val (.int (103 : Int32)), .val (.int (1 : Int32)), .unset, .unset, .unset] [(.int (1 : Int32))])) (fun t k => XS.iconst C0.here C0.hx rfl (C0.dec at_78) k) ?_
          refine C0.newA (aty := .char) (z := (1 : Int32)) (cap := 1) (vs := [(.int 0)]) (W1 hw) at_79 (pc' := 81) rfl (by decide) (by decide) (by decide) (by decide) (by decide) rfl ?_
          intro T80 h80 a80 kA80 C80 K80 A80 ge80 zg80 V80 S80
          show Endw p e below T80 (mkF m 81 #[.val (.int i0), .val (.int i1), .val (.int i2), .val (.int i3), .val (.int i4), .val (.int ((i0 &&& (2147483647 : Int32)) % (5 : Int32))), .val (.int (103 : Int32)), .val (.int (1 : Int32)), .unset, .unset, .unset] [(.ref a80)]) _
          refine Endw.st (T' := T80) (g' := (mkF m 83 #[.val (.int i0), .val (.int i1), .val (.int i2), .val (.int i3), .val (.int i4), .val (.int ((i0 &&& (2147483647 : Int32)) % (5 : Int32))), .val (.int (103 : Int32)), .val (.int (1 : Int32)), .val (.ref a80), .unset, .unset] [])) (fun t k => XS.astore C80.here C80.hx rfl (C80.dec at_81) rfl rfl (l' := #[.val (.int i0), .val (.int i1), .val (.int i2), .val (.int i3), .val (.int i4), .val (.int ((i0 &&& (2147483647 : Int32)) % (5 : Int32))), .val (.int (103 : Int32)), .val (.int (1 : Int32)), .val (.ref a80), .unset, .unset]) rfl k) ?_
          refine Endw.st (T' := T80) (g' := (mkF m 85 #[.val (.int i0), .val (.int i1), .val (.int i2), .val (.int i3), .val (.int i4), .val (.int ((i0 &&& (2147483647 : Int32)) % (5 : Int32))), .val (.int (103 : Int32)), .val (.int (1 : Int32)), .val (.ref a80), .unset, .unset] [(.ref a80)])) (fun t k => XS.aload C80.here C80.hx rfl (C80.dec at_83) rfl rfl k) ?_
          refine Endw.st (T' := T80) (g' := (mkF m 86 #[.val (.int i0), .val (.int i1), .val (.int i2), .val (.int i3), .val (.int i4), .val (.int ((i0 &&& (2147483647 : Int32)) % (5 : Int32))), .val (.int (103 : Int32)), .val (.int (1 : Int32)), .val (.ref a80), .unset, .unset] [(.int (0 : Int32)), (.ref a80)])) (fun t k => XS.iconst C80.here C80.hx rfl (C80.dec at_85) k) ?_
          refine Endw.st (T' := T80) (g' := (mkF m 88 #[.val (.int i0), .val (.int i1), .val (.int i2), .val (.int i3), .val (.int i4), .val (.int ((i0 &&& (2147483647 : Int32)) % (5 : Int32))), .val (.int (103 : Int32)), .val (.int (1 : Int32)), .val (.ref a80), .unset, .unset] [(.int i4), (.int (0 : Int32)), (.ref a80)])) (fun t k => XS.iload C80.here C80.hx rfl (C80.dec at_86) rfl k) ?_
          refine Endw.st (T' := T80) (g' := (mkF m 91 #[.val (.int i0), .val (.int i1), .val (.int i2), .val (.int i3), .val (.int i4), .val (.int ((i0 &&& (2147483647 : Int32)) % (5 : Int32))), .val (.int (103 : Int32)), .val (.int (1 : Int32)), .val (.ref a80), .unset, .unset] [(.int (255 : Int32)), (.int i4), (.int (0 : Int32)), (.ref a80)])) (fun t k => XS.sipush C80.here C80.hx rfl (C80.dec at_88) k) ?_
          refine Endw.st (T' := T80) (g' := (mkF m 92 #[.val (.int i0), .val (.int i1), .val (.int i2), .val (.int i3), .val (.int i4), .val (.int ((i0 &&& (2147483647 : Int32)) % (5 : Int32))), .val (.int (103 : Int32)), .val (.int (1 : Int32)), .val (.ref a80), .unset, .unset] [(.int (i4 &&& (255 : Int32))), (.int (0 : Int32)), (.ref a80)])) (fun t k => XS.iand C80.here C80.hx rfl (C80.dec at_91) rfl k) ?_
          refine Endw.st (T' := T80) (g' := (mkF m 93 #[.val (.int i0), .val (.int i1), .val (.int i2), .val (.int i3), .val (.int i4), .val (.int ((i0 &&& (2147483647 : Int32)) % (5 : Int32))), .val (.int (103 : Int32)), .val (.int (1 : Int32)), .val (.ref a80), .unset, .unset] [(.int ((i4 &&& (255 : Int32)).toUInt32.toUInt16.toUInt32.toInt32)), (.int (0 : Int32)), (.ref a80)])) (fun t k => XS.i2c C80.here C80.hx rfl (C80.dec at_92) rfl k) ?_
          rw [show (i4 &&& (255 : Int32)).toUInt32.toUInt16.toUInt32.toInt32 = (i4 &&& (255 : Int32)) from i2c_mask _]
          refine C80.castore V80 ⟨by decide, by decide⟩ 0 (by decide) (Nat.le_of_ble_eq_true rfl) (x' := (i4 &&& (255 : Int32))) (i2c_mask _) zg80 at_93 (pc' := 94) rfl ?_
          intro T81 h81 C81 K81 A81 V81
          show Endw p e below T81 (mkF m 94 #[.val (.int i0), .val (.int i1), .val (.int i2), .val (.int i3), .val (.int i4), .val (.int ((i0 &&& (2147483647 : Int32)) % (5 : Int32))), .val (.int (103 : Int32)), .val (.int (1 : Int32)), .val (.ref a80), .unset, .unset] []) _
          refine Endw.st (T' := T81) (g' := (mkF m 96 #[.val (.int i0), .val (.int i1), .val (.int i2), .val (.int i3), .val (.int i4), .val (.int ((i0 &&& (2147483647 : Int32)) % (5 : Int32))), .val (.int (103 : Int32)), .val (.int (1 : Int32)), .val (.ref a80), .unset, .unset] [(.int i4)])) (fun t k => XS.iload C81.here C81.hx rfl (C81.dec at_94) rfl k) ?_
          refine Endw.st (T' := T81) (g' := (mkF m 98 #[.val (.int i0), .val (.int i1), .val (.int i2), .val (.int i3), .val (.int i4), .val (.int ((i0 &&& (2147483647 : Int32)) % (5 : Int32))), .val (.int (103 : Int32)), .val (.int (1 : Int32)), .val (.ref a80), .unset, .unset] [(.int (8 : Int32)), (.int i4)])) (fun t k => XS.bipush C81.here C81.hx rfl (C81.dec at_96) k) ?_
          refine Endw.st (T' := T81) (g' := (mkF m 99 #[.val (.int i0), .val (.int i1), .val (.int i2), .val (.int i3), .val (.int i4), .val (.int ((i0 &&& (2147483647 : Int32)) % (5 : Int32))), .val (.int (103 : Int32)), .val (.int (1 : Int32)), .val (.ref a80), .unset, .unset] [(.int ((i4.toUInt32 >>> ((8 : Int32) &&& 31).toUInt32).toInt32))])) (fun t k => XS.iushr C81.here C81.hx rfl (C81.dec at_98) rfl k) ?_
          refine Endw.st (T' := T81) (g' := (mkF m 100 #[.val (.int i0), .val (.int i1), .val (.int i2), .val (.int i3), .val (.int i4), .val (.int ((i0 &&& (2147483647 : Int32)) % (5 : Int32))), .val (.int (103 : Int32)), .val (.int (1 : Int32)), .val (.ref a80), .unset, .unset] [(.int (1 : Int32)), (.int ((i4.toUInt32 >>> ((8 : Int32) &&& 31).toUInt32).toInt32))])) (fun t k => XS.iconst C81.here C81.hx rfl (C81.dec at_99) k) ?_
          refine Endw.st (T' := T81) (g' := (mkF m 101 #[.val (.int i0), .val (.int i1), .val (.int i2), .val (.int i3), .val (.int i4), .val (.int ((i0 &&& (2147483647 : Int32)) % (5 : Int32))), .val (.int (103 : Int32)), .val (.int (1 : Int32)), .val (.ref a80), .unset, .unset] [(.int (((i4.toUInt32 >>> ((8 : Int32) &&& 31).toUInt32).toInt32) &&& (1 : Int32)))])) (fun t k => XS.iand C81.here C81.hx rfl (C81.dec at_100) rfl k) ?_
          by_cases c82 : (((i4.toUInt32 >>> ((8 : Int32) &&& 31).toUInt32).toInt32) &&& (1 : Int32)) = (0 : Int32)
          · refine Endw.st (T' := T81) (g' := (mkF m 116 #[.val (.int i0), .val (.int i1), .val (.int i2), .val (.int i3), .val (.int i4), .val (.int ((i0 &&& (2147483647 : Int32)) % (5 : Int32))), .val (.int (103 : Int32)), .val (.int (1 : Int32)), .val (.ref a80), .unset, .unset] [])) (fun t k => XS.ifYes C81.here C81.hx rfl (pc0 := 101) rfl (C81.dec at_101) rfl (XT.i0_eq_t c82) (by decide) rfl k) ?_
            refine C81.ldcO (N := 0) (W2 hw) G.wS (by decide) (by decide) (by decide) (by decide) at_116 (pc' := 118) rfl rfl ?_
            intro vm83 T83 h83 a83 C83 K83 A83
            show Endw p e below T83 (mkF m 118 #[.val (.int i0), .val (.int i1), .val (.int i2), .val (.int i3), .val (.int i4), .val (.int ((i0 &&& (2147483647 : Int32)) % (5 : Int32))), .val (.int (103 : Int32)), .val (.int (1 : Int32)), .val (.ref a80), .unset, .unset] [(.ref a83)]) _
            refine Endw.st (T' := T83) (g' := (mkF m 120 #[.val (.int i0), .val (.int i1), .val (.int i2), .val (.int i3), .val (.int i4), .val (.int ((i0 &&& (2147483647 : Int32)) % (5 : Int32))), .val (.int (103 : Int32)), .val (.int (1 : Int32)), .val (.ref a80), .val (.ref a83), .unset] [])) (fun t k => XS.astore C83.here C83.hx rfl (C83.dec at_118) rfl rfl (l' := #[.val (.int i0), .val (.int i1), .val (.int i2), .val (.int i3), .val (.int i4), .val (.int ((i0 &&& (2147483647 : Int32)) % (5 : Int32))), .val (.int (103 : Int32)), .val (.int (1 : Int32)), .val (.ref a80), .val (.ref a83), .unset]) rfl k) ?_
            refine C83.new (W10 hw) (W11 hw) (W12 hw) at_120 (pc' := 123) rfl (by decide) (by decide) ?_
            intro T84 h84 a84 C84 K84 A84 ge84 zg84 E84 D84 S84
            show Endw p e below T84 (mkF m 123 #[.val (.int i0), .val (.int i1), .val (.int i2), .val (.int i3), .val (.int i4), .val (.int ((i0 &&& (2147483647 : Int32)) % (5 : Int32))), .val (.int (103 : Int32)), .val (.int (1 : Int32)), .val (.ref a80), .val (.ref a83), .unset] [(.ref a84)]) _
            refine Endw.st (T' := T84) (g' := (mkF m 124 #[.val (.int i0), .val (.int i1), .val (.int i2), .val (.int i3), .val (.int i4), .val (.int ((i0 &&& (2147483647 : Int32)) % (5 : Int32))), .val (.int (103 : Int32)), .val (.int (1 : Int32)), .val (.ref a80), .val (.ref a83), .unset] [(.ref a84), (.ref a84)])) (fun t k => XS.dup C84.here C84.hx rfl (C84.dec at_123) rfl rfl k) ?_
            refine Endw.st (T' := T84) (g' := (mkF m 126 #[.val (.int i0), .val (.int i1), .val (.int i2), .val (.int i3), .val (.int i4), .val (.int ((i0 &&& (2147483647 : Int32)) % (5 : Int32))), .val (.int (103 : Int32)), .val (.int (1 : Int32)), .val (.ref a80), .val (.ref a83), .unset] [(.ref a83), (.ref a84), (.ref a84)])) (fun t k => XS.aload C84.here C84.hx rfl (C84.dec at_124) rfl rfl k) ?_
            refine Endw.st (T' := T84) (g' := (mkF m 127 #[.val (.int i0), .val (.int i1), .val (.int i2), .val (.int i3), .val (.int i4), .val (.int ((i0 &&& (2147483647 : Int32)) % (5 : Int32))), .val (.int (103 : Int32)), .val (.int (1 : Int32)), .val (.ref a80), .val (.ref a83), .unset] [(.int i1), (.ref a83), (.ref a84), (.ref a84)])) (fun t k => XS.iloadN C84.here C84.hx rfl (C84.dec at_126) rfl k) ?_
            refine Endw.st (T' := T84) (g' := (mkF m 128 #[.val (.int i0), .val (.int i1), .val (.int i2), .val (.int i3), .val (.int i4), .val (.int ((i0 &&& (2147483647 : Int32)) % (5 : Int32))), .val (.int (103 : Int32)), .val (.int (1 : Int32)), .val (.ref a80), .val (.ref a83), .unset] [(.int i2), (.int i1), (.ref a83), (.ref a84), (.ref a84)])) (fun t k => XS.iloadN C84.here C84.hx rfl (C84.dec at_127) rfl k) ?_
            refine Endw.st (T' := T84) (g' := (mkF m 130 #[.val (.int i0), .val (.int i1), .val (.int i2), .val (.int i3), .val (.int i4), .val (.int ((i0 &&& (2147483647 : Int32)) % (5 : Int32))), .val (.int (103 : Int32)), .val (.int (1 : Int32)), .val (.ref a80), .val (.ref a83), .unset] [(.int (103 : Int32)), (.int i2), (.int i1), (.ref a83), (.ref a84), (.ref a84)])) (fun t k => XS.iload C84.here C84.hx rfl (C84.dec at_128) rfl k) ?_
            refine Endw.st (T' := T84) (g' := (mkF m 131 #[.val (.int i0), .val (.int i1), .val (.int i2), .val (.int i3), .val (.int i4), .val (.int ((i0 &&& (2147483647 : Int32)) % (5 : Int32))), .val (.int (103 : Int32)), .val (.int (1 : Int32)), .val (.ref a80), .val (.ref a83), .unset] [(.int i3), (.int (103 : Int32)), (.int i2), (.int i1), (.ref a83), (.ref a84), (.ref a84)])) (fun t k => XS.iloadN C84.here C84.hx rfl (C84.dec at_130) rfl k) ?_
            have f85 : Fld Z h84 a84 "com/example/tessera/tessera/Printf$Directive" "flags" "Ljava/lang/String;" .null := D84 (Or.inr (W25 hw)) (ty := (.object "java/lang/String")) (by decide)
            have f86 : Fld Z h84 a84 "com/example/tessera/tessera/Printf$Directive" "width" "I" (.int (0 : Int32)) := D84 (Or.inr (W27 hw)) (ty := .int) (by decide)
            have f87 : Fld Z h84 a84 "com/example/tessera/tessera/Printf$Directive" "precision" "I" (.int (0 : Int32)) := D84 (Or.inr (W29 hw)) (ty := .int) (by decide)
            have f88 : Fld Z h84 a84 "com/example/tessera/tessera/Printf$Directive" "conversion" "C" (.int (0 : Int32)) := D84 (Or.inr (W31 hw)) (ty := .char) (by decide)
            have f89 : Fld Z h84 a84 "com/example/tessera/tessera/Printf$Directive" "end" "I" (.int (0 : Int32)) := D84 (Or.inr (W33 hw)) (ty := .int) (by decide)
            refine C84.special (y := (⟨"com/example/tessera/tessera/Printf$Directive", "<init>", "(Ljava/lang/String;IICI)V"⟩ : MethodName)) (W := 1) (a := a84) (argsL := [(.ref a83), (.int i1), (.int i2), (.int (103 : Int32)), (.int i3)]) (rest := [(.ref a84)]) rfl (W13 hw) (W14 hw) (W15 hw) (W12 hw) (by decide) (rm_Dir l Z a0 EL G a84 (.ref a83) rfl i1 i2 (103 : Int32) rfl rfl i3 h84 C84.old E84 f85 f86 f87 f88 f89 zg84) rfl all0 (by decide) (by decide) (by decide) (by decide) (lenOf pd_3 rfl) rfl (Nat.le_of_ble_eq_true rfl) rfl at_131 (pc' := 134) rfl ?_
            intro vm90 T90 h90 v90 C90 A90 q90
            obtain ⟨rfl, K90, E90, F90_0, F90_1, F90_2, F90_3, F90_4⟩ := q90
            show Endw p e below T90 (mkF m 134 #[.val (.int i0), .val (.int i1), .val (.int i2), .val (.int i3), .val (.int i4), .val (.int ((i0 &&& (2147483647 : Int32)) % (5 : Int32))), .val (.int (103 : Int32)), .val (.int (1 : Int32)), .val (.ref a80), .val (.ref a83), .unset] [(.ref a84)]) _
            refine Endw.st (T' := T90) (g' := (mkF m 136 #[.val (.int i0), .val (.int i1), .val (.int i2), .val (.int i3), .val (.int i4), .val (.int ((i0 &&& (2147483647 : Int32)) % (5 : Int32))), .val (.int (103 : Int32)), .val (.int (1 : Int32)), .val (.ref a80), .val (.ref a83), .val (.ref a84)] [])) (fun t k => XS.astore C90.here C90.hx rfl (C90.dec at_134) rfl rfl (l' := #[.val (.int i0), .val (.int i1), .val (.int i2), .val (.int i3), .val (.int i4), .val (.int ((i0 &&& (2147483647 : Int32)) % (5 : Int32))), .val (.int (103 : Int32)), .val (.int (1 : Int32)), .val (.ref a80), .val (.ref a83), .val (.ref a84)]) rfl k) ?_
            refine Endw.st (T' := T90) (g' := (mkF m 138 #[.val (.int i0), .val (.int i1), .val (.int i2), .val (.int i3), .val (.int i4), .val (.int ((i0 &&& (2147483647 : Int32)) % (5 : Int32))), .val (.int (103 : Int32)), .val (.int (1 : Int32)), .val (.ref a80), .val (.ref a83), .val (.ref a84)] [(.ref a84)])) (fun t k => XS.aload C90.here C90.hx rfl (C90.dec at_136) rfl rfl k) ?_
            refine C90.virtual (y := (⟨"com/example/tessera/tessera/Printf$Directive", "numeric", "()Z"⟩ : MethodName)) (z := (⟨"com/example/tessera/tessera/Printf$Directive", "numeric", "()Z"⟩ : MethodName)) (W := 0) (a := a84) (argsL := []) (rest := []) (W34 hw) (W35 hw) (fun _ q => notFace_of_selects (args := #[]) (mvT q (W37 hw))) (W37 hw) (W36 hw) (W38 hw) (W12 hw) (by decide) (rm_Num l Z a0 EL G a84 (103 : Int32) h90 C90.old F90_3) rfl E90 all0 (by decide) (by decide) (by decide) (by decide) (lenOf pd_28295a rfl) rfl (Nat.le_of_ble_eq_true rfl) rfl at_138 (pc' := 141) rfl ?_
            intro vm91 T91 h91 v91 C91 A91 q91
            obtain ⟨z91, rfl, q91, rfl⟩ := q91
            obtain rfl : z91 = 1 := q91.elim (fun q => absurd q.1 (by decide)) (fun q => q.2)
            show Endw p e below T91 (mkF m 141 #[.val (.int i0), .val (.int i1), .val (.int i2), .val (.int i3), .val (.int i4), .val (.int ((i0 &&& (2147483647 : Int32)) % (5 : Int32))), .val (.int (103 : Int32)), .val (.int (1 : Int32)), .val (.ref a80), .val (.ref a83), .val (.ref a84)] [(.int (1 : Int32))]) _
            refine Endw.st (T' := T91) (g' := (mkF m 143 #[.val (.int i0), .val (.int i1), .val (.int i2), .val (.int i3), .val (.int i4), .val (.int ((i0 &&& (2147483647 : Int32)) % (5 : Int32))), .val (.int (103 : Int32)), .val (.int (1 : Int32)), .val (.ref a80), .val (.ref a83), .val (.ref a84)] [(.int (1 : Int32)), (.int (1 : Int32))])) (fun t k => XS.iload C91.here C91.hx rfl (C91.dec at_141) rfl k) ?_
            refine Endw.st (T' := T91) (g' := (mkF m 146 #[.val (.int i0), .val (.int i1), .val (.int i2), .val (.int i3), .val (.int i4), .val (.int ((i0 &&& (2147483647 : Int32)) % (5 : Int32))), .val (.int (103 : Int32)), .val (.int (1 : Int32)), .val (.ref a80), .val (.ref a83), .val (.ref a84)] [])) (fun t k => XS.icmpNo C91.here C91.hx rfl (C91.dec at_143) rfl (XT.ii_ne_f (by decide)) k) ?_
            refine Endw.st (T' := T91) (g' := (mkF m 147 #[.val (.int i0), .val (.int i1), .val (.int i2), .val (.int i3), .val (.int i4), .val (.int ((i0 &&& (2147483647 : Int32)) % (5 : Int32))), .val (.int (103 : Int32)), .val (.int (1 : Int32)), .val (.ref a80), .val (.ref a83), .val (.ref a84)] [(.int (1 : Int32))])) (fun t k => XS.iconst C91.here C91.hx rfl (C91.dec at_146) k) ?_
            refine Endw.st (T' := T91) (g' := (mkF m 151 #[.val (.int i0), .val (.int i1), .val (.int i2), .val (.int i3), .val (.int i4), .val (.int ((i0 &&& (2147483647 : Int32)) % (5 : Int32))), .val (.int (103 : Int32)), .val (.int (1 : Int32)), .val (.ref a80), .val (.ref a83), .val (.ref a84)] [(.int (1 : Int32))])) (fun t k => XS.goto C91.here C91.hx rfl (pc0 := 147) rfl (C91.dec at_147) (by decide) rfl k) ?_
            exact C91.retI (t := .boolean) rfl (by simp) rfl at_151 (by decide) (by decide) rfl
          · refine Endw.st (T' := T81) (g' := (mkF m 104 #[.val (.int i0), .val (.int i1), .val (.int i2), .val (.int i3), .val (.int i4), .val (.int ((i0 &&& (2147483647 : Int32)) % (5 : Int32))), .val (.int (103 : Int32)), .val (.int (1 : Int32)), .val (.ref a80), .unset, .unset] [])) (fun t k => XS.ifNo C81.here C81.hx rfl (C81.dec at_101) rfl (XT.i0_eq_f c82) k) ?_
            refine C81.new (W39 hw) (W4 hw) (W3 hw) at_104 (pc' := 107) rfl (by decide) (by decide) ?_
            intro T92 h92 a92 C92 K92 A92 ge92 zg92 E92 D92 S92
            show Endw p e below T92 (mkF m 107 #[.val (.int i0), .val (.int i1), .val (.int i2), .val (.int i3), .val (.int i4), .val (.int ((i0 &&& (2147483647 : Int32)) % (5 : Int32))), .val (.int (103 : Int32)), .val (.int (1 : Int32)), .val (.ref a80), .unset, .unset] [(.ref a92)]) _
            refine Endw.st (T' := T92) (g' := (mkF m 108 #[.val (.int i0), .val (.int i1), .val (.int i2), .val (.int i3), .val (.int i4), .val (.int ((i0 &&& (2147483647 : Int32)) % (5 : Int32))), .val (.int (103 : Int32)), .val (.int (1 : Int32)), .val (.ref a80), .unset, .unset] [(.ref a92), (.ref a92)])) (fun t k => XS.dup C92.here C92.hx rfl (C92.dec at_107) rfl rfl k) ?_
            refine Endw.st (T' := T92) (g' := (mkF m 110 #[.val (.int i0), .val (.int i1), .val (.int i2), .val (.int i3), .val (.int i4), .val (.int ((i0 &&& (2147483647 : Int32)) % (5 : Int32))), .val (.int (103 : Int32)), .val (.int (1 : Int32)), .val (.ref a80), .unset, .unset] [(.ref a80), (.ref a92), (.ref a92)])) (fun t k => XS.aload C92.here C92.hx rfl (C92.dec at_108) rfl rfl k) ?_
            have f93 := (V81.keep K92 nin0)
            have f94 : Fld Z h92 a92 "java/lang/String" "value" "[B" .null := D92 (Or.inr (W6 hw)) (ty := (.array .byte)) (by decide)
            have f95 : Fld Z h92 a92 "java/lang/String" "coder" "B" (.int (0 : Int32)) := D92 (Or.inr (W7 hw)) (ty := .byte) (by decide)
            have hp96 : ∀ c ∈ [(i4 &&& (255 : Int32))], B8 c := (own_cS (own_mask255 _) own_c0)
            refine C92.specialF (y := (⟨"java/lang/String", "<init>", "([C)V"⟩ : MethodName)) (ws := [a92]) (W := 1) (a := a92) (argsL := [.ref a80]) (rest := [(.ref a92)]) (ck := 1) (cn := 1) rfl (W40 hw) (W41 hw) (W42 hw) (by decide) (StrChars.Road.backV (W := 1) (n := 1) (n0 := Z.heap.size) (cs := [(i4 &&& (255 : Int32))]) (bs := [(i4 &&& (255 : Int32)).toInt8.toInt32]) C92.warm G.w_backV (kI := 4) (W4 hw) zg92 C92.le E92 f94 f95 f93 (Sc.ext C92.old) hzc rfl rfl (by decide) (by decide) hp96 rfl (by decide) (by decide)) (fun _ _ _ q => ⟨q.2.1, q.2.2.1⟩) (allS zg92 all0) (sfS S92 sf0) rfl (by decide) (by decide) (lenOf pd_285b432956 rfl) rfl (Nat.le_of_ble_eq_true rfl) rfl at_110 (pc' := 113) rfl ?_
            intro T96 h96 v96 C96 K96 A96 q96
            obtain ⟨_, rfl, -, -, E96, F96, t96, kb96, zg96, ge96, nt96, f96, V96⟩ := q96
            have Z96 : Str Z h96 a92 t96 kb96 [(i4 &&& (255 : Int32))] := ⟨E96, F96, f96, V96, hp96, Nat.le_of_ble_eq_true rfl⟩
            show Endw p e below T96 (mkF m 113 #[.val (.int i0), .val (.int i1), .val (.int i2), .val (.int i3), .val (.int i4), .val (.int ((i0 &&& (2147483647 : Int32)) % (5 : Int32))), .val (.int (103 : Int32)), .val (.int (1 : Int32)), .val (.ref a80), .unset, .unset] [(.ref a92)]) _
            refine Endw.st (T' := T96) (g' := (mkF m 118 #[.val (.int i0), .val (.int i1), .val (.int i2), .val (.int i3), .val (.int i4), .val (.int ((i0 &&& (2147483647 : Int32)) % (5 : Int32))), .val (.int (103 : Int32)), .val (.int (1 : Int32)), .val (.ref a80), .unset, .unset] [(.ref a92)])) (fun t k => XS.goto C96.here C96.hx rfl (pc0 := 113) rfl (C96.dec at_113) (by decide) rfl k) ?_
            refine Endw.st (T' := T96) (g' := (mkF m 120 #[.val (.int i0), .val (.int i1), .val (.int i2), .val (.int i3), .val (.int i4), .val (.int ((i0 &&& (2147483647 : Int32)) % (5 : Int32))), .val (.int (103 : Int32)), .val (.int (1 : Int32)), .val (.ref a80), .val (.ref a92), .unset] [])) (fun t k => XS.astore C96.here C96.hx rfl (C96.dec at_118) rfl rfl (l' := #[.val (.int i0), .val (.int i1), .val (.int i2), .val (.int i3), .val (.int i4), .val (.int ((i0 &&& (2147483647 : Int32)) % (5 : Int32))), .val (.int (103 : Int32)), .val (.int (1 : Int32)), .val (.ref a80), .val (.ref a92), .unset]) rfl k) ?_
            refine C96.new (W10 hw) (W11 hw) (W12 hw) at_120 (pc' := 123) rfl (by decide) (by decide) ?_
            intro T97 h97 a97 C97 K97 A97 ge97 zg97 E97 D97 S97
            show Endw p e below T97 (mkF m 123 #[.val (.int i0), .val (.int i1), .val (.int i2), .val (.int i3), .val (.int i4), .val (.int ((i0 &&& (2147483647 : Int32)) % (5 : Int32))), .val (.int (103 : Int32)), .val (.int (1 : Int32)), .val (.ref a80), .val (.ref a92), .unset] [(.ref a97)]) _
            refine Endw.st (T' := T97) (g' := (mkF m 124 #[.val (.int i0), .val (.int i1), .val (.int i2), .val (.int i3), .val (.int i4), .val (.int ((i0 &&& (2147483647 : Int32)) % (5 : Int32))), .val (.int (103 : Int32)), .val (.int (1 : Int32)), .val (.ref a80), .val (.ref a92), .unset] [(.ref a97), (.ref a97)])) (fun t k => XS.dup C97.here C97.hx rfl (C97.dec at_123) rfl rfl k) ?_
            refine Endw.st (T' := T97) (g' := (mkF m 126 #[.val (.int i0), .val (.int i1), .val (.int i2), .val (.int i3), .val (.int i4), .val (.int ((i0 &&& (2147483647 : Int32)) % (5 : Int32))), .val (.int (103 : Int32)), .val (.int (1 : Int32)), .val (.ref a80), .val (.ref a92), .unset] [(.ref a92), (.ref a97), (.ref a97)])) (fun t k => XS.aload C97.here C97.hx rfl (C97.dec at_124) rfl rfl k) ?_
            refine Endw.st (T' := T97) (g' := (mkF m 127 #[.val (.int i0), .val (.int i1), .val (.int i2), .val (.int i3), .val (.int i4), .val (.int ((i0 &&& (2147483647 : Int32)) % (5 : Int32))), .val (.int (103 : Int32)), .val (.int (1 : Int32)), .val (.ref a80), .val (.ref a92), .unset] [(.int i1), (.ref a92), (.ref a97), (.ref a97)])) (fun t k => XS.iloadN C97.here C97.hx rfl (C97.dec at_126) rfl k) ?_
            refine Endw.st (T' := T97) (g' := (mkF m 128 #[.val (.int i0), .val (.int i1), .val (.int i2), .val (.int i3), .val (.int i4), .val (.int ((i0 &&& (2147483647 : Int32)) % (5 : Int32))), .val (.int (103 : Int32)), .val (.int (1 : Int32)), .val (.ref a80), .val (.ref a92), .unset] [(.int i2), (.int i1), (.ref a92), (.ref a97), (.ref a97)])) (fun t k => XS.iloadN C97.here C97.hx rfl (C97.dec at_127) rfl k) ?_
            refine Endw.st (T' := T97) (g' := (mkF m 130 #[.val (.int i0), .val (.int i1), .val (.int i2), .val (.int i3), .val (.int i4), .val (.int ((i0 &&& (2147483647 : Int32)) % (5 : Int32))), .val (.int (103 : Int32)), .val (.int (1 : Int32)), .val (.ref a80), .val (.ref a92), .unset] [(.int (103 : Int32)), (.int i2), (.int i1), (.ref a92), (.ref a97), (.ref a97)])) (fun t k => XS.iload C97.here C97.hx rfl (C97.dec at_128) rfl k) ?_
            refine Endw.st (T' := T97) (g' := (mkF m 131 #[.val (.int i0), .val (.int i1), .val (.int i2), .val (.int i3), .val (.int i4), .val (.int ((i0 &&& (2147483647 : Int32)) % (5 : Int32))), .val (.int (103 : Int32)), .val (.int (1 : Int32)), .val (.ref a80), .val (.ref a92), .unset] [(.int i3), (.int (103 : Int32)), (.int i2), (.int i1), (.ref a92), (.ref a97), (.ref a97)])) (fun t k => XS.iloadN C97.here C97.hx rfl (C97.dec at_130) rfl k) ?_
            have f98 : Fld Z h97 a97 "com/example/tessera/tessera/Printf$Directive" "flags" "Ljava/lang/String;" .null := D97 (Or.inr (W25 hw)) (ty := (.object "java/lang/String")) (by decide)
            have f99 : Fld Z h97 a97 "com/example/tessera/tessera/Printf$Directive" "width" "I" (.int (0 : Int32)) := D97 (Or.inr (W27 hw)) (ty := .int) (by decide)
            have f100 : Fld Z h97 a97 "com/example/tessera/tessera/Printf$Directive" "precision" "I" (.int (0 : Int32)) := D97 (Or.inr (W29 hw)) (ty := .int) (by decide)
            have f101 : Fld Z h97 a97 "com/example/tessera/tessera/Printf$Directive" "conversion" "C" (.int (0 : Int32)) := D97 (Or.inr (W31 hw)) (ty := .char) (by decide)
            have f102 : Fld Z h97 a97 "com/example/tessera/tessera/Printf$Directive" "end" "I" (.int (0 : Int32)) := D97 (Or.inr (W33 hw)) (ty := .int) (by decide)
            refine C97.special (y := (⟨"com/example/tessera/tessera/Printf$Directive", "<init>", "(Ljava/lang/String;IICI)V"⟩ : MethodName)) (W := 1) (a := a97) (argsL := [(.ref a92), (.int i1), (.int i2), (.int (103 : Int32)), (.int i3)]) (rest := [(.ref a97)]) rfl (W13 hw) (W14 hw) (W15 hw) (W12 hw) (by decide) (rm_Dir l Z a0 EL G a97 (.ref a92) rfl i1 i2 (103 : Int32) rfl rfl i3 h97 C97.old E97 f98 f99 f100 f101 f102 zg97) rfl all0 (by decide) (by decide) (by decide) (by decide) (lenOf pd_3 rfl) rfl (Nat.le_of_ble_eq_true rfl) rfl at_131 (pc' := 134) rfl ?_
            intro vm103 T103 h103 v103 C103 A103 q103
            obtain ⟨rfl, K103, E103, F103_0, F103_1, F103_2, F103_3, F103_4⟩ := q103
            show Endw p e below T103 (mkF m 134 #[.val (.int i0), .val (.int i1), .val (.int i2), .val (.int i3), .val (.int i4), .val (.int ((i0 &&& (2147483647 : Int32)) % (5 : Int32))), .val (.int (103 : Int32)), .val (.int (1 : Int32)), .val (.ref a80), .val (.ref a92), .unset] [(.ref a97)]) _
            refine Endw.st (T' := T103) (g' := (mkF m 136 #[.val (.int i0), .val (.int i1), .val (.int i2), .val (.int i3), .val (.int i4), .val (.int ((i0 &&& (2147483647 : Int32)) % (5 : Int32))), .val (.int (103 : Int32)), .val (.int (1 : Int32)), .val (.ref a80), .val (.ref a92), .val (.ref a97)] [])) (fun t k => XS.astore C103.here C103.hx rfl (C103.dec at_134) rfl rfl (l' := #[.val (.int i0), .val (.int i1), .val (.int i2), .val (.int i3), .val (.int i4), .val (.int ((i0 &&& (2147483647 : Int32)) % (5 : Int32))), .val (.int (103 : Int32)), .val (.int (1 : Int32)), .val (.ref a80), .val (.ref a92), .val (.ref a97)]) rfl k) ?_
            refine Endw.st (T' := T103) (g' := (mkF m 138 #[.val (.int i0), .val (.int i1), .val (.int i2), .val (.int i3), .val (.int i4), .val (.int ((i0 &&& (2147483647 : Int32)) % (5 : Int32))), .val (.int (103 : Int32)), .val (.int (1 : Int32)), .val (.ref a80), .val (.ref a92), .val (.ref a97)] [(.ref a97)])) (fun t k => XS.aload C103.here C103.hx rfl (C103.dec at_136) rfl rfl k) ?_
            refine C103.virtual (y := (⟨"com/example/tessera/tessera/Printf$Directive", "numeric", "()Z"⟩ : MethodName)) (z := (⟨"com/example/tessera/tessera/Printf$Directive", "numeric", "()Z"⟩ : MethodName)) (W := 0) (a := a97) (argsL := []) (rest := []) (W34 hw) (W35 hw) (fun _ q => notFace_of_selects (args := #[]) (mvT q (W37 hw))) (W37 hw) (W36 hw) (W38 hw) (W12 hw) (by decide) (rm_Num l Z a0 EL G a97 (103 : Int32) h103 C103.old F103_3) rfl E103 all0 (by decide) (by decide) (by decide) (by decide) (lenOf pd_28295a rfl) rfl (Nat.le_of_ble_eq_true rfl) rfl at_138 (pc' := 141) rfl ?_
            intro vm104 T104 h104 v104 C104 A104 q104
            obtain ⟨z104, rfl, q104, rfl⟩ := q104
            obtain rfl : z104 = 1 := q104.elim (fun q => absurd q.1 (by decide)) (fun q => q.2)
            show Endw p e below T104 (mkF m 141 #[.val (.int i0), .val (.int i1), .val (.int i2), .val (.int i3), .val (.int i4), .val (.int ((i0 &&& (2147483647 : Int32)) % (5 : Int32))), .val (.int (103 : Int32)), .val (.int (1 : Int32)), .val (.ref a80), .val (.ref a92), .val (.ref a97)] [(.int (1 : Int32))]) _
            refine Endw.st (T' := T104) (g' := (mkF m 143 #[.val (.int i0), .val (.int i1), .val (.int i2), .val (.int i3), .val (.int i4), .val (.int ((i0 &&& (2147483647 : Int32)) % (5 : Int32))), .val (.int (103 : Int32)), .val (.int (1 : Int32)), .val (.ref a80), .val (.ref a92), .val (.ref a97)] [(.int (1 : Int32)), (.int (1 : Int32))])) (fun t k => XS.iload C104.here C104.hx rfl (C104.dec at_141) rfl k) ?_
            refine Endw.st (T' := T104) (g' := (mkF m 146 #[.val (.int i0), .val (.int i1), .val (.int i2), .val (.int i3), .val (.int i4), .val (.int ((i0 &&& (2147483647 : Int32)) % (5 : Int32))), .val (.int (103 : Int32)), .val (.int (1 : Int32)), .val (.ref a80), .val (.ref a92), .val (.ref a97)] [])) (fun t k => XS.icmpNo C104.here C104.hx rfl (C104.dec at_143) rfl (XT.ii_ne_f (by decide)) k) ?_
            refine Endw.st (T' := T104) (g' := (mkF m 147 #[.val (.int i0), .val (.int i1), .val (.int i2), .val (.int i3), .val (.int i4), .val (.int ((i0 &&& (2147483647 : Int32)) % (5 : Int32))), .val (.int (103 : Int32)), .val (.int (1 : Int32)), .val (.ref a80), .val (.ref a92), .val (.ref a97)] [(.int (1 : Int32))])) (fun t k => XS.iconst C104.here C104.hx rfl (C104.dec at_146) k) ?_
            refine Endw.st (T' := T104) (g' := (mkF m 151 #[.val (.int i0), .val (.int i1), .val (.int i2), .val (.int i3), .val (.int i4), .val (.int ((i0 &&& (2147483647 : Int32)) % (5 : Int32))), .val (.int (103 : Int32)), .val (.int (1 : Int32)), .val (.ref a80), .val (.ref a92), .val (.ref a97)] [(.int (1 : Int32))])) (fun t k => XS.goto C104.here C104.hx rfl (pc0 := 147) rfl (C104.dec at_147) (by decide) rfl k) ?_
            exact C104.retI (t := .boolean) rfl (by simp) rfl at_151 (by decide) (by decide) rfl
        · refine Endw.st (T' := T0) (g' := (mkF m 71 #[.val (.int i0), .val (.int i1), .val (.int i2), .val (.int i3), .val (.int i4), .val (.int ((i0 &&& (2147483647 : Int32)) % (5 : Int32))), .unset, .unset, .unset, .unset, .unset] [])) (fun t k => XS.icmpYes C0.here C0.hx rfl (pc0 := 58) rfl (C0.dec at_58) rfl (XT.ii_ne_t c79) (by decide) rfl k) ?_
          refine Endw.st (T' := T0) (g' := (mkF m 73 #[.val (.int i0), .val (.int i1), .val (.int i2), .val (.int i3), .val (.int i4), .val (.int ((i0 &&& (2147483647 : Int32)) % (5 : Int32))), .unset, .unset, .unset, .unset, .unset] [(.int (115 : Int32))])) (fun t k => XS.bipush C0.here C0.hx rfl (C0.dec at_71) k) ?_
          refine Endw.st (T' := T0) (g' := (mkF m 75 #[.val (.int i0), .val (.int i1), .val (.int i2), .val (.int i3), .val (.int i4), .val (.int ((i0 &&& (2147483647 : Int32)) % (5 : Int32))), .val (.int (115 : Int32)), .unset, .unset, .unset, .unset] [])) (fun t k => XS.istore C0.here C0.hx rfl (C0.dec at_73) rfl (l' := #[.val (.int i0), .val (.int i1), .val (.int i2), .val (.int i3), .val (.int i4), .val (.int ((i0 &&& (2147483647 : Int32)) % (5 : Int32))), .val (.int (115 : Int32)), .unset, .unset, .unset, .unset]) rfl k) ?_
          refine Endw.st (T' := T0) (g' := (mkF m 76 #[.val (.int i0), .val (.int i1), .val (.int i2), .val (.int i3), .val (.int i4), .val (.int ((i0 &&& (2147483647 : Int32)) % (5 : Int32))), .val (.int (115 : Int32)), .unset, .unset, .unset, .unset] [(.int (0 : Int32))])) (fun t k => XS.iconst C0.here C0.hx rfl (C0.dec at_75) k) ?_
          refine Endw.st (T' := T0) (g' := (mkF m 78 #[.val (.int i0), .val (.int i1), .val (.int i2), .val (.int i3), .val (.int i4), .val (.int ((i0 &&& (2147483647 : Int32)) % (5 : Int32))), .val (.int (115 : Int32)), .val (.int (0 : Int32)), .unset, .unset, .unset] [])) (fun t k => XS.istore C0.here C0.hx rfl (C0.dec at_76) rfl (l' := #[.val (.int i0), .val (.int i1), .val (.int i2), .val (.int i3), .val (.int i4), .val (.int ((i0 &&& (2147483647 : Int32)) % (5 : Int32))), .val (.int (115 : Int32)), .val (.int (0 : Int32)), .unset, .unset, .unset]) rfl k) ?_
          refine Endw.st (T' := T0) (g' := (mkF m 79 #[.val (.int i0), .val (.int i1), .val (.int i2), .val (.int i3), .val (.int i4), .val (.int ((i0 &&& (2147483647 : Int32)) % (5 : Int32))), .val (.int (115 : Int32)), .val (.int (0 : Int32)), .unset, .unset, .unset] [(.int (1 : Int32))])) (fun t k => XS.iconst C0.here C0.hx rfl (C0.dec at_78) k) ?_
          refine C0.newA (aty := .char) (z := (1 : Int32)) (cap := 1) (vs := [(.int 0)]) (W1 hw) at_79 (pc' := 81) rfl (by decide) (by decide) (by decide) (by decide) (by decide) rfl ?_
          intro T105 h105 a105 kA105 C105 K105 A105 ge105 zg105 V105 S105
          show Endw p e below T105 (mkF m 81 #[.val (.int i0), .val (.int i1), .val (.int i2), .val (.int i3), .val (.int i4), .val (.int ((i0 &&& (2147483647 : Int32)) % (5 : Int32))), .val (.int (115 : Int32)), .val (.int (0 : Int32)), .unset, .unset, .unset] [(.ref a105)]) _
          refine Endw.st (T' := T105) (g' := (mkF m 83 #[.val (.int i0), .val (.int i1), .val (.int i2), .val (.int i3), .val (.int i4), .val (.int ((i0 &&& (2147483647 : Int32)) % (5 : Int32))), .val (.int (115 : Int32)), .val (.int (0 : Int32)), .val (.ref a105), .unset, .unset] [])) (fun t k => XS.astore C105.here C105.hx rfl (C105.dec at_81) rfl rfl (l' := #[.val (.int i0), .val (.int i1), .val (.int i2), .val (.int i3), .val (.int i4), .val (.int ((i0 &&& (2147483647 : Int32)) % (5 : Int32))), .val (.int (115 : Int32)), .val (.int (0 : Int32)), .val (.ref a105), .unset, .unset]) rfl k) ?_
          refine Endw.st (T' := T105) (g' := (mkF m 85 #[.val (.int i0), .val (.int i1), .val (.int i2), .val (.int i3), .val (.int i4), .val (.int ((i0 &&& (2147483647 : Int32)) % (5 : Int32))), .val (.int (115 : Int32)), .val (.int (0 : Int32)), .val (.ref a105), .unset, .unset] [(.ref a105)])) (fun t k => XS.aload C105.here C105.hx rfl (C105.dec at_83) rfl rfl k) ?_
          refine Endw.st (T' := T105) (g' := (mkF m 86 #[.val (.int i0), .val (.int i1), .val (.int i2), .val (.int i3), .val (.int i4), .val (.int ((i0 &&& (2147483647 : Int32)) % (5 : Int32))), .val (.int (115 : Int32)), .val (.int (0 : Int32)), .val (.ref a105), .unset, .unset] [(.int (0 : Int32)), (.ref a105)])) (fun t k => XS.iconst C105.here C105.hx rfl (C105.dec at_85) k) ?_
          refine Endw.st (T' := T105) (g' := (mkF m 88 #[.val (.int i0), .val (.int i1), .val (.int i2), .val (.int i3), .val (.int i4), .val (.int ((i0 &&& (2147483647 : Int32)) % (5 : Int32))), .val (.int (115 : Int32)), .val (.int (0 : Int32)), .val (.ref a105), .unset, .unset] [(.int i4), (.int (0 : Int32)), (.ref a105)])) (fun t k => XS.iload C105.here C105.hx rfl (C105.dec at_86) rfl k) ?_
          refine Endw.st (T' := T105) (g' := (mkF m 91 #[.val (.int i0), .val (.int i1), .val (.int i2), .val (.int i3), .val (.int i4), .val (.int ((i0 &&& (2147483647 : Int32)) % (5 : Int32))), .val (.int (115 : Int32)), .val (.int (0 : Int32)), .val (.ref a105), .unset, .unset] [(.int (255 : Int32)), (.int i4), (.int (0 : Int32)), (.ref a105)])) (fun t k => XS.sipush C105.here C105.hx rfl (C105.dec at_88) k) ?_
          refine Endw.st (T' := T105) (g' := (mkF m 92 #[.val (.int i0), .val (.int i1), .val (.int i2), .val (.int i3), .val (.int i4), .val (.int ((i0 &&& (2147483647 : Int32)) % (5 : Int32))), .val (.int (115 : Int32)), .val (.int (0 : Int32)), .val (.ref a105), .unset, .unset] [(.int (i4 &&& (255 : Int32))), (.int (0 : Int32)), (.ref a105)])) (fun t k => XS.iand C105.here C105.hx rfl (C105.dec at_91) rfl k) ?_
          refine Endw.st (T' := T105) (g' := (mkF m 93 #[.val (.int i0), .val (.int i1), .val (.int i2), .val (.int i3), .val (.int i4), .val (.int ((i0 &&& (2147483647 : Int32)) % (5 : Int32))), .val (.int (115 : Int32)), .val (.int (0 : Int32)), .val (.ref a105), .unset, .unset] [(.int ((i4 &&& (255 : Int32)).toUInt32.toUInt16.toUInt32.toInt32)), (.int (0 : Int32)), (.ref a105)])) (fun t k => XS.i2c C105.here C105.hx rfl (C105.dec at_92) rfl k) ?_
          rw [show (i4 &&& (255 : Int32)).toUInt32.toUInt16.toUInt32.toInt32 = (i4 &&& (255 : Int32)) from i2c_mask _]
          refine C105.castore V105 ⟨by decide, by decide⟩ 0 (by decide) (Nat.le_of_ble_eq_true rfl) (x' := (i4 &&& (255 : Int32))) (i2c_mask _) zg105 at_93 (pc' := 94) rfl ?_
          intro T106 h106 C106 K106 A106 V106
          show Endw p e below T106 (mkF m 94 #[.val (.int i0), .val (.int i1), .val (.int i2), .val (.int i3), .val (.int i4), .val (.int ((i0 &&& (2147483647 : Int32)) % (5 : Int32))), .val (.int (115 : Int32)), .val (.int (0 : Int32)), .val (.ref a105), .unset, .unset] []) _
          refine Endw.st (T' := T106) (g' := (mkF m 96 #[.val (.int i0), .val (.int i1), .val (.int i2), .val (.int i3), .val (.int i4), .val (.int ((i0 &&& (2147483647 : Int32)) % (5 : Int32))), .val (.int (115 : Int32)), .val (.int (0 : Int32)), .val (.ref a105), .unset, .unset] [(.int i4)])) (fun t k => XS.iload C106.here C106.hx rfl (C106.dec at_94) rfl k) ?_
          refine Endw.st (T' := T106) (g' := (mkF m 98 #[.val (.int i0), .val (.int i1), .val (.int i2), .val (.int i3), .val (.int i4), .val (.int ((i0 &&& (2147483647 : Int32)) % (5 : Int32))), .val (.int (115 : Int32)), .val (.int (0 : Int32)), .val (.ref a105), .unset, .unset] [(.int (8 : Int32)), (.int i4)])) (fun t k => XS.bipush C106.here C106.hx rfl (C106.dec at_96) k) ?_
          refine Endw.st (T' := T106) (g' := (mkF m 99 #[.val (.int i0), .val (.int i1), .val (.int i2), .val (.int i3), .val (.int i4), .val (.int ((i0 &&& (2147483647 : Int32)) % (5 : Int32))), .val (.int (115 : Int32)), .val (.int (0 : Int32)), .val (.ref a105), .unset, .unset] [(.int ((i4.toUInt32 >>> ((8 : Int32) &&& 31).toUInt32).toInt32))])) (fun t k => XS.iushr C106.here C106.hx rfl (C106.dec at_98) rfl k) ?_
          refine Endw.st (T' := T106) (g' := (mkF m 100 #[.val (.int i0), .val (.int i1), .val (.int i2), .val (.int i3), .val (.int i4), .val (.int ((i0 &&& (2147483647 : Int32)) % (5 : Int32))), .val (.int (115 : Int32)), .val (.int (0 : Int32)), .val (.ref a105), .unset, .unset] [(.int (1 : Int32)), (.int ((i4.toUInt32 >>> ((8 : Int32) &&& 31).toUInt32).toInt32))])) (fun t k => XS.iconst C106.here C106.hx rfl (C106.dec at_99) k) ?_
          refine Endw.st (T' := T106) (g' := (mkF m 101 #[.val (.int i0), .val (.int i1), .val (.int i2), .val (.int i3), .val (.int i4), .val (.int ((i0 &&& (2147483647 : Int32)) % (5 : Int32))), .val (.int (115 : Int32)), .val (.int (0 : Int32)), .val (.ref a105), .unset, .unset] [(.int (((i4.toUInt32 >>> ((8 : Int32) &&& 31).toUInt32).toInt32) &&& (1 : Int32)))])) (fun t k => XS.iand C106.here C106.hx rfl (C106.dec at_100) rfl k) ?_
          by_cases c107 : (((i4.toUInt32 >>> ((8 : Int32) &&& 31).toUInt32).toInt32) &&& (1 : Int32)) = (0 : Int32)
          · refine Endw.st (T' := T106) (g' := (mkF m 116 #[.val (.int i0), .val (.int i1), .val (.int i2), .val (.int i3), .val (.int i4), .val (.int ((i0 &&& (2147483647 : Int32)) % (5 : Int32))), .val (.int (115 : Int32)), .val (.int (0 : Int32)), .val (.ref a105), .unset, .unset] [])) (fun t k => XS.ifYes C106.here C106.hx rfl (pc0 := 101) rfl (C106.dec at_101) rfl (XT.i0_eq_t c107) (by decide) rfl k) ?_
            refine C106.ldcO (N := 0) (W2 hw) G.wS (by decide) (by decide) (by decide) (by decide) at_116 (pc' := 118) rfl rfl ?_
            intro vm108 T108 h108 a108 C108 K108 A108
            show Endw p e below T108 (mkF m 118 #[.val (.int i0), .val (.int i1), .val (.int i2), .val (.int i3), .val (.int i4), .val (.int ((i0 &&& (2147483647 : Int32)) % (5 : Int32))), .val (.int (115 : Int32)), .val (.int (0 : Int32)), .val (.ref a105), .unset, .unset] [(.ref a108)]) _
            refine Endw.st (T' := T108) (g' := (mkF m 120 #[.val (.int i0), .val (.int i1), .val (.int i2), .val (.int i3), .val (.int i4), .val (.int ((i0 &&& (2147483647 : Int32)) % (5 : Int32))), .val (.int (115 : Int32)), .val (.int (0 : Int32)), .val (.ref a105), .val (.ref a108), .unset] [])) (fun t k => XS.astore C108.here C108.hx rfl (C108.dec at_118) rfl rfl (l' := #[.val (.int i0), .val (.int i1), .val (.int i2), .val (.int i3), .val (.int i4), .val (.int ((i0 &&& (2147483647 : Int32)) % (5 : Int32))), .val (.int (115 : Int32)), .val (.int (0 : Int32)), .val (.ref a105), .val (.ref a108), .unset]) rfl k) ?_
            refine C108.new (W10 hw) (W11 hw) (W12 hw) at_120 (pc' := 123) rfl (by decide) (by decide) ?_
            intro T109 h109 a109 C109 K109 A109 ge109 zg109 E109 D109 S109
            show Endw p e below T109 (mkF m 123 #[.val (.int i0), .val (.int i1), .val (.int i2), .val (.int i3), .val (.int i4), .val (.int ((i0 &&& (2147483647 : Int32)) % (5 : Int32))), .val (.int (115 : Int32)), .val (.int (0 : Int32)), .val (.ref a105), .val (.ref a108), .unset] [(.ref a109)]) _
            refine Endw.st (T' := T109) (g' := (mkF m 124 #[.val (.int i0), .val (.int i1), .val (.int i2), .val (.int i3), .val (.int i4), .val (.int ((i0 &&& (2147483647 : Int32)) % (5 : Int32))), .val (.int (115 : Int32)), .val (.int (0 : Int32)), .val (.ref a105), .val (.ref a108), .unset] [(.ref a109), (.ref a109)])) (fun t k => XS.dup C109.here C109.hx rfl (C109.dec at_123) rfl rfl k) ?_
            refine Endw.st (T' := T109) (g' := (mkF m 126 #[.val (.int i0), .val (.int i1), .val (.int i2), .val (.int i3), .val (.int i4), .val (.int ((i0 &&& (2147483647 : Int32)) % (5 : Int32))), .val (.int (115 : Int32)), .val (.int (0 : Int32)), .val (.ref a105), .val (.ref a108), .unset] [(.ref a108), (.ref a109), (.ref a109)])) (fun t k => XS.aload C109.here C109.hx rfl (C109.dec at_124) rfl rfl k) ?_
            refine Endw.st (T' := T109) (g' := (mkF m 127 #[.val (.int i0), .val (.int i1), .val (.int i2), .val (.int i3), .val (.int i4), .val (.int ((i0 &&& (2147483647 : Int32)) % (5 : Int32))), .val (.int (115 : Int32)), .val (.int (0 : Int32)), .val (.ref a105), .val (.ref a108), .unset] [(.int i1), (.ref a108), (.ref a109), (.ref a109)])) (fun t k => XS.iloadN C109.here C109.hx rfl (C109.dec at_126) rfl k) ?_
            refine Endw.st (T' := T109) (g' := (mkF m 128 #[.val (.int i0), .val (.int i1), .val (.int i2), .val (.int i3), .val (.int i4), .val (.int ((i0 &&& (2147483647 : Int32)) % (5 : Int32))), .val (.int (115 : Int32)), .val (.int (0 : Int32)), .val (.ref a105), .val (.ref a108), .unset] [(.int i2), (.int i1), (.ref a108), (.ref a109), (.ref a109)])) (fun t k => XS.iloadN C109.here C109.hx rfl (C109.dec at_127) rfl k) ?_
            refine Endw.st (T' := T109) (g' := (mkF m 130 #[.val (.int i0), .val (.int i1), .val (.int i2), .val (.int i3), .val (.int i4), .val (.int ((i0 &&& (2147483647 : Int32)) % (5 : Int32))), .val (.int (115 : Int32)), .val (.int (0 : Int32)), .val (.ref a105), .val (.ref a108), .unset] [(.int (115 : Int32)), (.int i2), (.int i1), (.ref a108), (.ref a109), (.ref a109)])) (fun t k => XS.iload C109.here C109.hx rfl (C109.dec at_128) rfl k) ?_
            refine Endw.st (T' := T109) (g' := (mkF m 131 #[.val (.int i0), .val (.int i1), .val (.int i2), .val (.int i3), .val (.int i4), .val (.int ((i0 &&& (2147483647 : Int32)) % (5 : Int32))), .val (.int (115 : Int32)), .val (.int (0 : Int32)), .val (.ref a105), .val (.ref a108), .unset] [(.int i3), (.int (115 : Int32)), (.int i2), (.int i1), (.ref a108), (.ref a109), (.ref a109)])) (fun t k => XS.iloadN C109.here C109.hx rfl (C109.dec at_130) rfl k) ?_
            have f110 : Fld Z h109 a109 "com/example/tessera/tessera/Printf$Directive" "flags" "Ljava/lang/String;" .null := D109 (Or.inr (W25 hw)) (ty := (.object "java/lang/String")) (by decide)
            have f111 : Fld Z h109 a109 "com/example/tessera/tessera/Printf$Directive" "width" "I" (.int (0 : Int32)) := D109 (Or.inr (W27 hw)) (ty := .int) (by decide)
            have f112 : Fld Z h109 a109 "com/example/tessera/tessera/Printf$Directive" "precision" "I" (.int (0 : Int32)) := D109 (Or.inr (W29 hw)) (ty := .int) (by decide)
            have f113 : Fld Z h109 a109 "com/example/tessera/tessera/Printf$Directive" "conversion" "C" (.int (0 : Int32)) := D109 (Or.inr (W31 hw)) (ty := .char) (by decide)
            have f114 : Fld Z h109 a109 "com/example/tessera/tessera/Printf$Directive" "end" "I" (.int (0 : Int32)) := D109 (Or.inr (W33 hw)) (ty := .int) (by decide)
            refine C109.special (y := (⟨"com/example/tessera/tessera/Printf$Directive", "<init>", "(Ljava/lang/String;IICI)V"⟩ : MethodName)) (W := 1) (a := a109) (argsL := [(.ref a108), (.int i1), (.int i2), (.int (115 : Int32)), (.int i3)]) (rest := [(.ref a109)]) rfl (W13 hw) (W14 hw) (W15 hw) (W12 hw) (by decide) (rm_Dir l Z a0 EL G a109 (.ref a108) rfl i1 i2 (115 : Int32) rfl rfl i3 h109 C109.old E109 f110 f111 f112 f113 f114 zg109) rfl all0 (by decide) (by decide) (by decide) (by decide) (lenOf pd_3 rfl) rfl (Nat.le_of_ble_eq_true rfl) rfl at_131 (pc' := 134) rfl ?_
            intro vm115 T115 h115 v115 C115 A115 q115
            obtain ⟨rfl, K115, E115, F115_0, F115_1, F115_2, F115_3, F115_4⟩ := q115
            show Endw p e below T115 (mkF m 134 #[.val (.int i0), .val (.int i1), .val (.int i2), .val (.int i3), .val (.int i4), .val (.int ((i0 &&& (2147483647 : Int32)) % (5 : Int32))), .val (.int (115 : Int32)), .val (.int (0 : Int32)), .val (.ref a105), .val (.ref a108), .unset] [(.ref a109)]) _
            refine Endw.st (T' := T115) (g' := (mkF m 136 #[.val (.int i0), .val (.int i1), .val (.int i2), .val (.int i3), .val (.int i4), .val (.int ((i0 &&& (2147483647 : Int32)) % (5 : Int32))), .val (.int (115 : Int32)), .val (.int (0 : Int32)), .val (.ref a105), .val (.ref a108), .val (.ref a109)] [])) (fun t k => XS.astore C115.here C115.hx rfl (C115.dec at_134) rfl rfl (l' := #[.val (.int i0), .val (.int i1), .val (.int i2), .val (.int i3), .val (.int i4), .val (.int ((i0 &&& (2147483647 : Int32)) % (5 : Int32))), .val (.int (115 : Int32)), .val (.int (0 : Int32)), .val (.ref a105), .val (.ref a108), .val (.ref a109)]) rfl k) ?_
            refine Endw.st (T' := T115) (g' := (mkF m 138 #[.val (.int i0), .val (.int i1), .val (.int i2), .val (.int i3), .val (.int i4), .val (.int ((i0 &&& (2147483647 : Int32)) % (5 : Int32))), .val (.int (115 : Int32)), .val (.int (0 : Int32)), .val (.ref a105), .val (.ref a108), .val (.ref a109)] [(.ref a109)])) (fun t k => XS.aload C115.here C115.hx rfl (C115.dec at_136) rfl rfl k) ?_
            refine C115.virtual (y := (⟨"com/example/tessera/tessera/Printf$Directive", "numeric", "()Z"⟩ : MethodName)) (z := (⟨"com/example/tessera/tessera/Printf$Directive", "numeric", "()Z"⟩ : MethodName)) (W := 0) (a := a109) (argsL := []) (rest := []) (W34 hw) (W35 hw) (fun _ q => notFace_of_selects (args := #[]) (mvT q (W37 hw))) (W37 hw) (W36 hw) (W38 hw) (W12 hw) (by decide) (rm_Num l Z a0 EL G a109 (115 : Int32) h115 C115.old F115_3) rfl E115 all0 (by decide) (by decide) (by decide) (by decide) (lenOf pd_28295a rfl) rfl (Nat.le_of_ble_eq_true rfl) rfl at_138 (pc' := 141) rfl ?_
            intro vm116 T116 h116 v116 C116 A116 q116
            obtain ⟨z116, rfl, q116, rfl⟩ := q116
            obtain rfl : z116 = 0 := q116.elim (fun q => q.2) (fun q => absurd rfl q.1)
            show Endw p e below T116 (mkF m 141 #[.val (.int i0), .val (.int i1), .val (.int i2), .val (.int i3), .val (.int i4), .val (.int ((i0 &&& (2147483647 : Int32)) % (5 : Int32))), .val (.int (115 : Int32)), .val (.int (0 : Int32)), .val (.ref a105), .val (.ref a108), .val (.ref a109)] [(.int (0 : Int32))]) _
            refine Endw.st (T' := T116) (g' := (mkF m 143 #[.val (.int i0), .val (.int i1), .val (.int i2), .val (.int i3), .val (.int i4), .val (.int ((i0 &&& (2147483647 : Int32)) % (5 : Int32))), .val (.int (115 : Int32)), .val (.int (0 : Int32)), .val (.ref a105), .val (.ref a108), .val (.ref a109)] [(.int (0 : Int32)), (.int (0 : Int32))])) (fun t k => XS.iload C116.here C116.hx rfl (C116.dec at_141) rfl k) ?_
            refine Endw.st (T' := T116) (g' := (mkF m 146 #[.val (.int i0), .val (.int i1), .val (.int i2), .val (.int i3), .val (.int i4), .val (.int ((i0 &&& (2147483647 : Int32)) % (5 : Int32))), .val (.int (115 : Int32)), .val (.int (0 : Int32)), .val (.ref a105), .val (.ref a108), .val (.ref a109)] [])) (fun t k => XS.icmpNo C116.here C116.hx rfl (C116.dec at_143) rfl (XT.ii_ne_f (by decide)) k) ?_
            refine Endw.st (T' := T116) (g' := (mkF m 147 #[.val (.int i0), .val (.int i1), .val (.int i2), .val (.int i3), .val (.int i4), .val (.int ((i0 &&& (2147483647 : Int32)) % (5 : Int32))), .val (.int (115 : Int32)), .val (.int (0 : Int32)), .val (.ref a105), .val (.ref a108), .val (.ref a109)] [(.int (1 : Int32))])) (fun t k => XS.iconst C116.here C116.hx rfl (C116.dec at_146) k) ?_
            refine Endw.st (T' := T116) (g' := (mkF m 151 #[.val (.int i0), .val (.int i1), .val (.int i2), .val (.int i3), .val (.int i4), .val (.int ((i0 &&& (2147483647 : Int32)) % (5 : Int32))), .val (.int (115 : Int32)), .val (.int (0 : Int32)), .val (.ref a105), .val (.ref a108), .val (.ref a109)] [(.int (1 : Int32))])) (fun t k => XS.goto C116.here C116.hx rfl (pc0 := 147) rfl (C116.dec at_147) (by decide) rfl k) ?_
            exact C116.retI (t := .boolean) rfl (by simp) rfl at_151 (by decide) (by decide) rfl
          · refine Endw.st (T' := T106) (g' := (mkF m 104 #[.val (.int i0), .val (.int i1), .val (.int i2), .val (.int i3), .val (.int i4), .val (.int ((i0 &&& (2147483647 : Int32)) % (5 : Int32))), .val (.int (115 : Int32)), .val (.int (0 : Int32)), .val (.ref a105), .unset, .unset] [])) (fun t k => XS.ifNo C106.here C106.hx rfl (C106.dec at_101) rfl (XT.i0_eq_f c107) k) ?_
            refine C106.new (W39 hw) (W4 hw) (W3 hw) at_104 (pc' := 107) rfl (by decide) (by decide) ?_
            intro T117 h117 a117 C117 K117 A117 ge117 zg117 E117 D117 S117
            show Endw p e below T117 (mkF m 107 #[.val (.int i0), .val (.int i1), .val (.int i2), .val (.int i3), .val (.int i4), .val (.int ((i0 &&& (2147483647 : Int32)) % (5 : Int32))), .val (.int (115 : Int32)), .val (.int (0 : Int32)), .val (.ref a105), .unset, .unset] [(.ref a117)]) _
            refine Endw.st (T' := T117) (g' := (mkF m 108 #[.val (.int i0), .val (.int i1), .val (.int i2), .val (.int i3), .val (.int i4), .val (.int ((i0 &&& (2147483647 : Int32)) % (5 : Int32))), .val (.int (115 : Int32)), .val (.int (0 : Int32)), .val (.ref a105), .unset, .unset] [(.ref a117), (.ref a117)])) (fun t k => XS.dup C117.here C117.hx rfl (C117.dec at_107) rfl rfl k) ?_
            refine Endw.st (T' := T117) (g' := (mkF m 110 #[.val (.int i0), .val (.int i1), .val (.int i2), .val (.int i3), .val (.int i4), .val (.int ((i0 &&& (2147483647 : Int32)) % (5 : Int32))), .val (.int (115 : Int32)), .val (.int (0 : Int32)), .val (.ref a105), .unset, .unset] [(.ref a105), (.ref a117), (.ref a117)])) (fun t k => XS.aload C117.here C117.hx rfl (C117.dec at_108) rfl rfl k) ?_
            have f118 := (V106.keep K117 nin0)
            have f119 : Fld Z h117 a117 "java/lang/String" "value" "[B" .null := D117 (Or.inr (W6 hw)) (ty := (.array .byte)) (by decide)
            have f120 : Fld Z h117 a117 "java/lang/String" "coder" "B" (.int (0 : Int32)) := D117 (Or.inr (W7 hw)) (ty := .byte) (by decide)
            have hp121 : ∀ c ∈ [(i4 &&& (255 : Int32))], B8 c := (own_cS (own_mask255 _) own_c0)
            refine C117.specialF (y := (⟨"java/lang/String", "<init>", "([C)V"⟩ : MethodName)) (ws := [a117]) (W := 1) (a := a117) (argsL := [.ref a105]) (rest := [(.ref a117)]) (ck := 1) (cn := 1) rfl (W40 hw) (W41 hw) (W42 hw) (by decide) (StrChars.Road.backV (W := 1) (n := 1) (n0 := Z.heap.size) (cs := [(i4 &&& (255 : Int32))]) (bs := [(i4 &&& (255 : Int32)).toInt8.toInt32]) C117.warm G.w_backV (kI := 4) (W4 hw) zg117 C117.le E117 f119 f120 f118 (Sc.ext C117.old) hzc rfl rfl (by decide) (by decide) hp121 rfl (by decide) (by decide)) (fun _ _ _ q => ⟨q.2.1, q.2.2.1⟩) (allS zg117 all0) (sfS S117 sf0) rfl (by decide) (by decide) (lenOf pd_285b432956 rfl) rfl (Nat.le_of_ble_eq_true rfl) rfl at_110 (pc' := 113) rfl ?_
            intro T121 h121 v121 C121 K121 A121 q121
            obtain ⟨_, rfl, -, -, E121, F121, t121, kb121, zg121, ge121, nt121, f121, V121⟩ := q121
            have Z121 : Str Z h121 a117 t121 kb121 [(i4 &&& (255 : Int32))] := ⟨E121, F121, f121, V121, hp121, Nat.le_of_ble_eq_true rfl⟩
            show Endw p e below T121 (mkF m 113 #[.val (.int i0), .val (.int i1), .val (.int i2), .val (.int i3), .val (.int i4), .val (.int ((i0 &&& (2147483647 : Int32)) % (5 : Int32))), .val (.int (115 : Int32)), .val (.int (0 : Int32)), .val (.ref a105), .unset, .unset] [(.ref a117)]) _
            refine Endw.st (T' := T121) (g' := (mkF m 118 #[.val (.int i0), .val (.int i1), .val (.int i2), .val (.int i3), .val (.int i4), .val (.int ((i0 &&& (2147483647 : Int32)) % (5 : Int32))), .val (.int (115 : Int32)), .val (.int (0 : Int32)), .val (.ref a105), .unset, .unset] [(.ref a117)])) (fun t k => XS.goto C121.here C121.hx rfl (pc0 := 113) rfl (C121.dec at_113) (by decide) rfl k) ?_
            refine Endw.st (T' := T121) (g' := (mkF m 120 #[.val (.int i0), .val (.int i1), .val (.int i2), .val (.int i3), .val (.int i4), .val (.int ((i0 &&& (2147483647 : Int32)) % (5 : Int32))), .val (.int (115 : Int32)), .val (.int (0 : Int32)), .val (.ref a105), .val (.ref a117), .unset] [])) (fun t k => XS.astore C121.here C121.hx rfl (C121.dec at_118) rfl rfl (l' := #[.val (.int i0), .val (.int i1), .val (.int i2), .val (.int i3), .val (.int i4), .val (.int ((i0 &&& (2147483647 : Int32)) % (5 : Int32))), .val (.int (115 : Int32)), .val (.int (0 : Int32)), .val (.ref a105), .val (.ref a117), .unset]) rfl k) ?_
            refine C121.new (W10 hw) (W11 hw) (W12 hw) at_120 (pc' := 123) rfl (by decide) (by decide) ?_
            intro T122 h122 a122 C122 K122 A122 ge122 zg122 E122 D122 S122
            show Endw p e below T122 (mkF m 123 #[.val (.int i0), .val (.int i1), .val (.int i2), .val (.int i3), .val (.int i4), .val (.int ((i0 &&& (2147483647 : Int32)) % (5 : Int32))), .val (.int (115 : Int32)), .val (.int (0 : Int32)), .val (.ref a105), .val (.ref a117), .unset] [(.ref a122)]) _
            refine Endw.st (T' := T122) (g' := (mkF m 124 #[.val (.int i0), .val (.int i1), .val (.int i2), .val (.int i3), .val (.int i4), .val (.int ((i0 &&& (2147483647 : Int32)) % (5 : Int32))), .val (.int (115 : Int32)), .val (.int (0 : Int32)), .val (.ref a105), .val (.ref a117), .unset] [(.ref a122), (.ref a122)])) (fun t k => XS.dup C122.here C122.hx rfl (C122.dec at_123) rfl rfl k) ?_
            refine Endw.st (T' := T122) (g' := (mkF m 126 #[.val (.int i0), .val (.int i1), .val (.int i2), .val (.int i3), .val (.int i4), .val (.int ((i0 &&& (2147483647 : Int32)) % (5 : Int32))), .val (.int (115 : Int32)), .val (.int (0 : Int32)), .val (.ref a105), .val (.ref a117), .unset] [(.ref a117), (.ref a122), (.ref a122)])) (fun t k => XS.aload C122.here C122.hx rfl (C122.dec at_124) rfl rfl k) ?_
            refine Endw.st (T' := T122) (g' := (mkF m 127 #[.val (.int i0), .val (.int i1), .val (.int i2), .val (.int i3), .val (.int i4), .val (.int ((i0 &&& (2147483647 : Int32)) % (5 : Int32))), .val (.int (115 : Int32)), .val (.int (0 : Int32)), .val (.ref a105), .val (.ref a117), .unset] [(.int i1), (.ref a117), (.ref a122), (.ref a122)])) (fun t k => XS.iloadN C122.here C122.hx rfl (C122.dec at_126) rfl k) ?_
            refine Endw.st (T' := T122) (g' := (mkF m 128 #[.val (.int i0), .val (.int i1), .val (.int i2), .val (.int i3), .val (.int i4), .val (.int ((i0 &&& (2147483647 : Int32)) % (5 : Int32))), .val (.int (115 : Int32)), .val (.int (0 : Int32)), .val (.ref a105), .val (.ref a117), .unset] [(.int i2), (.int i1), (.ref a117), (.ref a122), (.ref a122)])) (fun t k => XS.iloadN C122.here C122.hx rfl (C122.dec at_127) rfl k) ?_
            refine Endw.st (T' := T122) (g' := (mkF m 130 #[.val (.int i0), .val (.int i1), .val (.int i2), .val (.int i3), .val (.int i4), .val (.int ((i0 &&& (2147483647 : Int32)) % (5 : Int32))), .val (.int (115 : Int32)), .val (.int (0 : Int32)), .val (.ref a105), .val (.ref a117), .unset] [(.int (115 : Int32)), (.int i2), (.int i1), (.ref a117), (.ref a122), (.ref a122)])) (fun t k => XS.iload C122.here C122.hx rfl (C122.dec at_128) rfl k) ?_
            refine Endw.st (T' := T122) (g' := (mkF m 131 #[.val (.int i0), .val (.int i1), .val (.int i2), .val (.int i3), .val (.int i4), .val (.int ((i0 &&& (2147483647 : Int32)) % (5 : Int32))), .val (.int (115 : Int32)), .val (.int (0 : Int32)), .val (.ref a105), .val (.ref a117), .unset] [(.int i3), (.int (115 : Int32)), (.int i2), (.int i1), (.ref a117), (.ref a122), (.ref a122)])) (fun t k => XS.iloadN C122.here C122.hx rfl (C122.dec at_130) rfl k) ?_
            have f123 : Fld Z h122 a122 "com/example/tessera/tessera/Printf$Directive" "flags" "Ljava/lang/String;" .null := D122 (Or.inr (W25 hw)) (ty := (.object "java/lang/String")) (by decide)
            have f124 : Fld Z h122 a122 "com/example/tessera/tessera/Printf$Directive" "width" "I" (.int (0 : Int32)) := D122 (Or.inr (W27 hw)) (ty := .int) (by decide)
            have f125 : Fld Z h122 a122 "com/example/tessera/tessera/Printf$Directive" "precision" "I" (.int (0 : Int32)) := D122 (Or.inr (W29 hw)) (ty := .int) (by decide)
            have f126 : Fld Z h122 a122 "com/example/tessera/tessera/Printf$Directive" "conversion" "C" (.int (0 : Int32)) := D122 (Or.inr (W31 hw)) (ty := .char) (by decide)
            have f127 : Fld Z h122 a122 "com/example/tessera/tessera/Printf$Directive" "end" "I" (.int (0 : Int32)) := D122 (Or.inr (W33 hw)) (ty := .int) (by decide)
            refine C122.special (y := (⟨"com/example/tessera/tessera/Printf$Directive", "<init>", "(Ljava/lang/String;IICI)V"⟩ : MethodName)) (W := 1) (a := a122) (argsL := [(.ref a117), (.int i1), (.int i2), (.int (115 : Int32)), (.int i3)]) (rest := [(.ref a122)]) rfl (W13 hw) (W14 hw) (W15 hw) (W12 hw) (by decide) (rm_Dir l Z a0 EL G a122 (.ref a117) rfl i1 i2 (115 : Int32) rfl rfl i3 h122 C122.old E122 f123 f124 f125 f126 f127 zg122) rfl all0 (by decide) (by decide) (by decide) (by decide) (lenOf pd_3 rfl) rfl (Nat.le_of_ble_eq_true rfl) rfl at_131 (pc' := 134) rfl ?_
            intro vm128 T128 h128 v128 C128 A128 q128
            obtain ⟨rfl, K128, E128, F128_0, F128_1, F128_2, F128_3, F128_4⟩ := q128
            show Endw p e below T128 (mkF m 134 #[.val (.int i0), .val (.int i1), .val (.int i2), .val (.int i3), .val (.int i4), .val (.int ((i0 &&& (2147483647 : Int32)) % (5 : Int32))), .val (.int (115 : Int32)), .val (.int (0 : Int32)), .val (.ref a105), .val (.ref a117), .unset] [(.ref a122)]) _
            refine Endw.st (T' := T128) (g' := (mkF m 136 #[.val (.int i0), .val (.int i1), .val (.int i2), .val (.int i3), .val (.int i4), .val (.int ((i0 &&& (2147483647 : Int32)) % (5 : Int32))), .val (.int (115 : Int32)), .val (.int (0 : Int32)), .val (.ref a105), .val (.ref a117), .val (.ref a122)] [])) (fun t k => XS.astore C128.here C128.hx rfl (C128.dec at_134) rfl rfl (l' := #[.val (.int i0), .val (.int i1), .val (.int i2), .val (.int i3), .val (.int i4), .val (.int ((i0 &&& (2147483647 : Int32)) % (5 : Int32))), .val (.int (115 : Int32)), .val (.int (0 : Int32)), .val (.ref a105), .val (.ref a117), .val (.ref a122)]) rfl k) ?_
            refine Endw.st (T' := T128) (g' := (mkF m 138 #[.val (.int i0), .val (.int i1), .val (.int i2), .val (.int i3), .val (.int i4), .val (.int ((i0 &&& (2147483647 : Int32)) % (5 : Int32))), .val (.int (115 : Int32)), .val (.int (0 : Int32)), .val (.ref a105), .val (.ref a117), .val (.ref a122)] [(.ref a122)])) (fun t k => XS.aload C128.here C128.hx rfl (C128.dec at_136) rfl rfl k) ?_
            refine C128.virtual (y := (⟨"com/example/tessera/tessera/Printf$Directive", "numeric", "()Z"⟩ : MethodName)) (z := (⟨"com/example/tessera/tessera/Printf$Directive", "numeric", "()Z"⟩ : MethodName)) (W := 0) (a := a122) (argsL := []) (rest := []) (W34 hw) (W35 hw) (fun _ q => notFace_of_selects (args := #[]) (mvT q (W37 hw))) (W37 hw) (W36 hw) (W38 hw) (W12 hw) (by decide) (rm_Num l Z a0 EL G a122 (115 : Int32) h128 C128.old F128_3) rfl E128 all0 (by decide) (by decide) (by decide) (by decide) (lenOf pd_28295a rfl) rfl (Nat.le_of_ble_eq_true rfl) rfl at_138 (pc' := 141) rfl ?_
            intro vm129 T129 h129 v129 C129 A129 q129
            obtain ⟨z129, rfl, q129, rfl⟩ := q129
            obtain rfl : z129 = 0 := q129.elim (fun q => q.2) (fun q => absurd rfl q.1)
            show Endw p e below T129 (mkF m 141 #[.val (.int i0), .val (.int i1), .val (.int i2), .val (.int i3), .val (.int i4), .val (.int ((i0 &&& (2147483647 : Int32)) % (5 : Int32))), .val (.int (115 : Int32)), .val (.int (0 : Int32)), .val (.ref a105), .val (.ref a117), .val (.ref a122)] [(.int (0 : Int32))]) _
            refine Endw.st (T' := T129) (g' := (mkF m 143 #[.val (.int i0), .val (.int i1), .val (.int i2), .val (.int i3), .val (.int i4), .val (.int ((i0 &&& (2147483647 : Int32)) % (5 : Int32))), .val (.int (115 : Int32)), .val (.int (0 : Int32)), .val (.ref a105), .val (.ref a117), .val (.ref a122)] [(.int (0 : Int32)), (.int (0 : Int32))])) (fun t k => XS.iload C129.here C129.hx rfl (C129.dec at_141) rfl k) ?_
            refine Endw.st (T' := T129) (g' := (mkF m 146 #[.val (.int i0), .val (.int i1), .val (.int i2), .val (.int i3), .val (.int i4), .val (.int ((i0 &&& (2147483647 : Int32)) % (5 : Int32))), .val (.int (115 : Int32)), .val (.int (0 : Int32)), .val (.ref a105), .val (.ref a117), .val (.ref a122)] [])) (fun t k => XS.icmpNo C129.here C129.hx rfl (C129.dec at_143) rfl (XT.ii_ne_f (by decide)) k) ?_
            refine Endw.st (T' := T129) (g' := (mkF m 147 #[.val (.int i0), .val (.int i1), .val (.int i2), .val (.int i3), .val (.int i4), .val (.int ((i0 &&& (2147483647 : Int32)) % (5 : Int32))), .val (.int (115 : Int32)), .val (.int (0 : Int32)), .val (.ref a105), .val (.ref a117), .val (.ref a122)] [(.int (1 : Int32))])) (fun t k => XS.iconst C129.here C129.hx rfl (C129.dec at_146) k) ?_
            refine Endw.st (T' := T129) (g' := (mkF m 151 #[.val (.int i0), .val (.int i1), .val (.int i2), .val (.int i3), .val (.int i4), .val (.int ((i0 &&& (2147483647 : Int32)) % (5 : Int32))), .val (.int (115 : Int32)), .val (.int (0 : Int32)), .val (.ref a105), .val (.ref a117), .val (.ref a122)] [(.int (1 : Int32))])) (fun t k => XS.goto C129.here C129.hx rfl (pc0 := 147) rfl (C129.dec at_147) (by decide) rfl k) ?_
            exact C129.retI (t := .boolean) rfl (by simp) rfl at_151 (by decide) (by decide) rfl
set_option maxRecDepth 65536 in
set_option maxHeartbeats 40000000 in
theorem comes_1 {Post : Tables → Env → Array Value → State → Outcome → State → Prop} (hpost : ∀ tb e args s v u, (limb_1_1.after args s (.returned v) u = true ∧ limb_1_2.after args s (.returned v) u = true ∧ True) → FramedW s (.returned v) u (Jvm.fieldLocs frame_1_writes args s ++ Jvm.arrayLocs frame_1_arrays args s ++ Jvm.staticLocs frame_1_statics s) 24 1152 → Post tb e args s (.returned v) u) :
    ArmFor flags0 classFile x code maxLocals ret World_1 tables_1 room_1 Calls_1 rest_1 Pre_1 Post := by
  intro l hfl _ _ p e ha hc hk s m args below hf hA hF happ hP
  obtain ⟨hcalls, hrest, hpre⟩ := hP
  obtain ⟨-, -, -, hnamed, -, -, -, hat⟩ := (Spec.applies_iff hf).mp happ
  obtain ⟨hg, hn⟩ := and_e (Cond.before_iff.mp (show (Jvm.Cond.and given_1 narrow_1).before args s = true from hpre))
  obtain ⟨h1, g0⟩ := and_e hg
  obtain ⟨a0, g1⟩ := and_e g0
  obtain ⟨a1, g2⟩ := and_e g1
  obtain ⟨a2, g3⟩ := and_e g2
  obtain ⟨a3, g4⟩ := and_e g3
  have a4 := g4
  obtain ⟨w0, w1, w2, w3, w4, rfl⟩ : ∃ w0 w1 w2 w3 w4 : Value, args = #[w0, w1, w2, w3, w4] := by
    have hs : args.size = 5 := by simpa [Cond.value, given_1] using h1
    obtain ⟨L⟩ := args
    match L, hs with
    | [w0, w1, w2, w3, w4], _ => exact ⟨w0, w1, w2, w3, w4, rfl⟩
  have hw := fun d (hd : d ∈ tables_1) => atoms_spec (ws := Jvm.Cond.code x code maxLocals ret :: tables_1) hat d (List.mem_cons_of_mem _ hd)
  obtain ⟨hsets, hown0⟩ := atoms_of _ (rest_1_c_eq ▸ (show rest_1_c.before _ s = true from hrest))
  obtain ⟨i0, e0⟩ := is_v a0
  obtain rfl : w0 = (.int i0) := Option.some.inj e0
  obtain ⟨i1, e1⟩ := is_v a1
  obtain rfl : w1 = (.int i1) := Option.some.inj e1
  obtain ⟨i2, e2⟩ := is_v a2
  obtain rfl : w2 = (.int i2) := Option.some.inj e2
  obtain ⟨i3, e3⟩ := is_v a3
  obtain rfl : w3 = (.int i3) := Option.some.inj e3
  obtain ⟨i4, e4⟩ := is_v a4
  obtain rfl : w4 = (.int i4) := Option.some.inj e4
  have n5 := not_v (Cond.before_iff.mp (hsets _ (List.mem_of_getElem? (i := 2) rfl)))
  obtain ⟨zc, ec⟩ := is_v (Cond.before_iff.mp (hsets _ (List.mem_of_getElem? (i := 1) rfl)))
  have Sc : Sta s s.heap "java/lang/String" "COMPACT_STRINGS" "Z" (.int zc) := Sta.start ec (Or.inl (hsets _ (List.mem_of_getElem? (i := 0) rfl)))
  have hzc : ¬ (zc = (0 : Int32)) := gotF (Cond.eq_ints ec (Term.int_eval (0))) n5
  obtain ⟨vf, ef, rf⟩ := isR_v (Cond.before_iff.mp (hsets _ (List.mem_of_getElem? (i := 8) rfl)))
  have Sf : Sta s s.heap "jdk/internal/util/Preconditions" "SIOOBE_FORMATTER" "Ljava/util/function/BiFunction;" vf := Sta.start ef (Or.inl (hsets _ (List.mem_of_getElem? (i := 7) rfl)))
  have hEW : EW s #[(.int i0), (.int i1), (.int i2), (.int i3), (.int i4)] [] := EW.nil
  have hG : Glob s #[(.int i0), (.int i1), (.int i2), (.int i3), (.int i4)] [] := ⟨hw, hEW, rfl, ⟨zc, Sc, hzc⟩, ⟨vf, Sf, rf⟩⟩
  have hCH : CHv s [] s.vm s.heap := fun p hp => by cases hp
  obtain ⟨n, o, h1, h2, h3, v, L, rfl, ⟨rfl, N, -⟩, ⟨-, hwm⟩, hq⟩ := rm_law l s _ [] hG i0 i1 i2 i3 i4 s.heap ⟨Nat.le_refl _, fun _ _ q => q⟩ p e ha hc hk s m _ below hf ((Spec.applies_iff_loose hf).mp happ).1 ⟨rfl, State.Warmed39.refl s, rfl, hCH, all0⟩ trivial
  refine ⟨n, _, h1, h2, h3, hpost _ _ _ _ _ _ ⟨Cond.after_iff.mpr rfl, Cond.after_iff.mpr (eq_i res_at (Term.int_eval (1)) rfl), trivial⟩ ⟨hq.1, hq.2.1, hq.2.2.1, (hq.2.2.2.sift fun y hy => Or.inr (N y hy)).mono (by decide) (by decide)⟩⟩
theorem main_1_1 : Claimed_1_1 := comes_1 fun _ _ _ _ _ _ h hF => ⟨h.1, hF⟩
theorem main_1_2 : Claimed_1_2 := comes_1 fun _ _ _ _ _ _ h hF => ⟨h.2.1, hF⟩
end Jvm.Pilot.@@N@@
namespace Jvm.Pilot.@@N@@
open Jvm Jvm.ClassFile Sem Op Lib Jvm.Free Jvm.Stand Jvm.Pilot.@@N@@.Jvm.D
/-! MADE BY PROGRAM (witnessworld.py) out of the Statement's table words and the real class files: 21 classes; the members and pool entries that the words name. The judged class is class 1, her method 1. -/
namespace start1
open Jvm.ClassFile
def u (s : String) : CpInfo := .utf8 (stringToUtf16 s)
/-- a pool by its gaps: so many unusable entries, then the entry; so many at the end -/
def gap : Nat → List CpInfo → List CpInfo
  | 0, r => r
  | n + 1, r => .unusable :: gap n r
def poolList (es : List (Nat × CpInfo)) (last : Nat) : List CpInfo := es.foldr (fun e r => gap e.1 (e.2 :: r)) (gap last [])
def pool (es : List (Nat × CpInfo)) (last : Nat) : Array CpInfo := ⟨poolList es last⟩
def fileOf (pool : Array CpInfo) (this : Nat) (attrs : Array Attribute := #[]) (ms : Array MethodInfo := #[]) (fl : Nat := 33) (sup : Nat := 0) (ifs : Array Nat := #[]) (fds : Array FieldInfo := #[]) : ClassFile where
  minorVersion := 0
  majorVersion := 65
  constantPool := pool
  accessFlags := fl
  thisClass := this
  superClass := sup
  interfaces := ifs
  fields := fds
  methods := ms
  attributes := attrs
def plain (name : String) (sup : Option ClassId) : Class where
  name := name
  kind := .ordinary
  loader := none
  accessFlags := 33
  super := sup
  interfaces := #[]
  cf := none
  fields := #[]
  methods := #[]
  instanceTypes := #[]
  staticTypes := #[]
  resolved := #[]
  callSites := []
  init := .initialized
  statics := none
  mirror := none

def pool0 : Array CpInfo := pool [(5, u "<init>"), (0, u "()V"), (1, .class_ 10), (1, u "java/lang/Object")] 113

def k0c0 : Code := { maxStack := 0, maxLocals := 1, code := object_method_1_code, exceptionTable := #[], attributes := #[] }
def k0m0 : Method := { name := "<init>", desc := "()V", sig := { parameters := [], returnType := none }, accessFlags := 1, code := some k0c0 }
/-- java/lang/Object -/
def k0 : Class := { plain "java/lang/Object" none with
  accessFlags := 33
  interfaces := #[]
  cf := some (fileOf pool0 8 #[] #[{ accessFlags := 1, nameIndex := 5, descriptorIndex := 6, attributes := #[] }] 33 0 #[] #[])
  fields := #[]
  methods := #[k0m0]
  instanceTypes := #[]
  staticTypes := #[]
  resolved := Array.replicate 124 none
  statics := none }

def pool1 : Array CpInfo := pool [(2, .class_ 4), (1, u "java/lang/Object"), (0, u "<init>"), (0, u "()V"), (0, .integer 2147483647), (0, .class_ 9), (0, u "java/lang/String"), (0, .methodref 8 11), (0, .nameAndType 5 12), (0, u "([C)V"), (0, .string 14), (0, u ""), (0, .class_ 16), (0, u "com/example/tessera/tessera/Printf$Directive"), (0, .methodref 15 18), (0, .nameAndType 5 19), (0, u "(Ljava/lang/String;IICI)V"), (0, .methodref 15 21), (0, .nameAndType 22 23), (0, u "numeric"), (0, u "()Z"), (0, .class_ 25), (0, u "com/example/tessera/tessera/DirectiveNumericPinLaw"), (2, u "law"), (0, u "(IIIII)Z")] 9

def k1m0 : Method := { name := "<init>", desc := "()V", sig := { parameters := [], returnType := none }, accessFlags := 1, code := none }
def k1c1 : Code := { maxStack := 7, maxLocals := 11, code := code, exceptionTable := #[], attributes := #[] }
def k1m1 : Method := { name := "law", desc := "(IIIII)Z", sig := { parameters := [.int, .int, .int, .int, .int], returnType := some .boolean }, accessFlags := 9, code := some k1c1 }
/-- com/example/tessera/tessera/DirectiveNumericPinLaw -/
def k1 : Class := { plain "com/example/tessera/tessera/DirectiveNumericPinLaw" (some 0) with
  accessFlags := 49
  interfaces := #[]
  cf := some (fileOf pool1 24 #[] #[{ accessFlags := 1, nameIndex := 5, descriptorIndex := 6, attributes := #[] }, { accessFlags := 9, nameIndex := 28, descriptorIndex := 29, attributes := #[] }] 49 2 #[] #[])
  fields := #[]
  methods := #[k1m0, k1m1]
  instanceTypes := #[]
  staticTypes := #[]
  resolved := Array.replicate 39 none
  statics := none }

def pool2 : Array CpInfo := pool [(1, .class_ 2), (0, u "java/io/Serializable"), (0, .class_ 4), (0, u "java/lang/Object")] 2

/-- java/io/Serializable -/
def k2 : Class := { plain "java/io/Serializable" (some 0) with
  accessFlags := 1537
  interfaces := #[]
  cf := some (fileOf pool2 1 #[] #[] 1537 3 #[] #[])
  fields := #[]
  methods := #[]
  instanceTypes := #[]
  staticTypes := #[]
  resolved := Array.replicate 7 none
  statics := none }

def pool3 : Array CpInfo := pool [(1, .class_ 2), (0, u "java/lang/Comparable"), (0, .class_ 4), (0, u "java/lang/Object")] 7

/-- java/lang/Comparable -/
def k3 : Class := { plain "java/lang/Comparable" (some 0) with
  accessFlags := 1537
  interfaces := #[]
  cf := some (fileOf pool3 1 #[] #[] 1537 3 #[] #[])
  fields := #[]
  methods := #[]
  instanceTypes := #[]
  staticTypes := #[]
  resolved := Array.replicate 12 none
  statics := none }

def pool4 : Array CpInfo := pool [(2, .class_ 4), (1, u "java/lang/CharSequence"), (42, .class_ 48), (0, u "java/lang/CharSequence$1CodePointIterator"), (10, .class_ 60), (0, u "java/lang/CharSequence$1CharIterator"), (5, .class_ 67), (0, u "java/lang/Object")] 63

/-- java/lang/CharSequence -/
def k4 : Class := { plain "java/lang/CharSequence" (some 0) with
  accessFlags := 1537
  interfaces := #[]
  cf := some (fileOf pool4 2 #[.nestMembers #[47, 59]] #[] 1537 66 #[] #[])
  fields := #[]
  methods := #[]
  instanceTypes := #[]
  staticTypes := #[]
  resolved := Array.replicate 131 none
  statics := none }

def pool5 : Array CpInfo := pool [(1, .class_ 2), (0, u "java/lang/constant/Constable"), (0, .class_ 4), (0, u "java/lang/Object")] 6

/-- java/lang/constant/Constable -/
def k5 : Class := { plain "java/lang/constant/Constable" (some 0) with
  accessFlags := 1537
  interfaces := #[]
  cf := some (fileOf pool5 1 #[] #[] 1537 3 #[] #[])
  fields := #[]
  methods := #[]
  instanceTypes := #[]
  staticTypes := #[]
  resolved := Array.replicate 11 none
  statics := none }

def pool6 : Array CpInfo := pool [(1, .class_ 2), (0, u "java/lang/constant/ConstantDesc"), (0, .class_ 4), (0, u "java/lang/Object")] 32

/-- java/lang/constant/ConstantDesc -/
def k6 : Class := { plain "java/lang/constant/ConstantDesc" (some 0) with
  accessFlags := 1537
  interfaces := #[]
  cf := some (fileOf pool6 1 #[] #[] 1537 3 #[] #[])
  fields := #[]
  methods := #[]
  instanceTypes := #[]
  staticTypes := #[]
  resolved := Array.replicate 37 none
  statics := none }

def pool7 : Array CpInfo := pool [(1, .methodref 2 3), (0, .class_ 4), (0, .nameAndType 5 6), (0, u "java/lang/Object"), (0, u "<init>"), (0, u "()V"), (2, .fieldref 10 11), (0, .class_ 12), (0, .nameAndType 13 14), (0, u "java/lang/String"), (0, u "value"), (0, u "[B"), (0, .fieldref 10 16), (0, .nameAndType 17 18), (0, u "coder"), (0, u "B"), (2, u "hash"), (0, u "I"), (2, u "hashIsZero"), (0, u "Z"), (0, .methodref 10 28), (0, .nameAndType 5 29), (0, u "([CIILjava/lang/Void;)V"), (8, .fieldref 10 39), (0, .nameAndType 40 26), (0, u "COMPACT_STRINGS"), (1, .class_ 44), (1, u "java/lang/StringUTF16"), (0, u "compress"), (1, .methodref 42 48), (0, .nameAndType 49 50), (0, u "coderFromArrayLen"), (0, u "([BI)B"), (126, .methodref 42 178), (0, .nameAndType 45 179), (0, u "([CII)[B"), (395, .class_ 576), (0, u "java/lang/CharSequence"), (22, u "CASE_INSENSITIVE_ORDER"), (0, u "Ljava/util/Comparator;"), (409, u "([C)V"), (90, u "serialPersistentFields"), (0, u "[Ljava/io/ObjectStreamField;"), (0, .class_ 1104), (0, u "java/lang/String$CaseInsensitiveComparator"), (1, .class_ 1107), (0, u "java/io/Serializable"), (0, .class_ 1109), (0, u "java/lang/Comparable"), (0, .class_ 1111), (0, u "java/lang/constant/Constable"), (0, .class_ 1113), (0, u "java/lang/constant/ConstantDesc"), (2, u "serialVersionUID"), (0, u "J"), (3, u "REPL"), (0, u "C"), (2, u "LATIN1"), (1, u "UTF16")] 323

def k7m0 : Method := { name := "<init>", desc := "()V", sig := { parameters := [], returnType := none }, accessFlags := 1, code := none }
def k7c1 : Code := { maxStack := 5, maxLocals := 2, code := jdk_42_method_3_code, exceptionTable := #[], attributes := #[] }
def k7m1 : Method := { name := "<init>", desc := "([C)V", sig := { parameters := [(.array .char)], returnType := none }, accessFlags := 1, code := some k7c1 }
def k7c2 : Code := { maxStack := 4, maxLocals := 6, code := jdk_42_method_149_code, exceptionTable := #[], attributes := #[] }
def k7m2 : Method := { name := "<init>", desc := "([CIILjava/lang/Void;)V", sig := { parameters := [(.array .char), .int, .int, (.object "java/lang/Void")], returnType := none }, accessFlags := 2, code := some k7c2 }
/-- java/lang/String -/
def k7 : Class := { plain "java/lang/String" (some 0) with
  accessFlags := 49
  interfaces := #[2, 3, 4, 5, 6]
  cf := some (fileOf pool7 10 #[.nestMembers #[1103]] #[{ accessFlags := 1, nameIndex := 5, descriptorIndex := 6, attributes := #[] }, { accessFlags := 1, nameIndex := 5, descriptorIndex := 1010, attributes := #[] }, { accessFlags := 2, nameIndex := 5, descriptorIndex := 29, attributes := #[] }] 49 2 #[1106, 1108, 575, 1110, 1112] #[{ accessFlags := 18, nameIndex := 13, descriptorIndex := 14, attributes := #[] }, { accessFlags := 18, nameIndex := 17, descriptorIndex := 18, attributes := #[] }, { accessFlags := 2, nameIndex := 21, descriptorIndex := 22, attributes := #[] }, { accessFlags := 2, nameIndex := 25, descriptorIndex := 26, attributes := #[] }, { accessFlags := 26, nameIndex := 1116, descriptorIndex := 1117, attributes := #[] }, { accessFlags := 24, nameIndex := 40, descriptorIndex := 26, attributes := #[] }, { accessFlags := 26, nameIndex := 1101, descriptorIndex := 1102, attributes := #[] }, { accessFlags := 26, nameIndex := 1121, descriptorIndex := 1122, attributes := #[] }, { accessFlags := 25, nameIndex := 599, descriptorIndex := 600, attributes := #[] }, { accessFlags := 24, nameIndex := 1125, descriptorIndex := 18, attributes := #[] }, { accessFlags := 24, nameIndex := 1127, descriptorIndex := 18, attributes := #[] }])
  fields := #[{ name := "value", type := (.array .byte), accessFlags := 18, slot := 0, constantValue := 0 }, { name := "coder", type := .byte, accessFlags := 18, slot := 1, constantValue := 0 }, { name := "hash", type := .int, accessFlags := 2, slot := 2, constantValue := 0 }, { name := "hashIsZero", type := .boolean, accessFlags := 2, slot := 3, constantValue := 0 }, { name := "serialVersionUID", type := .long, accessFlags := 26, slot := 0, constantValue := 0 }, { name := "COMPACT_STRINGS", type := .boolean, accessFlags := 24, slot := 1, constantValue := 0 }, { name := "serialPersistentFields", type := (.array (.object "java/io/ObjectStreamField")), accessFlags := 26, slot := 2, constantValue := 0 }, { name := "REPL", type := .char, accessFlags := 26, slot := 3, constantValue := 0 }, { name := "CASE_INSENSITIVE_ORDER", type := (.object "java/util/Comparator"), accessFlags := 25, slot := 4, constantValue := 0 }, { name := "LATIN1", type := .byte, accessFlags := 24, slot := 5, constantValue := 0 }, { name := "UTF16", type := .byte, accessFlags := 24, slot := 6, constantValue := 0 }]
  methods := #[k7m0, k7m1, k7m2]
  instanceTypes := #[(.array .byte), .byte, .int, .boolean]
  staticTypes := #[.long, .boolean, (.array (.object "java/io/ObjectStreamField")), .char, (.object "java/util/Comparator"), .byte, .byte]
  resolved := Array.replicate 1451 none
  statics := some 0 }

def pool8 : Array CpInfo := pool [(1, .methodref 2 3), (0, .class_ 4), (0, .nameAndType 5 6), (0, u "java/lang/Object"), (0, u "<init>"), (0, u "()V"), (0, .class_ 8), (0, u "java/lang/Record")] 13

def k8c0 : Code := { maxStack := 1, maxLocals := 1, code := jdk_30_method_1_code, exceptionTable := #[], attributes := #[] }
def k8m0 : Method := { name := "<init>", desc := "()V", sig := { parameters := [], returnType := none }, accessFlags := 4, code := some k8c0 }
/-- java/lang/Record -/
def k8 : Class := { plain "java/lang/Record" (some 0) with
  accessFlags := 1057
  interfaces := #[]
  cf := some (fileOf pool8 7 #[] #[{ accessFlags := 4, nameIndex := 5, descriptorIndex := 6, attributes := #[] }] 1057 2 #[] #[])
  fields := #[]
  methods := #[k8m0]
  instanceTypes := #[]
  staticTypes := #[]
  resolved := Array.replicate 22 none
  statics := none }

def pool9 : Array CpInfo := pool [(1, .class_ 2), (0, u "com/example/tessera/tessera/Printf"), (0, .methodref 4 5), (0, .class_ 6), (0, .nameAndType 7 8), (0, u "java/lang/Record"), (0, u "<init>"), (0, u "()V"), (0, .fieldref 10 11), (0, .class_ 12), (0, .nameAndType 13 14), (0, u "com/example/tessera/tessera/Printf$Directive"), (0, u "flags"), (0, u "Ljava/lang/String;"), (0, .fieldref 10 16), (0, .nameAndType 17 18), (0, u "width"), (0, u "I"), (0, .fieldref 10 20), (0, .nameAndType 21 18), (0, u "precision"), (0, .fieldref 10 23), (0, .nameAndType 24 25), (0, u "conversion"), (0, u "C"), (0, .fieldref 10 27), (0, .nameAndType 28 18), (0, u "end"), (34, u "(Ljava/lang/String;IICI)V"), (66, u "()Z"), (2, u "numeric")] 119

def k9c0 : Code := { maxStack := 2, maxLocals := 6, code := prog_78_method_1_code, exceptionTable := #[], attributes := #[] }
def k9m0 : Method := { name := "<init>", desc := "(Ljava/lang/String;IICI)V", sig := { parameters := [(.object "java/lang/String"), .int, .int, .char, .int], returnType := none }, accessFlags := 0, code := some k9c0 }
def k9c1 : Code := { maxStack := 2, maxLocals := 1, code := prog_78_method_3_code, exceptionTable := #[], attributes := #[] }
def k9m1 : Method := { name := "numeric", desc := "()Z", sig := { parameters := [], returnType := some .boolean }, accessFlags := 0, code := some k9c1 }
/-- com/example/tessera/tessera/Printf$Directive -/
def k9 : Class := { plain "com/example/tessera/tessera/Printf$Directive" (some 8) with
  accessFlags := 48
  interfaces := #[]
  cf := some (fileOf pool9 10 #[.nestHost 1] #[{ accessFlags := 0, nameIndex := 7, descriptorIndex := 63, attributes := #[] }, { accessFlags := 0, nameIndex := 133, descriptorIndex := 130, attributes := #[] }] 48 4 #[] #[{ accessFlags := 18, nameIndex := 13, descriptorIndex := 14, attributes := #[] }, { accessFlags := 18, nameIndex := 17, descriptorIndex := 18, attributes := #[] }, { accessFlags := 18, nameIndex := 21, descriptorIndex := 18, attributes := #[] }, { accessFlags := 18, nameIndex := 24, descriptorIndex := 25, attributes := #[] }, { accessFlags := 18, nameIndex := 28, descriptorIndex := 18, attributes := #[] }])
  fields := #[{ name := "flags", type := (.object "java/lang/String"), accessFlags := 18, slot := 0, constantValue := 0 }, { name := "width", type := .int, accessFlags := 18, slot := 1, constantValue := 0 }, { name := "precision", type := .int, accessFlags := 18, slot := 2, constantValue := 0 }, { name := "conversion", type := .char, accessFlags := 18, slot := 3, constantValue := 0 }, { name := "end", type := .int, accessFlags := 18, slot := 4, constantValue := 0 }]
  methods := #[k9m0, k9m1]
  instanceTypes := #[(.object "java/lang/String"), .int, .int, .char, .int]
  staticTypes := #[]
  resolved := Array.replicate 253 none
  statics := none }

def pool10 : Array CpInfo := pool [(6, .class_ 8), (1, u "java/lang/Object"), (0, u "<init>"), (0, u "()V"), (1, .class_ 14), (1, u "java/lang/StringUTF16"), (31, u "$assertionsDisabled"), (0, u "Z"), (13, u "HI_BYTE_SHIFT"), (0, u "I"), (2, u "LO_BYTE_SHIFT"), (49, .methodref 12 116), (0, .nameAndType 117 118), (0, u "compress"), (0, u "([CI[BII)I"), (3, u "([CII)[B"), (138, u "coderFromArrayLen"), (0, u "([BI)B"), (106, .class_ 371), (1, u "java/lang/StringUTF16$LinesSpliterator"), (58, u "MAX_LENGTH"), (196, .class_ 628), (0, u "java/lang/StringUTF16$CodePointsSpliterator"), (0, .class_ 630), (0, u "java/lang/StringUTF16$CharsSpliterator")] 4

def k10m0 : Method := { name := "<init>", desc := "()V", sig := { parameters := [], returnType := none }, accessFlags := 0, code := none }
def k10c1 : Code := { maxStack := 2, maxLocals := 2, code := jdk_52_method_15_code, exceptionTable := #[], attributes := #[] }
def k10m1 : Method := { name := "coderFromArrayLen", desc := "([BI)B", sig := { parameters := [(.array .byte), .int], returnType := some .byte }, accessFlags := 8, code := some k10c1 }
def k10c2 : Code := { maxStack := 5, maxLocals := 6, code := jdk_52_method_16_code, exceptionTable := #[], attributes := #[] }
def k10m2 : Method := { name := "compress", desc := "([CII)[B", sig := { parameters := [(.array .char), .int, .int], returnType := some (.array .byte) }, accessFlags := 9, code := some k10c2 }
def k10c3 : Code := { maxStack := 3, maxLocals := 7, code := jdk_52_method_21_code, exceptionTable := #[], attributes := #[] }
def k10m3 : Method := { name := "compress", desc := "([CI[BII)I", sig := { parameters := [(.array .char), .int, (.array .byte), .int, .int], returnType := some .int }, accessFlags := 9, code := some k10c3 }
/-- java/lang/StringUTF16 -/
def k10 : Class := { plain "java/lang/StringUTF16" (some 0) with
  accessFlags := 48
  interfaces := #[]
  cf := some (fileOf pool10 12 #[.nestMembers #[627, 629, 369]] #[{ accessFlags := 0, nameIndex := 9, descriptorIndex := 10, attributes := #[] }, { accessFlags := 8, nameIndex := 261, descriptorIndex := 262, attributes := #[] }, { accessFlags := 9, nameIndex := 117, descriptorIndex := 122, attributes := #[] }, { accessFlags := 9, nameIndex := 117, descriptorIndex := 118, attributes := #[] }] 48 6 #[] #[{ accessFlags := 26, nameIndex := 61, descriptorIndex := 62, attributes := #[] }, { accessFlags := 26, nameIndex := 65, descriptorIndex := 62, attributes := #[] }, { accessFlags := 24, nameIndex := 430, descriptorIndex := 62, attributes := #[] }, { accessFlags := 4120, nameIndex := 46, descriptorIndex := 47, attributes := #[] }])
  fields := #[{ name := "HI_BYTE_SHIFT", type := .int, accessFlags := 26, slot := 0, constantValue := 0 }, { name := "LO_BYTE_SHIFT", type := .int, accessFlags := 26, slot := 1, constantValue := 0 }, { name := "MAX_LENGTH", type := .int, accessFlags := 24, slot := 2, constantValue := 0 }, { name := "$assertionsDisabled", type := .boolean, accessFlags := 4120, slot := 3, constantValue := 0 }]
  methods := #[k10m0, k10m1, k10m2, k10m3]
  instanceTypes := #[]
  staticTypes := #[.int, .int, .int, .boolean]
  resolved := Array.replicate 635 none
  statics := none }

def pool11 : Array CpInfo := pool [(4, .class_ 6), (1, u "java/lang/Object"), (0, u "<init>"), (0, u "()V"), (5, .class_ 16), (1, u "java/lang/StringLatin1"), (104, u "$assertionsDisabled"), (0, u "Z"), (98, .class_ 223), (1, u "java/lang/StringLatin1$LinesSpliterator"), (166, .class_ 391), (0, u "java/lang/StringLatin1$CharsSpliterator")] 3

def k11m0 : Method := { name := "<init>", desc := "()V", sig := { parameters := [], returnType := none }, accessFlags := 0, code := none }
/-- java/lang/StringLatin1 -/
def k11 : Class := { plain "java/lang/StringLatin1" (some 0) with
  accessFlags := 48
  interfaces := #[]
  cf := some (fileOf pool11 14 #[.nestMembers #[390, 221]] #[{ accessFlags := 0, nameIndex := 7, descriptorIndex := 8, attributes := #[] }] 48 4 #[] #[{ accessFlags := 4120, nameIndex := 121, descriptorIndex := 122, attributes := #[] }])
  fields := #[{ name := "$assertionsDisabled", type := .boolean, accessFlags := 4120, slot := 0, constantValue := 0 }]
  methods := #[k11m0]
  instanceTypes := #[]
  staticTypes := #[.boolean]
  resolved := Array.replicate 395 none
  statics := none }

def pool12 : Array CpInfo := pool [(2, .class_ 4), (1, u "java/lang/Object"), (0, u "<init>"), (0, u "()V"), (17, .class_ 26), (1, u "jdk/internal/util/Preconditions"), (28, .class_ 56), (0, u "jdk/internal/util/Preconditions$4"), (57, .class_ 115), (0, u "jdk/internal/util/Preconditions$1"), (7, u "SIOOBE_FORMATTER"), (0, u "Ljava/util/function/BiFunction;"), (0, .class_ 126), (0, u "jdk/internal/util/Preconditions$2"), (3, u "AIOOBE_FORMATTER"), (0, .class_ 132), (0, u "jdk/internal/util/Preconditions$3"), (3, u "IOOBE_FORMATTER")] 57

def k12m0 : Method := { name := "<init>", desc := "()V", sig := { parameters := [], returnType := none }, accessFlags := 1, code := none }
/-- jdk/internal/util/Preconditions -/
def k12 : Class := { plain "jdk/internal/util/Preconditions" (some 0) with
  accessFlags := 33
  interfaces := #[]
  cf := some (fileOf pool12 24 #[.nestMembers #[55, 131, 125, 114]] #[{ accessFlags := 1, nameIndex := 5, descriptorIndex := 6, attributes := #[] }] 33 2 #[] #[{ accessFlags := 25, nameIndex := 123, descriptorIndex := 124, attributes := #[] }, { accessFlags := 25, nameIndex := 130, descriptorIndex := 124, attributes := #[] }, { accessFlags := 25, nameIndex := 136, descriptorIndex := 124, attributes := #[] }])
  fields := #[{ name := "SIOOBE_FORMATTER", type := (.object "java/util/function/BiFunction"), accessFlags := 25, slot := 0, constantValue := 0 }, { name := "AIOOBE_FORMATTER", type := (.object "java/util/function/BiFunction"), accessFlags := 25, slot := 1, constantValue := 0 }, { name := "IOOBE_FORMATTER", type := (.object "java/util/function/BiFunction"), accessFlags := 25, slot := 2, constantValue := 0 }]
  methods := #[k12m0]
  instanceTypes := #[]
  staticTypes := #[(.object "java/util/function/BiFunction"), (.object "java/util/function/BiFunction"), (.object "java/util/function/BiFunction")]
  resolved := Array.replicate 194 none
  statics := some 1 }

def pool13 : Array CpInfo := pool [(9, u "<init>"), (6, .class_ 18), (1, u "java/lang/Object"), (0, u "()V"), (1, .class_ 23), (1, u "jdk/internal/util/ArraysSupport"), (0, u "LOG2_ARRAY_LONG_INDEX_SCALE"), (0, u "I"), (2, u "U"), (0, u "Ljdk/internal/misc/Unsafe;"), (8, u "BIG_ENDIAN"), (0, u "Z"), (8, u "LOG2_BYTE_BIT_SIZE"), (4, u "LOG2_ARRAY_INT_INDEX_SCALE"), (54, u "JLA"), (0, u "Ljdk/internal/access/JavaLangAccess;"), (11, u "LOG2_ARRAY_BOOLEAN_INDEX_SCALE"), (9, u "LOG2_ARRAY_BYTE_INDEX_SCALE"), (5, u "LOG2_ARRAY_CHAR_INDEX_SCALE"), (5, u "LOG2_ARRAY_SHORT_INDEX_SCALE"), (18, u "LOG2_ARRAY_FLOAT_INDEX_SCALE"), (24, u "LOG2_ARRAY_DOUBLE_INDEX_SCALE"), (89, u "T_BOOLEAN"), (2, u "T_CHAR"), (1, u "T_FLOAT"), (1, u "T_DOUBLE"), (1, u "T_BYTE"), (1, u "T_SHORT"), (1, u "T_INT"), (1, u "T_LONG"), (1, u "SOFT_MAX_ARRAY_LENGTH")] 83

def k13m0 : Method := { name := "<init>", desc := "()V", sig := { parameters := [], returnType := none }, accessFlags := 2, code := none }
/-- jdk/internal/util/ArraysSupport -/
def k13 : Class := { plain "jdk/internal/util/ArraysSupport" (some 0) with
  accessFlags := 33
  interfaces := #[]
  cf := some (fileOf pool13 21 #[] #[{ accessFlags := 2, nameIndex := 9, descriptorIndex := 19, attributes := #[] }] 33 16 #[] #[{ accessFlags := 24, nameIndex := 28, descriptorIndex := 29, attributes := #[] }, { accessFlags := 26, nameIndex := 38, descriptorIndex := 39, attributes := #[] }, { accessFlags := 25, nameIndex := 121, descriptorIndex := 25, attributes := #[] }, { accessFlags := 25, nameIndex := 131, descriptorIndex := 25, attributes := #[] }, { accessFlags := 25, nameIndex := 137, descriptorIndex := 25, attributes := #[] }, { accessFlags := 25, nameIndex := 143, descriptorIndex := 25, attributes := #[] }, { accessFlags := 25, nameIndex := 53, descriptorIndex := 25, attributes := #[] }, { accessFlags := 25, nameIndex := 24, descriptorIndex := 25, attributes := #[] }, { accessFlags := 25, nameIndex := 162, descriptorIndex := 25, attributes := #[] }, { accessFlags := 25, nameIndex := 187, descriptorIndex := 25, attributes := #[] }, { accessFlags := 26, nameIndex := 48, descriptorIndex := 25, attributes := #[] }, { accessFlags := 25, nameIndex := 277, descriptorIndex := 25, attributes := #[] }, { accessFlags := 25, nameIndex := 280, descriptorIndex := 25, attributes := #[] }, { accessFlags := 25, nameIndex := 282, descriptorIndex := 25, attributes := #[] }, { accessFlags := 25, nameIndex := 284, descriptorIndex := 25, attributes := #[] }, { accessFlags := 25, nameIndex := 286, descriptorIndex := 25, attributes := #[] }, { accessFlags := 25, nameIndex := 288, descriptorIndex := 25, attributes := #[] }, { accessFlags := 25, nameIndex := 290, descriptorIndex := 25, attributes := #[] }, { accessFlags := 25, nameIndex := 292, descriptorIndex := 25, attributes := #[] }, { accessFlags := 26, nameIndex := 108, descriptorIndex := 109, attributes := #[] }, { accessFlags := 25, nameIndex := 294, descriptorIndex := 25, attributes := #[] }])
  fields := #[{ name := "U", type := (.object "jdk/internal/misc/Unsafe"), accessFlags := 24, slot := 0, constantValue := 0 }, { name := "BIG_ENDIAN", type := .boolean, accessFlags := 26, slot := 1, constantValue := 0 }, { name := "LOG2_ARRAY_BOOLEAN_INDEX_SCALE", type := .int, accessFlags := 25, slot := 2, constantValue := 0 }, { name := "LOG2_ARRAY_BYTE_INDEX_SCALE", type := .int, accessFlags := 25, slot := 3, constantValue := 0 }, { name := "LOG2_ARRAY_CHAR_INDEX_SCALE", type := .int, accessFlags := 25, slot := 4, constantValue := 0 }, { name := "LOG2_ARRAY_SHORT_INDEX_SCALE", type := .int, accessFlags := 25, slot := 5, constantValue := 0 }, { name := "LOG2_ARRAY_INT_INDEX_SCALE", type := .int, accessFlags := 25, slot := 6, constantValue := 0 }, { name := "LOG2_ARRAY_LONG_INDEX_SCALE", type := .int, accessFlags := 25, slot := 7, constantValue := 0 }, { name := "LOG2_ARRAY_FLOAT_INDEX_SCALE", type := .int, accessFlags := 25, slot := 8, constantValue := 0 }, { name := "LOG2_ARRAY_DOUBLE_INDEX_SCALE", type := .int, accessFlags := 25, slot := 9, constantValue := 0 }, { name := "LOG2_BYTE_BIT_SIZE", type := .int, accessFlags := 26, slot := 10, constantValue := 0 }, { name := "T_BOOLEAN", type := .int, accessFlags := 25, slot := 11, constantValue := 0 }, { name := "T_CHAR", type := .int, accessFlags := 25, slot := 12, constantValue := 0 }, { name := "T_FLOAT", type := .int, accessFlags := 25, slot := 13, constantValue := 0 }, { name := "T_DOUBLE", type := .int, accessFlags := 25, slot := 14, constantValue := 0 }, { name := "T_BYTE", type := .int, accessFlags := 25, slot := 15, constantValue := 0 }, { name := "T_SHORT", type := .int, accessFlags := 25, slot := 16, constantValue := 0 }, { name := "T_INT", type := .int, accessFlags := 25, slot := 17, constantValue := 0 }, { name := "T_LONG", type := .int, accessFlags := 25, slot := 18, constantValue := 0 }, { name := "JLA", type := (.object "jdk/internal/access/JavaLangAccess"), accessFlags := 26, slot := 19, constantValue := 0 }, { name := "SOFT_MAX_ARRAY_LENGTH", type := .int, accessFlags := 25, slot := 20, constantValue := 0 }]
  methods := #[k13m0]
  instanceTypes := #[]
  staticTypes := #[(.object "jdk/internal/misc/Unsafe"), .boolean, .int, .int, .int, .int, .int, .int, .int, .int, .int, .int, .int, .int, .int, .int, .int, .int, .int, (.object "jdk/internal/access/JavaLangAccess"), .int]
  resolved := Array.replicate 378 none
  statics := none }

def pool14 : Array CpInfo := pool [(1, u "java/lang/Cloneable"), (0, .class_ 1), (0, u "java/lang/Object"), (0, .class_ 3)] 3

/-- java/lang/Cloneable -/
def k14 : Class := { plain "java/lang/Cloneable" (some 0) with
  accessFlags := 1537
  interfaces := #[]
  cf := some (fileOf pool14 2 #[] #[] 1537 4 #[] #[])
  fields := #[]
  methods := #[]
  instanceTypes := #[]
  staticTypes := #[]
  resolved := Array.replicate 8 none
  statics := none }

/-- the primitive byte -/
def k15 : Class := { plain "byte" none with kind := .primitive 'B', accessFlags := 0x411 }
/-- [B -/
def k16 : Class := { plain "[B" (some 0) with kind := .array 15 .byte, interfaces := #[14, 2], accessFlags := 1041 }

/-- the primitive char -/
def k17 : Class := { plain "char" none with kind := .primitive 'C', accessFlags := 0x411 }
/-- [C -/
def k18 : Class := { plain "[C" (some 0) with kind := .array 17 .char, interfaces := #[14, 2], accessFlags := 1041 }

/-- the primitive int -/
def k19 : Class := { plain "int" none with kind := .primitive 'I', accessFlags := 0x411 }
/-- [I -/
def k20 : Class := { plain "[I" (some 0) with kind := .array 19 .int, interfaces := #[14, 2], accessFlags := 1041 }

def heap : Heap := #[{ cls := 7, slots := #[.long 0, .int 1, .null, .int 0, .null, .int 0, .int 0], vm := .statics 7 },
  { cls := 12, slots := #[.null, .null, .null], vm := .statics 12 }]
def classes : Array Class := #[k0, k1, k2, k3, k4, k5, k6, k7, k8, k9, k10, k11, k12, k13, k14, k15, k16, k17, k18, k19, k20]
def interned : List (Array UInt16 × Addr) := []
def slotsUsed : Nat := 10
def theMethod : MethodId := ⟨1, 1⟩
def args0 : Array Value := #[.int 5, .int 5, .int 5, .int 5, .int 5]
def aboutOver (below : List Frame) : State where
  vm := { classes := classes, interned := interned.toArray }
  heap := heap
  slotsUsed := slotsUsed
  threads := #[{ frames := .invoking theMethod args0 :: below }]
def below0 : List Frame := [.native { method := ⟨0, 0⟩, args := #[] }]
def about1 : State := aboutOver below0
def p0 : Program := .bare "" "" ""
def e0 : Env := launch0.env 0 0 0
theorem w_frames : about1.frames = Frame.invoking theMethod args0 :: below0 := rfl
set_option maxRecDepth 65536 in
theorem w_args : argsFit about1.vm theMethod args0 = true := by decide +kernel
set_option maxRecDepth 65536 in
theorem w_heap : heapFits about1 = true := by decide +kernel
set_option maxRecDepth 65536 in
theorem w_runnable : about1.curStatus? = some .runnable := by decide +kernel
set_option maxRecDepth 65536 in
theorem w_alone : about1.alone = true := by decide +kernel
set_option maxRecDepth 65536 in
theorem w_named : about1.methodNamed? x = some theMethod := by decide +kernel
set_option maxRecDepth 65536 in
theorem w_hears : about1.hears theMethod below0 = true := by decide +kernel
set_option maxRecDepth 65536 in
theorem w_ripe : about1.ripe theMethod args0 below0 = true := by decide +kernel
theorem w_running : about1.status = .running := rfl
set_option maxRecDepth 65536 in
theorem w_room : about1.hasRoom e0.platform room_1 = true :=
  launch0.hasRoom_least _ room_1 (by decide +kernel) (by decide +kernel) (by decide +kernel) (by decide +kernel) (by decide +kernel) (by decide +kernel)
theorem allAtoms_all (ts : List Jvm.Cond) (a : Array Jvm.Value) (st : Jvm.State) : (allAtoms ts).before a st = ts.all (fun c => c.before a st) := by
  induction ts with
  | nil => rfl
  | cons c t ih =>
    show (Jvm.Cond.and c (allAtoms t)).before a st = _
    rw [Jvm.Cond.before_and, ih, List.all_cons]
def words1 : List Jvm.Cond := Jvm.Cond.code x code maxLocals ret :: tables_1
/-- a 'code' word, met by the world's own term for the bytes: nothing is compared byte by byte -/
theorem code_word {y : MethodName} {bytes : ByteArray} {mx : Nat} {rt : Option FieldType} {a : Array Value} {s : State} {m : MethodId} {meth : Method} {c : Code} (h1 : s.methodNamed? y = some m) (h2 : s.vm.method? m = some meth) (h3 : meth.code = some c) (h4 : c.code = bytes)
    (h5 : (c.maxLocals == mx && c.exceptionTable.isEmpty && decide (c.maxStack ≤ mostOperands) && decide (meth.sig.returnType = rt) && !meth.locks && decide (parseMethodDescriptor y.desc = some meth.sig)) = true) : (Jvm.Cond.code y bytes mx rt).before a s = true := by
  simp only [Bool.and_eq_true, beq_iff_eq, Bool.not_eq_true', decide_eq_true_eq] at h5
  obtain ⟨⟨⟨⟨⟨g1, g2⟩, g3⟩, g4⟩, g5⟩, g6⟩ := h5
  simp [Cond.before, Cond.holds, Cond.value, h1, h2, h3, h4, g1, g2, g3, g4, g5, g6]
def isCode : Jvm.Cond → Bool
  | .code _ _ _ _ => true
  | _ => false
theorem all_split {L : List Jvm.Cond} {P : Jvm.Cond → Bool} (h1 : L.all (fun c => isCode c || P c) = true) (h2 : ∀ c ∈ L.filter isCode, P c = true) : L.all P = true := by
  refine List.all_eq_true.mpr fun c hc => ?_
  have h := List.all_eq_true.mp h1 c hc
  rcases Bool.eq_false_or_eq_true (isCode c) with hi | hi
  · exact h2 c (List.mem_filter.mpr ⟨hc, hi⟩)
  · simpa [hi] using h
set_option maxRecDepth 65536 in
theorem w_c0 : (Jvm.Cond.code x code maxLocals ret).before args0 about1 = true := code_word (m := ⟨1, 1⟩) (meth := k1m1) (c := k1c1) (by decide +kernel) rfl rfl rfl (by decide +kernel)
set_option maxRecDepth 65536 in
theorem w_c1 : (Jvm.Cond.code ({ cls := "com/example/tessera/tessera/Printf$Directive", name := "<init>", desc := "(Ljava/lang/String;IICI)V" } : Jvm.MethodName) prog_78_method_1_code (6 : Nat) (Option.none : Option Jvm.ClassFile.FieldType)).before args0 about1 = true := code_word (m := ⟨9, 0⟩) (meth := k9m0) (c := k9c0) (by decide +kernel) rfl rfl rfl (by decide +kernel)
set_option maxRecDepth 65536 in
theorem w_c2 : (Jvm.Cond.code ({ cls := "java/lang/Record", name := "<init>", desc := "()V" } : Jvm.MethodName) jdk_30_method_1_code (1 : Nat) (Option.none : Option Jvm.ClassFile.FieldType)).before args0 about1 = true := code_word (m := ⟨8, 0⟩) (meth := k8m0) (c := k8c0) (by decide +kernel) rfl rfl rfl (by decide +kernel)
set_option maxRecDepth 65536 in
theorem w_c3 : (Jvm.Cond.code ({ cls := "java/lang/Object", name := "<init>", desc := "()V" } : Jvm.MethodName) object_method_1_code (1 : Nat) (Option.none : Option Jvm.ClassFile.FieldType)).before args0 about1 = true := code_word (m := ⟨0, 0⟩) (meth := k0m0) (c := k0c0) (by decide +kernel) rfl rfl rfl (by decide +kernel)
set_option maxRecDepth 65536 in
theorem w_c4 : (Jvm.Cond.code ({ cls := "com/example/tessera/tessera/Printf$Directive", name := "numeric", desc := "()Z" } : Jvm.MethodName) prog_78_method_3_code (1 : Nat) (Option.some Jvm.ClassFile.FieldType.boolean)).before args0 about1 = true := code_word (m := ⟨9, 1⟩) (meth := k9m1) (c := k9c1) (by decide +kernel) rfl rfl rfl (by decide +kernel)
set_option maxRecDepth 65536 in
theorem w_c5 : (Jvm.Cond.code ({ cls := "java/lang/String", name := "<init>", desc := "([C)V" } : Jvm.MethodName) jdk_42_method_3_code (2 : Nat) (Option.none : Option Jvm.ClassFile.FieldType)).before args0 about1 = true := code_word (m := ⟨7, 1⟩) (meth := k7m1) (c := k7c1) (by decide +kernel) rfl rfl rfl (by decide +kernel)
set_option maxRecDepth 65536 in
theorem w_c6 : (Jvm.Cond.code ({ cls := "java/lang/String", name := "<init>", desc := "([CIILjava/lang/Void;)V" } : Jvm.MethodName) jdk_42_method_149_code (6 : Nat) (Option.none : Option Jvm.ClassFile.FieldType)).before args0 about1 = true := code_word (m := ⟨7, 2⟩) (meth := k7m2) (c := k7c2) (by decide +kernel) rfl rfl rfl (by decide +kernel)
set_option maxRecDepth 65536 in
theorem w_c7 : (Jvm.Cond.code ({ cls := "java/lang/StringUTF16", name := "compress", desc := "([CII)[B" } : Jvm.MethodName) jdk_52_method_16_code (6 : Nat) (Option.some (Jvm.ClassFile.FieldType.array Jvm.ClassFile.FieldType.byte))).before args0 about1 = true := code_word (m := ⟨10, 2⟩) (meth := k10m2) (c := k10c2) (by decide +kernel) rfl rfl rfl (by decide +kernel)
set_option maxRecDepth 65536 in
theorem w_c8 : (Jvm.Cond.code ({ cls := "java/lang/StringUTF16", name := "compress", desc := "([CI[BII)I" } : Jvm.MethodName) jdk_52_method_21_code (7 : Nat) (Option.some Jvm.ClassFile.FieldType.int)).before args0 about1 = true := code_word (m := ⟨10, 3⟩) (meth := k10m3) (c := k10c3) (by decide +kernel) rfl rfl rfl (by decide +kernel)
set_option maxRecDepth 65536 in
theorem w_c9 : (Jvm.Cond.code ({ cls := "java/lang/StringUTF16", name := "coderFromArrayLen", desc := "([BI)B" } : Jvm.MethodName) jdk_52_method_15_code (2 : Nat) (Option.some Jvm.ClassFile.FieldType.byte)).before args0 about1 = true := code_word (m := ⟨10, 1⟩) (meth := k10m1) (c := k10c1) (by decide +kernel) rfl rfl rfl (by decide +kernel)
def codes1 : List Jvm.Cond := [Jvm.Cond.code x code maxLocals ret, Jvm.Cond.code ({ cls := "com/example/tessera/tessera/Printf$Directive", name := "<init>", desc := "(Ljava/lang/String;IICI)V" } : Jvm.MethodName) prog_78_method_1_code (6 : Nat) (Option.none : Option Jvm.ClassFile.FieldType), Jvm.Cond.code ({ cls := "java/lang/Record", name := "<init>", desc := "()V" } : Jvm.MethodName) jdk_30_method_1_code (1 : Nat) (Option.none : Option Jvm.ClassFile.FieldType), Jvm.Cond.code ({ cls := "java/lang/Object", name := "<init>", desc := "()V" } : Jvm.MethodName) object_method_1_code (1 : Nat) (Option.none : Option Jvm.ClassFile.FieldType), Jvm.Cond.code ({ cls := "com/example/tessera/tessera/Printf$Directive", name := "numeric", desc := "()Z" } : Jvm.MethodName) prog_78_method_3_code (1 : Nat) (Option.some Jvm.ClassFile.FieldType.boolean), Jvm.Cond.code ({ cls := "java/lang/String", name := "<init>", desc := "([C)V" } : Jvm.MethodName) jdk_42_method_3_code (2 : Nat) (Option.none : Option Jvm.ClassFile.FieldType), Jvm.Cond.code ({ cls := "java/lang/String", name := "<init>", desc := "([CIILjava/lang/Void;)V" } : Jvm.MethodName) jdk_42_method_149_code (6 : Nat) (Option.none : Option Jvm.ClassFile.FieldType), Jvm.Cond.code ({ cls := "java/lang/StringUTF16", name := "compress", desc := "([CII)[B" } : Jvm.MethodName) jdk_52_method_16_code (6 : Nat) (Option.some (Jvm.ClassFile.FieldType.array Jvm.ClassFile.FieldType.byte)), Jvm.Cond.code ({ cls := "java/lang/StringUTF16", name := "compress", desc := "([CI[BII)I" } : Jvm.MethodName) jdk_52_method_21_code (7 : Nat) (Option.some Jvm.ClassFile.FieldType.int), Jvm.Cond.code ({ cls := "java/lang/StringUTF16", name := "coderFromArrayLen", desc := "([BI)B" } : Jvm.MethodName) jdk_52_method_15_code (2 : Nat) (Option.some Jvm.ClassFile.FieldType.byte)]
set_option maxRecDepth 65536 in
theorem codes_eq : words1.filter isCode = codes1 := rfl
theorem w_codes : ∀ c ∈ words1.filter isCode, c.before args0 about1 = true := by
  rw [codes_eq]
  intro c hc
  simp only [codes1, List.mem_cons, List.not_mem_nil, or_false] at hc
  rcases hc with rfl | rfl | rfl | rfl | rfl | rfl | rfl | rfl | rfl | rfl
  · exact w_c0
  · exact w_c1
  · exact w_c2
  · exact w_c3
  · exact w_c4
  · exact w_c5
  · exact w_c6
  · exact w_c7
  · exact w_c8
  · exact w_c9
set_option maxRecDepth 65536 in
theorem w_t1 : (words1.take 24).all (fun c => isCode c || c.before args0 about1) = true := by decide +kernel
set_option maxRecDepth 65536 in
theorem w_t2 : ((words1.drop 24).take 24).all (fun c => isCode c || c.before args0 about1) = true := by decide +kernel
set_option maxRecDepth 65536 in
theorem w_t3 : ((words1.drop 24).drop 24).all (fun c => isCode c || c.before args0 about1) = true := by decide +kernel
theorem w_tables : (allAtoms (Jvm.Cond.code x code maxLocals ret :: tables_1)).before args0 about1 = true := by
  rw [allAtoms_all]
  show words1.all (fun c => c.before args0 about1) = true
  refine all_split ?_ w_codes
  rw [← List.take_append_drop 24 words1, List.all_append, w_t1, ← List.take_append_drop 24 (words1.drop 24), List.all_append, w_t2, w_t3]
  rfl
set_option maxRecDepth 65536 in
theorem w_rest : rest_1_c.before args0 about1 = true := by decide +kernel
set_option maxRecDepth 65536 in
theorem w_case : (Jvm.Cond.and given_1 narrow_1).before args0 about1 = true := by decide +kernel
theorem w_applies : (headSpec (Jvm.Cond.code x code maxLocals ret :: tables_1) room_1).applies x e0.platform about1 = true :=
  (Spec.applies_iff w_frames).mpr ⟨w_running, w_runnable, w_alone, w_named, w_hears, w_ripe, w_room, w_tables⟩
theorem atStart : AtStart classFile x code maxLocals ret World_1 tables_1 room_1 Calls_1 rest_1 Pre_1 launch0 p0 e0 about1 theMethod args0 below0 :=
  ⟨lists_1, trivial, launch0.admits_env _ _ _, launch0.least_env, fairChoices_fair.cas, fairChoices_fair.clock, w_frames, w_args, w_heap, w_applies, trivial, w_rest, w_case⟩
end start1
theorem witness_1 : WitnessClaimed_1 := ⟨start1.p0, start1.e0, start1.about1, start1.theMethod, start1.args0, start1.below0, start1.atStart⟩
end Jvm.Pilot.@@N@@
