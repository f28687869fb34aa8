import JvmDerived
import JvmDerived.Pilot.@@N@@Statement
import JvmDerived.Pilot.@@N@@Code
set_option linter.unusedVariables false
set_option linter.unusedSimpArgs false
namespace Jvm.Own
open Jvm Jvm.ClassFile Sem Op Lib Jvm.Free Jvm.Stand Jvm.LawKit Jvm.RoadKit Bundle
section Walk
/-- from this frame the body comes to its end, and the end is as F says -/
def Endw (p : Program) (e : Env) (below : List Frame) (T : State) (g : JFrame) (F : Outcome → State → Prop) : Prop :=
  ∃ s₂ o, Steps p.tables e below (T.setTop g) s₂ ∧ s₂.status = .running ∧ Ended s₂ below o ∧ F o s₂
/-- where a walk stands: its surroundings, its state, the heap at hand, what it has spent -/
def Core (p : Program) (l : Launch) (e : Env) (R : Room) (s : State) (m : MethodId) (args : Array Value) (below : List Frame) (meth : Method) (c : Code) (bs : ByteArray) (ml : Nat) (ret : Option FieldType) (nm own : String) (Z : State) (a0 : Array Value) (EL : List (String × Nat)) (nw : Bool) (vm : Vm) (T : State) (h : Heap) (k n : Nat) : Prop :=
  (p.tables.exec = Jvm.exec ∧ c.code = bs ∧ c.maxLocals = ml ∧ meth.sig.returnType = ret ∧ meth.locks = false ∧ meth.name = nm ∧ EW Z a0 EL) ∧
  (∃ L, Stand p l e R (s.setVm vm) m args below meth c T L k n ∧ Fr Z.heap.size L) ∧ T.heap = h ∧ Z.Warmed39 vm ∧ vm.findClass own = some m.cls ∧ (∃ k0, s.Since vm k0 ∧ k0 ≤ h.size) ∧ CHr Z EL s.vm s.heap vm h ∧ Ext Z.heap h ∧ (nw = true → s.WarmedH vm)
/-- what a body leaves behind -/
def Fin (s : State) (Z : State) (EL : List (String × Nat)) (nw : Bool) (Q : Option Value → Heap → Prop) (K N : Nat) (o : Outcome) (U : State) : Prop :=
  ∃ v L, o = .returned v ∧ (Q v U.heap ∧ Fr Z.heap.size L ∧ Ext Z.heap U.heap) ∧ (CHr Z EL s.vm s.heap U.vm U.heap ∧ (nw = true → s.WarmedH U.vm)) ∧ ReturnedEndW s o U L K N
/-- the contract of a body: the arguments, the heap at the call, the places that it may write though they be Strings or byte arrays, what comes back -/
def Met (l : Launch) (Z : State) (EL : List (String × Nat)) (nw : Bool) (y : MethodName) (bs : ByteArray) (ml : Nat) (ret : Option FieldType) (ws : List Jvm.Cond) (rm : Room) (as' : Array Value) (h : Heap) (xs : List Addr) (Q : Option Value → Heap → Prop) : Prop :=
  MetFree l y (head1 (Jvm.Cond.code y bs ml ret :: ws) rm) (fun a U => a = as' ∧ Z.Warmed39 U.vm ∧ U.heap = h ∧ CHv Z EL U.vm h ∧ ∀ x ∈ xs, Safe Z EL U.vm h x) (fun _ _ _ _ _ => True)
    (fun _ U o U' => Fin U Z EL nw Q rm.cells rm.slots o U')
variable {p : Program} {l : Launch} {e : Env} {R : Room} {s : State} {m : MethodId} {args : Array Value} {below : List Frame} {meth : Method} {c : Code}
variable {bs : ByteArray} {ml : Nat} {ret : Option FieldType} {nm own : String} {Z : State} {a0 : Array Value} {EL : List (String × Nat)} {nw : Bool} {vm : Vm} {T T' : State} {h h' : Heap} {k n k' n' : Nat} {F : Outcome → State → Prop} {pc pc' : Nat} {Ls : Array Slot} {rest : List Value} {g g' : JFrame} {Q : Option Value → Heap → Prop}
theorem Endw.st (q : ∀ t, Steps p.tables e below (T'.setTop g') t → Steps p.tables e below (T.setTop g) t) (E : Endw p e below T' g' F) : Endw p e below T g F := by
  obtain ⟨s₂, o, h1, h2⟩ := E; exact ⟨s₂, o, q _ h1, h2⟩
theorem Endw.ste (q : Steps p.tables e below (T.setTop g) (T'.setTop g')) (E : Endw p e below T' g' F) : Endw p e below T g F := Endw.st (fun _ r => q.trans r) E
theorem Endw.eq (q : g = g') (E : Endw p e below T g' F) : Endw p e below T g F := q ▸ E
section Reads
theorem Core.hx (C : Core p l e R s m args below meth c bs ml ret nm own Z a0 EL nw vm T h k n) : p.tables.exec = Jvm.exec := C.1.1
theorem Core.dec (C : Core p l e R s m args below meth c bs ml ret nm own Z a0 EL nw vm T h k n) {r : Except DecodeError (Instr × Nat)} (hd : decode bs pc = r) : decode c.code pc = r := hb C.1.2.1 hd
theorem Core.mlq (C : Core p l e R s m args below meth c bs ml ret nm own Z a0 EL nw vm T h k n) : c.maxLocals = ml := C.1.2.2.1
theorem Core.rtq (C : Core p l e R s m args below meth c bs ml ret nm own Z a0 EL nw vm T h k n) : meth.sig.returnType = ret := C.1.2.2.2.1
theorem Core.locks (C : Core p l e R s m args below meth c bs ml ret nm own Z a0 EL nw vm T h k n) : meth.locks = false := C.1.2.2.2.2.1
theorem Core.nam (C : Core p l e R s m args below meth c bs ml ret nm own Z a0 EL nw vm T h k n) : meth.name = nm := C.1.2.2.2.2.2.1
theorem Core.ew (C : Core p l e R s m args below meth c bs ml ret nm own Z a0 EL nw vm T h k n) : EW Z a0 EL := C.1.2.2.2.2.2.2
theorem Core.here (C : Core p l e R s m args below meth c bs ml ret nm own Z a0 EL nw vm T h k n) : At T m c below := by obtain ⟨-, ⟨_, X, -⟩, -⟩ := C; exact X.here
theorem Core.heq (C : Core p l e R s m args below meth c bs ml ret nm own Z a0 EL nw vm T h k n) : T.heap = h := C.2.2.1
theorem Core.warm (C : Core p l e R s m args below meth c bs ml ret nm own Z a0 EL nw vm T h k n) : Z.Warmed39 vm := C.2.2.2.1
theorem Core.hown (C : Core p l e R s m args below meth c bs ml ret nm own Z a0 EL nw vm T h k n) : vm.findClass own = some m.cls := C.2.2.2.2.1
theorem Core.since (C : Core p l e R s m args below meth c bs ml ret nm own Z a0 EL nw vm T h k n) : ∃ k0, s.Since vm k0 ∧ k0 ≤ h.size := C.2.2.2.2.2.1
theorem Core.chr (C : Core p l e R s m args below meth c bs ml ret nm own Z a0 EL nw vm T h k n) : CHr Z EL s.vm s.heap vm h := C.2.2.2.2.2.2.1
theorem Core.chv (C : Core p l e R s m args below meth c bs ml ret nm own Z a0 EL nw vm T h k n) : CHv Z EL vm h := C.chr.1
theorem Core.old (C : Core p l e R s m args below meth c bs ml ret nm own Z a0 EL nw vm T h k n) : Ext Z.heap h := C.2.2.2.2.2.2.2.1
theorem Core.nwm (C : Core p l e R s m args below meth c bs ml ret nm own Z a0 EL nw vm T h k n) : nw = true → s.WarmedH vm := C.2.2.2.2.2.2.2.2
theorem Core.le (C : Core p l e R s m args below meth c bs ml ret nm own Z a0 EL nw vm T h k n) : Z.heap.size ≤ h.size := C.old.1
end Reads
theorem CHr.step (A : CHr Z EL s.vm s.heap vm h) (B : CHr Z EL vm h vm h') : CHr Z EL s.vm s.heap vm h' := A.trans B
theorem old_keep {ws : List Addr} (O : Ext Z.heap h) (K : Keep h h' ws) (q : ∀ x ∈ ws, Z.heap.size ≤ x) : Ext Z.heap h' :=
  ⟨Nat.le_trans O.1 K.1, fun x c r => K.2.1 x c (O.2 x c r) fun z => absurd (Array.getElem?_eq_some_iff.mp r).1 (Nat.not_lt.mpr (q x z))⟩
theorem keep_of_ext (E : Ext h h') : Keep h h' [] := (Keep.refl h []).ext E
/-- the walk goes on with the same tables behind a step that keeps all but ws -/
theorem Core.on (C : Core p l e R s m args below meth c bs ml ret nm own Z a0 EL nw vm T h k n) {ws : List Addr} {L' : List Loc} (X' : Stand p l e R (s.setVm vm) m args below meth c T' L' k' n') (N : Fr Z.heap.size L') (e' : T'.heap = h') (K : Keep h h' ws) (q : ∀ x ∈ ws, Z.heap.size ≤ x) (S : ∀ x ∈ ws, Safe Z EL vm h x) :
    Core p l e R s m args below meth c bs ml ret nm own Z a0 EL nw vm T' h' k' n' :=
  ⟨C.1, ⟨L', X', N⟩, e', C.warm, C.hown, by obtain ⟨k0, h1, h2⟩ := C.since; exact ⟨k0, h1, Nat.le_trans h2 K.1⟩, CHr.step C.chr (CHr.keep K S C.chv), old_keep C.old K q, C.nwm⟩
theorem Core.same (C : Core p l e R s m args below meth c bs ml ret nm own Z a0 EL nw vm T h k n) {L' : List Loc} (X' : Stand p l e R (s.setVm vm) m args below meth c T' L' k' n') (N : Fr Z.heap.size L') (e' : T'.heap = h) :
    Core p l e R s m args below meth c bs ml ret nm own Z a0 EL nw vm T' h k' n' :=
  C.on (ws := []) X' N e' (Keep.refl _ _) all0 sf0
theorem Core.more (C : Core p l e R s m args below meth c bs ml ret nm own Z a0 EL nw vm T h k n) (hk : k ≤ k') (hn : n ≤ n') : Core p l e R s m args below meth c bs ml ret nm own Z a0 EL nw vm T h k' n' := by
  obtain ⟨h1, ⟨L, X, N⟩, r⟩ := C; exact ⟨h1, ⟨L, X.more hk hn, N⟩, r⟩
/-! ## steps -/
theorem Core.getF (C : Core p l e R s m args below meth c bs ml ret nm own Z a0 EL nw vm T h k n) {O nm' d : String} {ix : Nat} {a : Addr} {v : Value} (w : (Jvm.Cond.fieldLink own ix O nm' d).before a0 Z = true) (f : Fld Z h a O nm' d v) (hd : decode bs pc = .ok (.getfield ix, 3)) (hp : pc + 3 = pc')
    (K : ∀ T', Core p l e R s m args below meth c bs ml ret nm own Z a0 EL nw vm T' h k n → Endw p e below T' (mkF m pc' Ls (v :: rest)) F) : Endw p e below T (mkF m pc Ls (.ref a :: rest)) F := by
  subst hp
  obtain ⟨-, ⟨L, X, N⟩, -⟩ := id C
  obtain ⟨T', X', e', st⟩ := RoadKit.getF X C.hx C.warm C.hown (host := "") (Or.inl w) Via.refl C.heq f (g := mkF m pc Ls (.ref a :: rest)) rfl rfl (C.dec hd)
  exact Endw.st st (K T' (C.same X' N e'))
theorem Core.getFN (C : Core p l e R s m args below meth c bs ml ret nm own Z a0 EL nw vm T h k n) {O nm' d host : String} {ix : Nat} {a : Addr} {v : Value} (w : (Jvm.Cond.fieldLinkNest own ix O nm' d host).before a0 Z = true) (f : Fld Z h a O nm' d v) (hd : decode bs pc = .ok (.getfield ix, 3)) (hp : pc + 3 = pc')
    (K : ∀ T', Core p l e R s m args below meth c bs ml ret nm own Z a0 EL nw vm T' h k n → Endw p e below T' (mkF m pc' Ls (v :: rest)) F) : Endw p e below T (mkF m pc Ls (.ref a :: rest)) F := by
  subst hp
  obtain ⟨-, ⟨L, X, N⟩, -⟩ := id C
  obtain ⟨T', X', e', st⟩ := RoadKit.getF X C.hx C.warm C.hown (Or.inr w) Via.refl C.heq f (g := mkF m pc Ls (.ref a :: rest)) rfl rfl (C.dec hd)
  exact Endw.st st (K T' (C.same X' N e'))
theorem Core.getFV (C : Core p l e R s m args below meth c bs ml ret nm own Z a0 EL nw vm T h k n) {R0 O nm' d : String} {ix : Nat} {a : Addr} {v : Value} (w : (Jvm.Cond.fieldLink own ix R0 nm' d).before a0 Z = true) (via : Via Z R0 O nm' d) (f : Fld Z h a O nm' d v) (hd : decode bs pc = .ok (.getfield ix, 3)) (hp : pc + 3 = pc')
    (K : ∀ T', Core p l e R s m args below meth c bs ml ret nm own Z a0 EL nw vm T' h k n → Endw p e below T' (mkF m pc' Ls (v :: rest)) F) : Endw p e below T (mkF m pc Ls (.ref a :: rest)) F := by
  subst hp
  obtain ⟨-, ⟨L, X, N⟩, -⟩ := id C
  obtain ⟨T', X', e', st⟩ := RoadKit.getF X C.hx C.warm C.hown (host := "") (Or.inl w) via C.heq f (g := mkF m pc Ls (.ref a :: rest)) rfl rfl (C.dec hd)
  exact Endw.st st (K T' (C.same X' N e'))
theorem Core.getS (C : Core p l e R s m args below meth c bs ml ret nm own Z a0 EL nw vm T h k n) {O nm' d : String} {ix : Nat} {v : Value} (w : (Jvm.Cond.fieldLink own ix O nm' d).before a0 Z = true) (f : Sta Z Z.heap O nm' d v) (hd : decode bs pc = .ok (.getstatic ix, 3)) (hp : pc + 3 = pc')
    (K : ∀ T', Core p l e R s m args below meth c bs ml ret nm own Z a0 EL nw vm T' h k n → Endw p e below T' (mkF m pc' Ls (v :: rest)) F) : Endw p e below T (mkF m pc Ls rest) F := by
  subst hp
  obtain ⟨-, ⟨L, X, N⟩, -⟩ := id C
  obtain ⟨T', X', e', st⟩ := RoadKit.getS X C.hx C.warm C.hown (host := "") w Via.refl C.heq (f.ext C.old) (g := mkF m pc Ls rest) rfl (C.dec hd)
  exact Endw.st st (K T' (C.same X' N e'))
theorem Core.putF (C : Core p l e R s m args below meth c bs ml ret nm own Z a0 EL nw vm T h k n) {O nm' d Cl : String} {ix kk : Nat} {a : Addr} {v old : Value} {ty : FieldType} (w : (Jvm.Cond.fieldLink own ix O nm' d).before a0 Z = true) (f : Fld Z h a O nm' d old) (E : Exa Z h a Cl) (la : (Jvm.Cond.lays Cl O nm' d).before a0 Z = true ∨ ((Jvm.Cond.laysFinal Cl O nm' d).before a0 Z = true ∧ own = O ∧ nm = "<init>")) (wi : (Jvm.Cond.instantiable Cl kk).before a0 Z = true)
    (hty : parseFieldDescriptor d = some ty) (hn : narrow ty v = v) (hf : fits ty v = true) (ge : Z.heap.size ≤ a) (sf : Safe Z EL vm h a) (hd : decode bs pc = .ok (.putfield ix, 3)) (hp : pc + 3 = pc')
    (K : ∀ T' h', Core p l e R s m args below meth c bs ml ret nm own Z a0 EL nw vm T' h' k n → Keep h h' [a] → CHr Z EL vm h vm h' → Wr h h' a (RoadKit.slotOf Z O nm' d) v → Endw p e below T' (mkF m pc' Ls rest) F) : Endw p e below T (mkF m pc Ls (v :: .ref a :: rest)) F := by
  subst hp
  obtain ⟨-, ⟨L, X, N⟩, -⟩ := id C
  obtain ⟨T', h', X', e', W, st⟩ := RoadKit.putF X C.hx C.warm C.hown (host := "") (Or.inl w) Via.refl C.heq f E (la.imp id fun q => ⟨q.1, q.2.1, C.nam.trans q.2.2⟩) wi hty hn hf (g := mkF m pc Ls (v :: .ref a :: rest)) rfl rfl (C.dec hd)
  exact Endw.st st (K T' h' (C.on (ws := [a]) X' (N.app fun y hy => by cases List.mem_singleton.mp hy; exact ge) e' (Keep.of_wr W) (allS ge all0) (sfS sf sf0)) (Keep.of_wr W) (CHr.keep (Keep.of_wr W) (sfS sf sf0) C.chv) W)
theorem Core.new (C : Core p l e R s m args below meth c bs ml ret nm own Z a0 EL nw vm T h k n) {Cl : String} {ix nn : Nat} (w : (Jvm.Cond.classLink own ix Cl).before a0 Z = true) (wi : (Jvm.Cond.instantiable Cl nn).before a0 Z = true) (wz : (Jvm.Cond.initialized Cl).before a0 Z = true) (hd : decode bs pc = .ok (.new ix, 3)) (hp : pc + 3 = pc') (hk : k + 1 ≤ R.cells) (hn : n + nn ≤ R.slots)
    (K : ∀ T' h' x, Core p l e R s m args below meth c bs ml ret nm own Z a0 EL nw vm T' h' (k + 1) (n + nn) → Keep h h' [] → CHr Z EL vm h vm h' → h.size ≤ x → Z.heap.size ≤ x → Exa Z h' x Cl → (∀ {O nm d : String} {ty : FieldType}, Laid Z a0 Cl O nm d → parseFieldDescriptor d = some ty → Fld Z h' x O nm d (defaultValue ty)) → Safe Z EL vm h' x → Endw p e below T' (mkF m pc' Ls (.ref x :: rest)) F) : Endw p e below T (mkF m pc Ls rest) F := by
  subst hp
  obtain ⟨-, ⟨L, X, N⟩, -⟩ := id C
  obtain ⟨T', h', X', e', E, A, D, -, st⟩ := RoadKit.newO X C.hx C.warm C.hown w wi wz C.heq (g := mkF m pc Ls rest) rfl (C.dec hd) hk hn
  exact Endw.st st (K T' h' h.size (C.on (ws := []) X' N e' (keep_of_ext E) all0 sf0) (keep_of_ext E) (CHr.keep (keep_of_ext E) sf0 C.chv) (Nat.le_refl _) C.le A D (Safe.ext E C.chv (Safe.new (Nat.le_refl _))))
theorem Core.newA (C : Core p l e R s m args below meth c bs ml ret nm own Z a0 EL nw vm T h k n) {aty : ArrayType} {z : Int32} {cap : Nat} {vs : List Value} (w : (Jvm.Cond.arrayClass (newarray.typeOf aty)).before a0 Z = true) (hd : decode bs pc = .ok (.newarray aty, 2)) (hp : pc + 2 = pc') (hz : ¬ z < 0) (hcap : z.toNatClampNeg ≤ cap) (hb : cap * 8 ≤ 536870912) (hk : k + 1 ≤ R.cells) (hn : n + cap ≤ R.slots) (hvs : vs = List.replicate vs.length (defaultValue (newarray.typeOf aty)))
    (K : ∀ T' h' x kA, Core p l e R s m args below meth c bs ml ret nm own Z a0 EL nw vm T' h' (k + 1) (n + cap) → Keep h h' [] → CHr Z EL vm h vm h' → h.size ≤ x → Z.heap.size ≤ x → Arv Z h' x kA (newarray.typeOf aty) z vs (defaultValue (newarray.typeOf aty)) → Safe Z EL vm h' x → Endw p e below T' (mkF m pc' Ls (.ref x :: rest)) F) : Endw p e below T (mkF m pc Ls (.int z :: rest)) F := by
  subst hp
  obtain ⟨-, ⟨L, X, N⟩, -⟩ := id C
  obtain ⟨T', h', cA, X', e', E, A, st⟩ := RoadKit.newP X C.hx C.warm w C.heq (g := mkF m pc Ls (.int z :: rest)) rfl (C.dec hd) rfl hz hcap hb hk hn
  have q := (Arv.new A hz).pad (vs' := [] ++ List.replicate vs.length (defaultValue (newarray.typeOf aty))) (pad_rep _ _ _)
  rw [List.nil_append, ← hvs] at q
  exact Endw.st st (K T' h' h.size cA (C.on (ws := []) X' N e' (keep_of_ext E) all0 sf0) (keep_of_ext E) (CHr.keep (keep_of_ext E) sf0 C.chv) (Nat.le_refl _) C.le q (Safe.ext E C.chv (Safe.new (Nat.le_refl _))))
theorem Core.len (C : Core p l e R s m args below meth c bs ml ret nm own Z a0 EL nw vm T h k n) {a : Addr} {kA : ClassId} {ty : FieldType} {z : Int32} {vs : List Value} {dv : Value} (A : Arv Z h a kA ty z vs dv) (hd : decode bs pc = .ok (.arraylength, 1)) (hp : pc + 1 = pc')
    (K : Endw p e below T (mkF m pc' Ls (.int z :: rest)) F) : Endw p e below T (mkF m pc Ls (.ref a :: rest)) F := by
  subst hp
  obtain ⟨-, ⟨L, X, N⟩, -⟩ := id C
  obtain ⟨cl, Ar, -, S, hz, -⟩ := A
  refine Endw.st (fun t r => X.arraylength C.hx (by rw [C.heq]; exact Ar.1) (State.isArrayOf_alike C.warm.alike Ar.2.1) (g := mkF m pc Ls (.ref a :: rest)) rfl rfl (C.dec hd) t r) ?_
  rw [len_of S hz]; exact K
theorem Core.caload (C : Core p l e R s m args below meth c bs ml ret nm own Z a0 EL nw vm T h k n) {a : Addr} {kA : ClassId} {z j : Int32} {vs : List Value} {dv v : Value} (A : Arv Z h a kA .char z vs dv) (hj : ¬ j < 0 ∧ j < z) (hv : vs.getD j.toNatClampNeg dv = v) (hd : decode bs pc = .ok (.caload, 1)) (hp : pc + 1 = pc')
    (K : Endw p e below T (mkF m pc' Ls (v :: rest)) F) : Endw p e below T (mkF m pc Ls (.int j :: .ref a :: rest)) F := by
  subst hp
  obtain ⟨-, ⟨L, X, N⟩, -⟩ := id C
  obtain ⟨cl, Ar, -, S, hz, H, -⟩ := A
  exact Endw.st (fun t r => X.caload C.hx (by rw [C.heq]; exact Ar.1) (State.isArrayOf_alike C.warm.alike Ar.2.1) Ar.2.2 (inb_of S hj) (H.at (inb_of S hj) hv) (g := mkF m pc Ls (.int j :: .ref a :: rest)) rfl rfl (C.dec hd) t r) K
theorem Core.baload (C : Core p l e R s m args below meth c bs ml ret nm own Z a0 EL nw vm T h k n) {a : Addr} {kA : ClassId} {z j : Int32} {vs : List Value} {dv v : Value} (A : Arv Z h a kA .byte z vs dv) (hj : ¬ j < 0 ∧ j < z) (hv : vs.getD j.toNatClampNeg dv = v) (hd : decode bs pc = .ok (.baload, 1)) (hp : pc + 1 = pc')
    (K : Endw p e below T (mkF m pc' Ls (v :: rest)) F) : Endw p e below T (mkF m pc Ls (.int j :: .ref a :: rest)) F := by
  subst hp
  obtain ⟨-, ⟨L, X, N⟩, -⟩ := id C
  obtain ⟨cl, Ar, -, S, hz, H, -⟩ := A
  exact Endw.st (fun t r => X.baloadBytes C.hx (by rw [C.heq]; exact Ar.1) (State.isArrayOf_alike C.warm.alike Ar.2.1) Ar.2.2 (inb_of S hj) (H.at (inb_of S hj) hv) (g := mkF m pc Ls (.int j :: .ref a :: rest)) rfl rfl (C.dec hd) t r) K
theorem Core.aaload (C : Core p l e R s m args below meth c bs ml ret nm own Z a0 EL nw vm T h k n) {a : Addr} {kA : ClassId} {ty : FieldType} {z j : Int32} {vs : List Value} {dv v : Value} (A : Arv Z h a kA ty z vs dv) (hty : ty.isReference = true) (hj : ¬ j < 0 ∧ j < z) (hv : vs.getD j.toNatClampNeg dv = v) (hd : decode bs pc = .ok (.aaload, 1)) (hp : pc + 1 = pc')
    (K : Endw p e below T (mkF m pc' Ls (v :: rest)) F) : Endw p e below T (mkF m pc Ls (.int j :: .ref a :: rest)) F := by
  subst hp
  obtain ⟨-, ⟨L, X, N⟩, -⟩ := id C
  obtain ⟨cl, Ar, -, S, hz, H, -⟩ := A
  exact Endw.st (fun t r => X.aaload C.hx (by rw [C.heq]; exact Ar.1) (State.isArrayOf_alike C.warm.alike Ar.2.1) hty Ar.2.2 (inb_of S hj) (H.at (inb_of S hj) hv) (g := mkF m pc Ls (.int j :: .ref a :: rest)) rfl rfl (C.dec hd) t r) K
theorem Core.castore (C : Core p l e R s m args below meth c bs ml ret nm own Z a0 EL nw vm T h k n) {a : Addr} {kA : ClassId} {z j x x' : Int32} {vs : List Value} {dv : Value} (A : Arv Z h a kA .char z vs dv) (hj : ¬ j < 0 ∧ j < z) (i : Nat) (hi : j.toNatClampNeg = i) (hl : i < vs.length) (hx' : nar .char x = x') (ge : Z.heap.size ≤ a) (hd : decode bs pc = .ok (.castore, 1)) (hp : pc + 1 = pc')
    (K : ∀ T' h', Core p l e R s m args below meth c bs ml ret nm own Z a0 EL nw vm T' h' k n → Keep h h' [a] → CHr Z EL vm h vm h' → Arv Z h' a kA .char z (vs.set i (.int x')) dv → Endw p e below T' (mkF m pc' Ls rest) F) : Endw p e below T (mkF m pc Ls (.int x :: .int j :: .ref a :: rest)) F := by
  subst hp hx'
  obtain ⟨-, ⟨L, X, N⟩, -⟩ := id C
  have sf : Safe Z EL vm h a := Safe.arv C.warm.alike A (by decide)
  obtain ⟨cl, Ar, q1, S, hz, H, G⟩ := A
  obtain ⟨T', h', X', e', W, st⟩ := RoadKit.stC X C.hx C.warm C.heq Ar (inb_of S hj) (g := mkF m pc Ls (.int x :: .int j :: .ref a :: rest)) rfl rfl (C.dec hd)
  exact Endw.st st (K T' h' (C.on (ws := [a]) X' (N.app fun y hy => by cases List.mem_singleton.mp hy; exact ge) e' (Keep.of_wr W) (allS ge all0) (sfS sf sf0)) (Keep.of_wr W) (CHr.keep (Keep.of_wr W) (sfS sf sf0) C.chv) (Arv.set Ar q1 S hz H G (fits_nar_char _) W i hi hl))
theorem Core.bastore (C : Core p l e R s m args below meth c bs ml ret nm own Z a0 EL nw vm T h k n) {a : Addr} {kA : ClassId} {z j x x' : Int32} {vs : List Value} {dv : Value} (A : Arv Z h a kA .byte z vs dv) (hj : ¬ j < 0 ∧ j < z) (i : Nat) (hi : j.toNatClampNeg = i) (hl : i < vs.length) (hx' : nar .byte x = x') (ge : Z.heap.size ≤ a) (sf : Safe Z EL vm h a) (hd : decode bs pc = .ok (.bastore, 1)) (hp : pc + 1 = pc')
    (K : ∀ T' h', Core p l e R s m args below meth c bs ml ret nm own Z a0 EL nw vm T' h' k n → Keep h h' [a] → CHr Z EL vm h vm h' → Arv Z h' a kA .byte z (vs.set i (.int x')) dv → Endw p e below T' (mkF m pc' Ls rest) F) : Endw p e below T (mkF m pc Ls (.int x :: .int j :: .ref a :: rest)) F := by
  subst hp hx'
  obtain ⟨-, ⟨L, X, N⟩, -⟩ := id C
  obtain ⟨cl, Ar, q1, S, hz, H, G⟩ := A
  obtain ⟨T', h', X', e', W, st⟩ := RoadKit.stB X C.hx C.warm C.heq Ar (inb_of S hj) (g := mkF m pc Ls (.int x :: .int j :: .ref a :: rest)) rfl rfl (C.dec hd)
  exact Endw.st st (K T' h' (C.on (ws := [a]) X' (N.app fun y hy => by cases List.mem_singleton.mp hy; exact ge) e' (Keep.of_wr W) (allS ge all0) (sfS sf sf0)) (Keep.of_wr W) (CHr.keep (Keep.of_wr W) (sfS sf sf0) C.chv) (Arv.set Ar q1 S hz H G (fits_nar_byte _) W i hi hl))
/-- Object.<init> -/
theorem Core.initO (C : Core p l e R s m args below meth c bs ml ret nm own Z a0 EL nw vm T h k n) {ix : Nat} {a : Addr} (w1 : (Jvm.Cond.methodLink own ix Lib.objectInit).before a0 Z = true) (w2 : (Jvm.Cond.instanceMethod Lib.objectInit).before a0 Z = true) (w3 : (Jvm.Cond.code Lib.objectInit ⟨#[0xb1]⟩ 1 none).before a0 Z = true) (hsz : Ls.size = ml) (hd : decode bs pc = .ok (.invokespecial ix, 3)) (hp : pc + 3 = pc') (hf : 1 ≤ R.frames) {W : Nat} (hW : (rest.map fun v => v.category).sum ≤ W) (hl : W + 12 ≤ R.locals)
    (K : ∀ T', Core p l e R s m args below meth c bs ml ret nm own Z a0 EL nw vm T' h k n → Endw p e below T' (mkF m pc' Ls rest) F) : Endw p e below T (mkF m pc Ls (.ref a :: rest)) F := by
  subst hp
  obtain ⟨-, ⟨L, X, N⟩, -⟩ := id C
  obtain ⟨T', X', e', st⟩ := RoadKit.initO X C.hx C.warm C.hown w1 w2 w3 C.heq (g := mkF m pc Ls (.ref a :: rest)) rfl (hsz.trans C.mlq.symm) rfl (C.dec hd) hf (W := W) (by show 2 * 0 + _ ≤ _; omega) hl
  exact Endw.st st (K T' (C.same X' N e'))
/-! ## calls by a contract of ours -/
theorem backOwn {y : MethodName} {bytes : ByteArray} {mx : Nat} {rt : Option FieldType} {rm : Room} {len W : Nat} {as' : Array Value} {xs : List Addr} (hM : Met l Z EL nw y bytes mx rt [] rm as' h xs Q) (hZ : Z.Warmed39 vm) (wc : (Jvm.Cond.code y bytes mx rt).before a0 Z = true) (wz : (Jvm.Cond.initialized y.cls).before a0 Z = true) (hf : rm.frames + 1 ≤ R.frames) (hl : W + (mx + 11) + rm.locals ≤ R.locals) (hEL : EW Z a0 EL) (H : CHv Z EL vm h) (hs : ∀ x ∈ xs, x < h.size ∧ Safe Z EL vm h x) :
    BackS l R p e below (s.setVm vm) args y len W (fun A a => a = as' ∧ A.U.heap = h ∧ A.cells + rm.cells ≤ R.cells ∧ A.slots + rm.slots ≤ R.slots)
      (fun A _ v B => ∃ L, (Q v B.U.heap ∧ Fr Z.heap.size L ∧ Ext Z.heap B.U.heap) ∧ B.locs = A.locs ++ L ∧ B.cells = A.cells + rm.cells ∧ B.slots = A.slots + rm.slots ∧ CHr Z EL vm h B.U.vm B.U.heap ∧ (nw = true → (s.setVm vm).WarmedH B.U.vm)) := by
  refine BackS.of_freeW (bytes := bytes) (maxL := mx) (ret := rt) (E := fun _ f o t L i j => i = rm.cells ∧ j = rm.slots ∧ (∃ v, o = .returned v ∧ Q v t.heap ∧ Fr Z.heap.size L ∧ Ext Z.heap t.heap) ∧ CHr Z EL f.vm f.heap t.vm t.heap ∧ (nw = true → f.WarmedH t.vm)) hM hf hl ?_ ?_ (fun _ _ _ _ _ _ _ _ _ => trivial) ?_ ?_
  · intro m' meth' c' A a Y hp
    have hU : Z.Warmed39 A.U.vm := wtrans (s := s.setVm vm) hZ Y.warmed
    refine ⟨?_, mv hU wc, mv hU wz, hp.2.2.1, hp.2.2.2⟩
    show (Jvm.Cond.and _ .tt).before a A.U = true
    rw [Cond.before_and, mv hU wc]; rfl
  · intro m' meth' c' A a g' mk Y hp
    have q := CHv.at Y hZ hEL H
    exact ⟨hp.1, wtrans (s := s.setVm vm) hZ Y.warmed, hp.2.1, q.1, fun x hx => q.safe (hs x hx).1 (hs x hx).2⟩
  · intro a f o t ⟨v, L, h1, h2, h3, h4⟩
    exact ⟨L, _, _, h4, rfl, rfl, ⟨v, h1, h2⟩, h3.1, h3.2⟩
  · intro m' meth' c' A a g' mk v t L i j Y hp _ _ q
    obtain ⟨rfl, rfl, ⟨v', e1, e2⟩, e3, e5⟩ := q
    cases e1
    refine ⟨L, e2, rfl, rfl, rfl, (CHv.at Y hZ hEL H).trans ?_, fun z => State.WarmedH.trans Y.warmed (e5 z)⟩
    have e4 : CHr Z EL A.U.vm A.U.heap t.vm t.heap := e3
    rw [hp.2.1] at e4; exact e4
/-- behind a call by such a contract -/
theorem Core.behind (C : Core p l e R s m args below meth c bs ml ret nm own Z a0 EL nw vm T h k n) {B : Pt} {L L' : List Loc} (X' : Stand p l e R ((s.setVm vm).setVm B.U.vm) m args below meth c B.U B.locs B.cells B.slots) (h2 : (s.setVm vm).Since B.U.vm B.U.heap.size) (N : Fr Z.heap.size L) (N' : Fr Z.heap.size L') (O : Ext Z.heap B.U.heap) (e1 : B.locs = L ++ L') (e2 : B.cells = k') (e3 : B.slots = n') (A : CHr Z EL vm h B.U.vm B.U.heap) (M : nw = true → (s.setVm vm).WarmedH B.U.vm) :
    Core p l e R s m args below meth c bs ml ret nm own Z a0 EL nw B.U.vm B.U B.U.heap k' n' := by
  subst e2 e3
  obtain ⟨k0, hS, hk⟩ := C.since
  obtain ⟨r1, r2, r3, r4⟩ := rebS hS hk X' h2 A.2.1 C.warm C.hown
  exact ⟨C.1, ⟨_, r1, e1 ▸ N.app N'⟩, rfl, r3, r4, ⟨_, r2, Nat.le_refl _⟩, C.chr.trans A, O, fun z => State.WarmedH.trans (C.nwm z) (M z)⟩
theorem Core.special (C : Core p l e R s m args below meth c bs ml ret nm own Z a0 EL nw vm T h k n) {y : MethodName} {ix : Nat} {bytes : ByteArray} {mx : Nat} {rm : Room} {xs : List Addr} {W : Nat} {a : Addr} {argsL st : List Value} {as' : Array Value} (hy1 : y.name = "<init>")
    (w1 : (Jvm.Cond.methodLink own ix y).before a0 Z = true) (w2 : (Jvm.Cond.instanceMethod y).before a0 Z = true) (w3 : (Jvm.Cond.code y bytes mx none).before a0 Z = true) (w4 : (Jvm.Cond.initialized y.cls).before a0 Z = true) (hy : y.cls ≠ "java/lang/invoke/MethodHandle" ∧ y.cls ≠ "java/lang/invoke/VarHandle")
    (hM : Met l Z EL nw y bytes mx none [] rm as' h xs Q) (has : as' = (.ref a :: argsL).toArray) (hs : ∀ x ∈ xs, x < h.size ∧ Safe Z EL vm h x) (hf : rm.frames + 1 ≤ R.frames) (hl : W + (mx + 11) + rm.locals ≤ R.locals) (hk : k + rm.cells ≤ R.cells) (hn : n + rm.slots ≤ R.slots)
    (hlen : ∀ sig, parseMethodDescriptor y.desc = some sig → argsL.length = sig.parameters.length) (hst : st = argsL.reverse ++ .ref a :: rest) (hW : (rest.map fun v => v.category).sum ≤ W) (hsz : Ls.size = ml) (hd : decode bs pc = .ok (.invokespecial ix, 3)) (hp : pc + 3 = pc')
    (K : ∀ vm' T' h' v, Core p l e R s m args below meth c bs ml ret nm own Z a0 EL nw vm' T' h' (k + rm.cells) (n + rm.slots) → CHr Z EL vm h vm' h' → Q v h' → Endw p e below T' (mkF m pc' Ls (v.toList ++ rest)) F) : Endw p e below T (mkF m pc Ls st) F := by
  subst hp has
  obtain ⟨-, ⟨L, X, N⟩, -⟩ := id C
  obtain ⟨v, vm₁, B, -, X', h2, -, ⟨L', ⟨q1, q2, q3⟩, e1, e2, e3, A, M⟩, st'⟩ := X.specialBackS C.hx (y := y) hy1 C.hown (mvT C.warm w1) (mvT C.warm w2) (mvT C.warm w3) hy (backOwn (W := W) hM C.warm w3 w4 hf hl C.ew C.chv hs) (g := mkF m pc Ls st) rfl (hsz.trans C.mlq.symm) (Steps.refl _) (a := a) (argsL := argsL) (rest := rest) hlen hst (by show 2 * 0 + _ ≤ _; omega) (C.dec hd) (fun _ _ => ⟨rfl, C.heq, hk, hn⟩)
  exact Endw.ste st' (K _ _ _ v (C.behind X' h2 N q2 q3 e1 e2 e3 A M) A q1)
theorem Core.static (C : Core p l e R s m args below meth c bs ml ret nm own Z a0 EL nw vm T h k n) {y : MethodName} {ix : Nat} {bytes : ByteArray} {mx : Nat} {rt : Option FieldType} {rm : Room} {xs : List Addr} {W : Nat} {argsL st : List Value} {as' : Array Value}
    (w1 : (Jvm.Cond.methodLink own ix y).before a0 Z = true) (w2 : (Jvm.Cond.static y).before a0 Z = true) (w3 : (Jvm.Cond.code y bytes mx rt).before a0 Z = true) (w4 : (Jvm.Cond.initialized y.cls).before a0 Z = true) (hy : y.cls ≠ "java/lang/invoke/MethodHandle" ∧ y.cls ≠ "java/lang/invoke/VarHandle")
    (hM : Met l Z EL nw y bytes mx rt [] rm as' h xs Q) (has : as' = argsL.toArray) (hs : ∀ x ∈ xs, x < h.size ∧ Safe Z EL vm h x) (hf : rm.frames + 1 ≤ R.frames) (hl : W + (mx + 11) + rm.locals ≤ R.locals) (hk : k + rm.cells ≤ R.cells) (hn : n + rm.slots ≤ R.slots)
    (hlen : ∀ sig, parseMethodDescriptor y.desc = some sig → argsL.length = sig.parameters.length) (hst : st = argsL.reverse ++ rest) (hW : (rest.map fun v => v.category).sum ≤ W) (hsz : Ls.size = ml) (hd : decode bs pc = .ok (.invokestatic ix, 3)) (hp : pc + 3 = pc')
    (K : ∀ vm' T' h' v, Core p l e R s m args below meth c bs ml ret nm own Z a0 EL nw vm' T' h' (k + rm.cells) (n + rm.slots) → CHr Z EL vm h vm' h' → Q v h' → Endw p e below T' (mkF m pc' Ls (v.toList ++ rest)) F) : Endw p e below T (mkF m pc Ls st) F := by
  subst hp has
  obtain ⟨-, ⟨L, X, N⟩, -⟩ := id C
  obtain ⟨v, vm₁, B, -, X', h2, -, ⟨L', ⟨q1, q2, q3⟩, e1, e2, e3, A, M⟩, st'⟩ := RoadKit.callSS X C.hx (y := y) C.hown (mvT C.warm w1) (mvT C.warm w2) (mvT C.warm w4) (mvT C.warm w3) hy (backOwn (W := W) hM C.warm w3 w4 hf hl C.ew C.chv hs) (g := mkF m pc Ls st) rfl (hsz.trans C.mlq.symm) (argsL := argsL) (rest := rest) hlen hst (by show 2 * 0 + _ ≤ _; omega) (C.dec hd) (fun _ _ => ⟨rfl, C.heq, hk, hn⟩)
  exact Endw.ste st' (K _ _ _ v (C.behind X' h2 N q2 q3 e1 e2 e3 A M) A q1)
theorem Core.virtual (C : Core p l e R s m args below meth c bs ml ret nm own Z a0 EL nw vm T h k n) {y z : MethodName} {Cl : String} {ix : Nat} {bytes : ByteArray} {mx : Nat} {rt : Option FieldType} {rm : Room} {xs : List Addr} {W : Nat} {a : Addr} {argsL st : List Value} {as' : Array Value}
    (w1 : (Jvm.Cond.methodLink own ix y).before a0 Z = true) (w2 : (Jvm.Cond.declares y).before a0 Z = true) (hnf : ∀ U : State, Z.Warmed39 U.vm → NotFace U y) (w5 : (Jvm.Cond.selects Cl y z).before a0 Z = true) (w6 : (Jvm.Cond.instanceMethod z).before a0 Z = true) (w3 : (Jvm.Cond.code z bytes mx rt).before a0 Z = true) (w4 : (Jvm.Cond.initialized z.cls).before a0 Z = true) (hy : y.cls ≠ "java/lang/invoke/MethodHandle" ∧ y.cls ≠ "java/lang/invoke/VarHandle")
    (hM : Met l Z EL nw z bytes mx rt [] rm as' h xs Q) (has : as' = (.ref a :: argsL).toArray) (E : Exa Z h a Cl) (hs : ∀ x ∈ xs, x < h.size ∧ Safe Z EL vm h x) (hf : rm.frames + 1 ≤ R.frames) (hl : W + (mx + 11) + rm.locals ≤ R.locals) (hk : k + rm.cells ≤ R.cells) (hn : n + rm.slots ≤ R.slots)
    (hlen : ∀ sig, parseMethodDescriptor y.desc = some sig → argsL.length = sig.parameters.length) (hst : st = argsL.reverse ++ .ref a :: rest) (hW : (rest.map fun v => v.category).sum ≤ W) (hsz : Ls.size = ml) (hd : decode bs pc = .ok (.invokevirtual ix, 3)) (hp : pc + 3 = pc')
    (K : ∀ vm' T' h' v, Core p l e R s m args below meth c bs ml ret nm own Z a0 EL nw vm' T' h' (k + rm.cells) (n + rm.slots) → CHr Z EL vm h vm' h' → Q v h' → Endw p e below T' (mkF m pc' Ls (v.toList ++ rest)) F) : Endw p e below T (mkF m pc Ls st) F := by
  subst hp has
  obtain ⟨-, ⟨L, X, N⟩, -⟩ := id C
  obtain ⟨cq, kq, qa, qb, qc⟩ := isOf (s := s.setVm vm) C.warm C.heq E
  obtain ⟨v, vm₁, B, -, X', h2, -, ⟨L', ⟨q1, q2, q3⟩, e1, e2, e3, A, M⟩, st'⟩ := X.virtualBackS C.hx (y := y) (z := z) C.hown (mvT C.warm w1) (mvT C.warm w2) (hnf _ (show Z.Warmed39 (s.setVm vm).vm from C.warm)) (mvT C.warm w5) (mvT C.warm w6) hy (backOwn (W := W) hM C.warm w3 w4 hf hl C.ew C.chv hs) qa qc (g := mkF m pc Ls st) rfl (hsz.trans C.mlq.symm) (Steps.refl _) (argsL := argsL) (rest := rest) hlen hst (by show 2 * 0 + _ ≤ _; omega) (C.dec hd) (fun _ _ => ⟨rfl, C.heq, hk, hn⟩)
  exact Endw.ste st' (K _ _ _ v (C.behind X' h2 N q2 q3 e1 e2 e3 A M) A q1)
/-! ## calls by a law of the library's (it interns nothing) -/
theorem Core.behindF (C : Core p l e R s m args below meth c bs ml ret nm own Z a0 EL nw vm T h k n) {B : Pt} {L L' : List Loc} {ws : List Addr} (X' : Stand p l e R (s.setVm vm) m args below meth c B.U B.locs B.cells B.slots) (N : Fr Z.heap.size L) (N' : Fr Z.heap.size L') (K : Keep h B.U.heap ws) (ge : ∀ x ∈ ws, Z.heap.size ≤ x) (S : ∀ x ∈ ws, Safe Z EL vm h x) (e1 : B.locs = L ++ L') (e2 : B.cells = k') (e3 : B.slots = n') :
    Core p l e R s m args below meth c bs ml ret nm own Z a0 EL nw vm B.U B.U.heap k' n' := by
  subst e2 e3
  exact C.on X' (e1 ▸ N.app N') rfl K ge S
theorem Core.specialF (C : Core p l e R s m args below meth c bs ml ret nm own Z a0 EL nw vm T h k n) {y : MethodName} {ix : Nat} {bytes : ByteArray} {mx ck cn : Nat} {ws : List Addr} {W : Nat} {a : Addr} {argsL st : List Value} {as' : Array Value} {Qf : Option Value → Heap → List Loc → Prop} (hy1 : y.name = "<init>")
    (w1 : (Jvm.Cond.methodLink own ix y).before a0 Z = true) (w2 : (Jvm.Cond.instanceMethod y).before a0 Z = true) (w3 : (Jvm.Cond.code y bytes mx none).before a0 Z = true) (hy : y.cls ≠ "java/lang/invoke/MethodHandle" ∧ y.cls ≠ "java/lang/invoke/VarHandle")
    (hK : Back l R p e below (s.setVm vm) args y 3 W (fun P a => a = as' ∧ P.U.heap = h ∧ P.cells + ck ≤ R.cells ∧ P.slots + cn ≤ R.slots) (fun P _ v B => ∃ L, Qf v B.U.heap L ∧ B.locs = P.locs ++ L ∧ B.cells = P.cells + ck ∧ B.slots = P.slots + cn))
    (hQ : ∀ v h' L, Qf v h' L → Fr Z.heap.size L ∧ Keep h h' ws) (ge : ∀ x ∈ ws, Z.heap.size ≤ x) (S : ∀ x ∈ ws, Safe Z EL vm h x) (has : as' = (.ref a :: argsL).toArray) (hk : k + ck ≤ R.cells) (hn : n + cn ≤ R.slots)
    (hlen : ∀ sig, parseMethodDescriptor y.desc = some sig → argsL.length = sig.parameters.length) (hst : st = argsL.reverse ++ .ref a :: rest) (hW : (rest.map fun v => v.category).sum ≤ W) (hsz : Ls.size = ml) (hd : decode bs pc = .ok (.invokespecial ix, 3)) (hp : pc + 3 = pc')
    (K : ∀ T' h' v, Core p l e R s m args below meth c bs ml ret nm own Z a0 EL nw vm T' h' (k + ck) (n + cn) → Keep h h' ws → CHr Z EL vm h vm h' → (∃ L, Qf v h' L) → Endw p e below T' (mkF m pc' Ls (v.toList ++ rest)) F) : Endw p e below T (mkF m pc Ls st) F := by
  subst hp has
  obtain ⟨-, ⟨L, X, N⟩, -⟩ := id C
  obtain ⟨v, vm₁, B, -, X', ⟨L', q1, e1, e2, e3⟩, st'⟩ := X.specialBack C.hx (y := y) hy1 C.hown (mvT C.warm w1) (mvT C.warm w2) (mvT C.warm w3) hy hK (g := mkF m pc Ls st) rfl (hsz.trans C.mlq.symm) (Steps.refl _) (a := a) (argsL := argsL) (rest := rest) hlen hst (by show 2 * 0 + _ ≤ _; omega) (C.dec hd) (fun _ _ => ⟨rfl, C.heq, hk, hn⟩)
  obtain ⟨r1, r2⟩ := hQ _ _ _ q1
  exact Endw.ste st' (K _ _ v (C.behindF X' N r1 r2 ge S e1 e2 e3) r2 (CHr.keep r2 S C.chv) ⟨_, q1⟩)
theorem Core.staticF (C : Core p l e R s m args below meth c bs ml ret nm own Z a0 EL nw vm T h k n) {y : MethodName} {ix : Nat} {bytes : ByteArray} {mx ck cn : Nat} {rt : Option FieldType} {ws : List Addr} {W : Nat} {argsL st : List Value} {as' : Array Value} {Qf : Option Value → Heap → List Loc → Prop}
    (w1 : (Jvm.Cond.methodLink own ix y).before a0 Z = true) (w2 : (Jvm.Cond.static y).before a0 Z = true) (w3 : (Jvm.Cond.code y bytes mx rt).before a0 Z = true) (w4 : (Jvm.Cond.initialized y.cls).before a0 Z = true) (hy : y.cls ≠ "java/lang/invoke/MethodHandle" ∧ y.cls ≠ "java/lang/invoke/VarHandle")
    (hK : Back l R p e below (s.setVm vm) args y 3 W (fun P a => a = as' ∧ P.U.heap = h ∧ P.cells + ck ≤ R.cells ∧ P.slots + cn ≤ R.slots) (fun P _ v B => ∃ L, Qf v B.U.heap L ∧ B.locs = P.locs ++ L ∧ B.cells = P.cells + ck ∧ B.slots = P.slots + cn))
    (hQ : ∀ v h' L, Qf v h' L → Fr Z.heap.size L ∧ Keep h h' ws) (ge : ∀ x ∈ ws, Z.heap.size ≤ x) (S : ∀ x ∈ ws, Safe Z EL vm h x) (has : as' = argsL.toArray) (hk : k + ck ≤ R.cells) (hn : n + cn ≤ R.slots)
    (hlen : ∀ sig, parseMethodDescriptor y.desc = some sig → argsL.length = sig.parameters.length) (hst : st = argsL.reverse ++ rest) (hW : (rest.map fun v => v.category).sum ≤ W) (hsz : Ls.size = ml) (hd : decode bs pc = .ok (.invokestatic ix, 3)) (hp : pc + 3 = pc')
    (K : ∀ T' h' v, Core p l e R s m args below meth c bs ml ret nm own Z a0 EL nw vm T' h' (k + ck) (n + cn) → Keep h h' ws → CHr Z EL vm h vm h' → (∃ L, Qf v h' L) → Endw p e below T' (mkF m pc' Ls (v.toList ++ rest)) F) : Endw p e below T (mkF m pc Ls st) F := by
  subst hp has
  obtain ⟨-, ⟨L, X, N⟩, -⟩ := id C
  obtain ⟨v, vm₁, B, -, X', ⟨L', q1, e1, e2, e3⟩, st'⟩ := Jvm.LawKit.callS X C.hx (y := y) C.hown (mvT C.warm w1) (mvT C.warm w2) (mvT C.warm w4) (mvT C.warm w3) hy hK (g := mkF m pc Ls st) rfl (hsz.trans C.mlq.symm) (argsL := argsL) (rest := rest) hlen hst (by show 2 * 0 + _ ≤ _; omega) (C.dec hd) (fun _ _ => ⟨rfl, C.heq, hk, hn⟩)
  obtain ⟨r1, r2⟩ := hQ _ _ _ q1
  exact Endw.st st' (K _ _ v (C.behindF X' N r1 r2 ge S e1 e2 e3) r2 (CHr.keep r2 S C.chv) ⟨_, q1⟩)
theorem Core.virtualF (C : Core p l e R s m args below meth c bs ml ret nm own Z a0 EL nw vm T h k n) {y z : MethodName} {Cl : String} {ix ck cn : Nat} {ws : List Addr} {W : Nat} {a : Addr} {argsL st : List Value} {as' : Array Value} {Qf : Option Value → Heap → List Loc → Prop}
    (w1 : (Jvm.Cond.methodLink own ix y).before a0 Z = true) (w2 : (Jvm.Cond.declares y).before a0 Z = true) (hnf : ∀ U : State, Z.Warmed39 U.vm → NotFace U y) (w5 : (Jvm.Cond.selects Cl y z).before a0 Z = true) (w6 : (Jvm.Cond.instanceMethod z).before a0 Z = true) (hy : y.cls ≠ "java/lang/invoke/MethodHandle" ∧ y.cls ≠ "java/lang/invoke/VarHandle")
    (hK : Back l R p e below (s.setVm vm) args z 3 W (fun P a => a = as' ∧ P.U.heap = h ∧ P.cells + ck ≤ R.cells ∧ P.slots + cn ≤ R.slots) (fun P _ v B => ∃ L, Qf v B.U.heap L ∧ B.locs = P.locs ++ L ∧ B.cells = P.cells + ck ∧ B.slots = P.slots + cn))
    (hQ : ∀ v h' L, Qf v h' L → Fr Z.heap.size L ∧ Keep h h' ws) (ge : ∀ x ∈ ws, Z.heap.size ≤ x) (S : ∀ x ∈ ws, Safe Z EL vm h x) (has : as' = (.ref a :: argsL).toArray) (E : Exa Z h a Cl) (hk : k + ck ≤ R.cells) (hn : n + cn ≤ R.slots)
    (hlen : ∀ sig, parseMethodDescriptor y.desc = some sig → argsL.length = sig.parameters.length) (hst : st = argsL.reverse ++ .ref a :: rest) (hW : (rest.map fun v => v.category).sum ≤ W) (hsz : Ls.size = ml) (hd : decode bs pc = .ok (.invokevirtual ix, 3)) (hp : pc + 3 = pc')
    (K : ∀ T' h' v, Core p l e R s m args below meth c bs ml ret nm own Z a0 EL nw vm T' h' (k + ck) (n + cn) → Keep h h' ws → CHr Z EL vm h vm h' → (∃ L, Qf v h' L) → Endw p e below T' (mkF m pc' Ls (v.toList ++ rest)) F) : Endw p e below T (mkF m pc Ls st) F := by
  subst hp has
  obtain ⟨-, ⟨L, X, N⟩, -⟩ := id C
  obtain ⟨cq, kq, qa, qb, qc⟩ := isOf (s := s.setVm vm) C.warm C.heq E
  obtain ⟨v, vm₁, B, -, X', ⟨L', q1, e1, e2, e3⟩, st'⟩ := X.virtualBack C.hx (y := y) (z := z) C.hown (mvT C.warm w1) (mvT C.warm w2) (hnf _ (show Z.Warmed39 (s.setVm vm).vm from C.warm)) (mvT C.warm w5) (mvT C.warm w6) hy hK qa qc (g := mkF m pc Ls st) rfl (hsz.trans C.mlq.symm) (Steps.refl _) (argsL := argsL) (rest := rest) hlen hst (by show 2 * 0 + _ ≤ _; omega) (C.dec hd) (fun _ _ => ⟨rfl, C.heq, hk, hn⟩)
  obtain ⟨r1, r2⟩ := hQ _ _ _ q1
  exact Endw.ste st' (K _ _ v (C.behindF X' N r1 r2 ge S e1 e2 e3) r2 (CHr.keep r2 S C.chv) ⟨_, q1⟩)
/-! ## the head and the end of a body -/
theorem Met.of {y : MethodName} {bytes : ByteArray} {mx : Nat} {rt : Option FieldType} {ws : List Jvm.Cond} {rm : Room} {as' : Array Value} {xs : List Addr} (hy : plainFor y = true) (hEL : EW Z a0 EL) (O : Ext Z.heap h)
    (body : ∀ p e s m below meth c T, Core p l e rm s m as' below meth c bytes mx rt y.name y.cls Z a0 EL nw s.vm T h 0 0 → (∀ x ∈ xs, Safe Z EL s.vm h x) → Endw p e below T (entryFrame m as' mx) (Fin s Z EL nw Q rm.cells rm.slots)) :
    Met l Z EL nw y bytes mx rt ws rm as' h xs Q := by
  refine MetFree.of_bodySF hy hisR ?_
  intro p e s m args below meth c s₁ Bd hml hP hK
  obtain ⟨rfl, hZ, hh, hC, hS⟩ := hP
  have X0 : Stand p l e rm s m args below meth c s₁ [] 0 0 := Stand.of_body Bd
  have e0 : s₁.heap = h := by rw [← hh, Bd.state]; rfl
  have hC' : CHv Z EL s.vm s.heap := by rw [hh]; exact hC
  refine body p e s m below meth c s₁ ⟨⟨Bd.exec, Bd.bytes, hml, Bd.returns, BodyLoose.notSynchronized Bd, (name_of_methodNamed Bd.named Bd.method).1, hEL⟩, ⟨[], X0, Fr.nil _⟩, e0, hZ, findClass_of_methodNamed Bd.named, ⟨s.heap.size, (State.WarmedH.refl s).since _, by rw [hh]; exact Nat.le_refl _⟩, ?_, O, fun _ => State.WarmedH.refl s⟩ hS
  rw [← hh]; exact CHr.refl hC'
theorem Core.leave (C : Core p l e R s m args below meth c bs ml ret nm own Z a0 EL nw vm T h k n) {K N : Nat} {v : Option Value} (hv : ret = none → v = none) (hk : k ≤ K) (hn : n ≤ N) (q : Q v h) (st : ∀ {L : List Loc} {vm' : Vm}, Stand p l e R (s.setVm vm') m args below meth c T L k n → ∀ fs, (∀ (f : JFrame) (acts : List Action), f.method = m → f.locked = none → f.entered = [] → (doReturn e (T.setTop f) acts v).1 = T.setFrames fs) → Steps p.tables e below (T.setTop g) (T.setFrames fs)) :
    Endw p e below T g (Fin s Z EL nw Q K N) := by
  obtain ⟨-, ⟨L, X, NL⟩, -⟩ := id C
  obtain ⟨k0, hS, hk0⟩ := C.since
  have hk1 : k0 ≤ T.heap.size := by rw [C.heq]; exact hk0
  obtain ⟨fs, h1, h2, h3, h4, h5, h6, h7⟩ := X.leaveW hS hk1 (v := v) (fun hr => hv (C.rtq.symm.trans hr)) C.locks
  have e1 : (T.setFrames fs).heap = h := C.heq
  refine ⟨_, _, st X fs h1, h2, h3, v, L, rfl, ⟨by rw [e1]; exact q, NL, by rw [e1]; exact C.old⟩, ⟨?_, fun z => State.WarmedH.trans (C.nwm z) X.warmed⟩, h4, h5, h6, h7.mono hk hn⟩
  have A := C.chr.trans (CHv.at X C.warm C.ew C.chv)
  rw [e1]; exact A
theorem Core.retV (C : Core p l e R s m args below meth c bs ml none nm own Z a0 EL nw vm T h k n) {K N : Nat} (hd : decode bs pc = .ok (.return_, 1)) (hk : k ≤ K) (hn : n ≤ N) (q : Q none h) : Endw p e below T (mkF m pc Ls []) (Fin s Z EL nw Q K N) :=
  C.leave (fun _ => rfl) hk hn q fun X fs hl => X.returnOut C.hx C.rtq (C.dec hd) hl
theorem Core.retX (C : Core p l e R s m args below meth c bs ml ret nm own Z a0 EL nw vm T h k n) {K N : Nat} {t : FieldType} {w : Value} {i : Instr} (hr : ret = some t) (hn' : narrow t w = w) (hi : (i = .ireturn ∧ (t = .int ∨ t = .boolean ∨ t = .byte ∨ t = .char ∨ t = .short) ∧ ∃ z, w = .int z) ∨ (i = .lreturn ∧ t = .long ∧ ∃ z, w = .long z) ∨ (i = .dreturn ∧ t = .double ∧ ∃ z, w = .double z) ∨ (i = .freturn ∧ t = .float ∧ ∃ z, w = .float z) ∨ (i = .areturn ∧ t.isReference = true ∧ w.isRef = true))
    (hd : decode bs pc = .ok (i, 1)) (hk : k ≤ K) (hn : n ≤ N) (q : Q (some w) h) : Endw p e below T (mkF m pc Ls (w :: rest)) (Fin s Z EL nw Q K N) :=
  C.leave (fun z => by subst hr; cases z) hk hn q fun X fs hl => RoadKit.retOut X C.hx (C.rtq.trans hr) hn' hi (C.dec hd) hl
theorem Core.retI (C : Core p l e R s m args below meth c bs ml ret nm own Z a0 EL nw vm T h k n) {K N : Nat} {t : FieldType} {z : Int32} (hr : ret = some t) (ht : t = .int ∨ t = .boolean ∨ t = .byte ∨ t = .char ∨ t = .short) (hn' : narrow t (.int z) = .int z) (hd : decode bs pc = .ok (.ireturn, 1)) (hk : k ≤ K) (hn : n ≤ N) (q : Q (some (.int z)) h) : Endw p e below T (mkF m pc Ls (.int z :: rest)) (Fin s Z EL nw Q K N) :=
  C.retX hr hn' (Or.inl ⟨rfl, ht, _, rfl⟩) hd hk hn q
theorem Core.retA (C : Core p l e R s m args below meth c bs ml ret nm own Z a0 EL nw vm T h k n) {K N : Nat} {t : FieldType} {w : Value} (hr : ret = some t) (ht : t.isReference = true) (hw : w.isRef = true) (hn' : narrow t w = w) (hd : decode bs pc = .ok (.areturn, 1)) (hk : k ≤ K) (hn : n ≤ N) (q : Q (some w) h) : Endw p e below T (mkF m pc Ls (w :: rest)) (Fin s Z EL nw Q K N) :=
  C.retX hr hn' (Or.inr (Or.inr (Or.inr (Or.inr ⟨rfl, ht, hw⟩)))) hd hk hn q
/-! ## String constants -/
theorem Core.ldcC (C : Core p l e R s m args below meth c bs ml ret nm own Z a0 EL nw vm T h k n) {text : String} {ix N : Nat} {vs : List Value} {z : Int32} (w : (Jvm.Cond.stringLink own ix text).before a0 Z = true) (wS : ∀ a ∈ Bundle.stringAtoms, a.before a0 Z = true) (hmem : (own, ix) ∈ EL) (ht : (∀ c ∈ text.toList, c.toNat < 256) ∧ text.toList.map (fun c => Value.int (Jvm.Lit.byteI c.toNat.toUInt16)) = vs) (hz : ¬ z < 0) (hl : z.toNatClampNeg = vs.length)
    (hN : 4 * text.toList.length ≤ N) (hbig : N ≤ 536870912) (hk : k + 2 ≤ R.cells) (hn : n + (N + 4) ≤ R.slots) (hd : decode bs pc = .ok (.ldc ix, 2)) (hp : pc + 2 = pc') (hnw : nw = false)
    (K : ∀ vm' T' h' a b kA, Core p l e R s m args below meth c bs ml ret nm own Z a0 EL nw vm' T' h' (k + 2) (n + (N + 4)) → Keep h h' [] → CHr Z EL vm h vm' h' → Exa Z h' a "java/lang/String" → Fld Z h' a "java/lang/String" "coder" "B" (.int 0) → Fld Z h' a "java/lang/String" "value" "[B" (.ref b) → Arv Z h' b kA .byte z vs (.int 0) → (∀ x, Safe Z EL vm' h' x → x ≠ a ∧ x ≠ b) → Endw p e below T' (mkF m pc' Ls (.ref a :: rest)) F) : Endw p e below T (mkF m pc Ls rest) F := by
  subst hp
  obtain ⟨-, ⟨L, X, NL⟩, -⟩ := id C
  obtain ⟨k0, hS, hk0⟩ := C.since
  obtain ⟨a, T', h', k1, b, kA, X', e', E, hS', hk1, hZ', hown', r1, r2, r3, r4, -, -, A, -, r5, st⟩ := RoadKit.ldcCH X C.hx C.warm C.hown w wS C.heq hS hk0 C.ew hmem C.chv ht hz hl (g := mkF m pc Ls rest) rfl (C.dec hd) hN hbig hk hn
  exact Endw.st st (K T'.vm T' h' a b kA ⟨C.1, ⟨L, X', NL⟩, e', hZ', hown', ⟨k1, hS', hk1⟩, C.chr.trans A, old_keep C.old (keep_of_ext E) all0, fun z => by rw [hnw] at z; cases z⟩ (keep_of_ext E) A r1 r2 r3 r4 r5)
theorem Core.ldcO (C : Core p l e R s m args below meth c bs ml ret nm own Z a0 EL nw vm T h k n) {text : String} {ix N : Nat} (w : (Jvm.Cond.stringLink own ix text).before a0 Z = true) (wS : ∀ a ∈ Bundle.stringAtoms, a.before a0 Z = true)
    (hN : 4 * text.toList.length ≤ N) (hbig : N ≤ 536870912) (hk : k + 2 ≤ R.cells) (hn : n + (N + 4) ≤ R.slots) (hd : decode bs pc = .ok (.ldc ix, 2)) (hp : pc + 2 = pc') (hnw : nw = false)
    (K : ∀ vm' T' h' a, Core p l e R s m args below meth c bs ml ret nm own Z a0 EL nw vm' T' h' (k + 2) (n + (N + 4)) → Keep h h' [] → CHr Z EL vm h vm' h' → Endw p e below T' (mkF m pc' Ls (.ref a :: rest)) F) : Endw p e below T (mkF m pc Ls rest) F := by
  subst hp
  obtain ⟨-, ⟨L, X, NL⟩, -⟩ := id C
  obtain ⟨k0, hS, hk0⟩ := C.since
  obtain ⟨a, T', h', k1, X', e', E, hS', hk1, hZ', hown', A, -, st⟩ := RoadKit.ldcOH X C.hx C.warm C.hown w wS C.heq hS hk0 C.ew C.chv (g := mkF m pc Ls rest) rfl (C.dec hd) hN hbig hk hn
  exact Endw.st st (K T'.vm T' h' a ⟨C.1, ⟨L, X', NL⟩, e', hZ', hown', ⟨k1, hS', hk1⟩, C.chr.trans A, old_keep C.old (keep_of_ext E) all0, fun z => by rw [hnw] at z; cases z⟩ (keep_of_ext E) A)
end Walk
end Jvm.Own
namespace Jvm.Own
open Jvm Jvm.ClassFile Sem Op Lib Jvm.Free Jvm.Stand Jvm.LawKit Jvm.RoadKit Bundle
section Help
variable {p : Program} {l : Launch} {e : Env} {R : Room} {s : State} {m : MethodId} {args : Array Value} {below : List Frame} {meth : Method} {c : Code}
variable {bs : ByteArray} {ml : Nat} {ret : Option FieldType} {nm own : String} {Z : State} {a0 : Array Value} {EL : List (String × Nat)} {nw : Bool} {vm : Vm} {T T' : State} {h h' : Heap} {k n : Nat} {g : JFrame} {rest : List Value}
theorem own_irem (C : Core p l e R s m args below meth c bs ml ret nm own Z a0 EL nw vm T h k n) {x y : Int32} {target : State} (hg : g.method = m) (hd : decode bs g.pc = .ok (.irem, 1)) (hs : g.stack = .int y :: .int x :: rest) (hy : y ≠ 0) (hr : Steps p.tables e below (T.setTop { g with pc := g.pc + 1, stack := .int (x % y) :: rest }) target) : Steps p.tables e below (T.setTop g) target := by
  obtain ⟨-, ⟨L, X, -⟩, -⟩ := id C
  exact iremM X C.hx hg (C.dec hd) hs hy hr
theorem own_ldcI (C : Core p l e R s m args below meth c bs ml ret nm own Z a0 EL nw vm T h k n) {ix : Nat} {v : Int32} {target : State} (w : (Jvm.Cond.constant own ix v).before a0 Z = true) (hg : g.method = m) (hd : decode bs g.pc = .ok (.ldc ix, 2)) (hr : Steps p.tables e below (T.setTop { g with pc := g.pc + 2, stack := .int v :: g.stack }) target) : Steps p.tables e below (T.setTop g) target := by
  obtain ⟨-, ⟨L, X, -⟩, -⟩ := id C
  exact X.ldcI C.hx C.hown (mvT C.warm w) hg (C.dec hd) hr
theorem own_nar_mask {x : Int32} : nar .char ((x &&& 255).toUInt32.toUInt16.toUInt32.toInt32) = x &&& 255 := by
  show ((x &&& 255).toUInt32.toUInt16.toUInt32.toInt32).toUInt32.toUInt16.toUInt32.toInt32 = _
  rw [i2c_mask, i2c_mask]
theorem own_toInt {y : Int32} (h : y.toBitVec.toNat < 2147483648) : y.toInt = (y.toBitVec.toNat : Int) := by
  have : y.toInt = y.toBitVec.toInt := rfl
  rw [this, BitVec.toInt_eq_toNat_cond, if_pos (by omega)]
theorem own_and_nat (x m : Int32) : (x &&& m).toBitVec.toNat = x.toBitVec.toNat &&& m.toBitVec.toNat := by simp [Int32.toBitVec_and, BitVec.toNat_and]
theorem own_cI (x : Int32) : (Value.int x).category = 1 := rfl
theorem own_cR (x : Addr) : (Value.ref x).category = 1 := rfl
theorem own_cN : Value.null.category = 1 := rfl
theorem own_cJ (x : Int64) : (Value.long x).category = 2 := rfl
theorem own_cD (x : UInt64) : (Value.double x).category = 2 := rfl
/-- a char of one byte -/
def B8 (c : Int32) : Prop := ¬ c < 0 ∧ ¬ (255 : Int32) < c
theorem own_mask255 (x : Int32) : B8 (x &&& 255) := by
  have e : (x &&& 255).toBitVec.toNat ≤ 255 := by rw [own_and_nat]; exact Nat.and_le_right
  have q := own_toInt (y := x &&& 255) (by omega)
  refine ⟨?_, ?_⟩ <;> rw [Int32.lt_iff_toInt_lt, q]
  · show ¬ (_ < (0 : Int)); omega
  · show ¬ ((255 : Int) < _); omega
theorem own_c0 {P : Int32 → Prop} : ∀ c ∈ ([] : List Int32), P c := fun _ q => nomatch q
theorem own_cS {P : Int32 → Prop} {y : Int32} {L : List Int32} (q : P y) (r : ∀ c ∈ L, P c) : ∀ c ∈ y :: L, P c := fun x z => (List.mem_cons.mp z).elim (fun u => u ▸ q) (r x)
theorem own_nar_ref {v : Value} {t : FieldType} (h : v.isRef = true) (ht : t.isReference = true := by rfl) : narrow t v = v := by
  cases v <;> cases t <;> first | rfl | (cases h; done) | (cases ht; done)
theorem own_fits_ref {v : Value} {t : FieldType} (h : v.isRef = true) (ht : t.isReference = true := by rfl) : fits t v = true := by
  cases v <;> cases t <;> first | rfl | (cases h; done) | (cases ht; done)
theorem own_nar_byte {x : Int32} : nar .byte (x.toInt8.toInt32) = x.toInt8.toInt32 := by
  show (x.toInt8.toInt32).toInt8.toInt32 = _
  simp
/-- the String at a: Latin-1, its byte[] at b, its chars cs -/
def Str (Z : State) (h : Heap) (a b : Addr) (kb : ClassId) (cs : List Int32) : Prop :=
  Exa Z h a "java/lang/String" ∧ Fld Z h a "java/lang/String" "coder" "B" (.int 0) ∧ Fld Z h a "java/lang/String" "value" "[B" (.ref b) ∧
    Arv Z h b kb .byte (Int32.ofNat cs.length) ((cs.map fun c => c.toInt8.toInt32).map Value.int) (.int 0) ∧ (∀ c ∈ cs, B8 c) ∧ cs.length ≤ 4000
theorem Str.keep {a b : Addr} {kb : ClassId} {cs : List Int32} {ws : List Addr} (S : Str Z h a b kb cs) (K : Keep h h' ws) (q1 : a ∉ ws) (q2 : b ∉ ws) : Str Z h' a b kb cs :=
  ⟨S.1.keep K, S.2.1.keep K q1, S.2.2.1.keep K q1, S.2.2.2.1.keep K q2, S.2.2.2.2⟩
theorem own_instanceofNull (C : Core p l e R s m args below meth c bs ml ret nm own Z a0 EL nw vm T h k n) {ix : Nat} {target : State} (hg : g.method = m) (hs : g.stack = .null :: rest) (hd : decode bs g.pc = .ok (.instanceof ix, 3)) (hr : Steps p.tables e below (T.setTop { g with pc := g.pc + 3, stack := .int 0 :: rest }) target) : Steps p.tables e below (T.setTop g) target := by
  obtain ⟨-, ⟨L, X, -⟩, -⟩ := id C
  exact X.instanceofNull C.hx hg hs (C.dec hd) _ hr
theorem own_checkcastNull (C : Core p l e R s m args below meth c bs ml ret nm own Z a0 EL nw vm T h k n) {ix : Nat} {target : State} (hg : g.method = m) (hs : g.stack = .null :: rest) (hd : decode bs g.pc = .ok (.checkcast ix, 3)) (hr : Steps p.tables e below (T.setTop { g with pc := g.pc + 3 }) target) : Steps p.tables e below (T.setTop g) target := by
  obtain ⟨-, ⟨L, X, -⟩, -⟩ := id C
  exact X.checkcastNull C.hx hg hs (C.dec hd) _ hr
theorem own_ldc2J (C : Core p l e R s m args below meth c bs ml ret nm own Z a0 EL nw vm T h k n) {ix : Nat} {v : Int64} {target : State} (w : (Jvm.Cond.constantLong own ix v).before a0 Z = true) (hg : g.method = m) (hd : decode bs g.pc = .ok (.ldc2_w ix, 3)) (hr : Steps p.tables e below (T.setTop { g with pc := g.pc + 3, stack := .long v :: g.stack }) target) : Steps p.tables e below (T.setTop g) target := by
  obtain ⟨-, ⟨L, X, -⟩, -⟩ := id C
  exact X.ldc2J C.hx C.hown (mvT C.warm w) hg (C.dec hd) hr
variable {F : Outcome → State → Prop} {pc pc' : Nat} {Ls : Array Slot}
theorem Core.instY (C : Core p l e R s m args below meth c bs ml ret nm own Z a0 EL nw vm T h k n) {K : String} {ix : Nat} {a : Addr} (w : (Jvm.Cond.classLink own ix K).before a0 Z = true) (f : Ins Z h a K true) (hd : decode bs pc = .ok (.instanceof ix, 3)) (hp : pc + 3 = pc')
    (Kk : ∀ T', Core p l e R s m args below meth c bs ml ret nm own Z a0 EL nw vm T' h k n → Endw p e below T' (mkF m pc' Ls (.int 1 :: rest)) F) : Endw p e below T (mkF m pc Ls (.ref a :: rest)) F := by
  subst hp
  obtain ⟨-, ⟨L, X, N⟩, -⟩ := id C
  obtain ⟨T', X', e', st⟩ := RoadKit.instY X C.hx C.warm C.hown w C.heq f (g := mkF m pc Ls (.ref a :: rest)) rfl rfl (C.dec hd)
  exact Endw.st st (Kk T' (C.same X' N e'))
theorem Core.castY (C : Core p l e R s m args below meth c bs ml ret nm own Z a0 EL nw vm T h k n) {K : String} {ix : Nat} {a : Addr} (w : (Jvm.Cond.classLink own ix K).before a0 Z = true) (f : Ins Z h a K true) (hd : decode bs pc = .ok (.checkcast ix, 3)) (hp : pc + 3 = pc')
    (Kk : ∀ T', Core p l e R s m args below meth c bs ml ret nm own Z a0 EL nw vm T' h k n → Endw p e below T' (mkF m pc' Ls (.ref a :: rest)) F) : Endw p e below T (mkF m pc Ls (.ref a :: rest)) F := by
  subst hp
  obtain ⟨-, ⟨L, X, N⟩, -⟩ := id C
  obtain ⟨T', X', e', st⟩ := RoadKit.castY X C.hx C.warm C.hown w C.heq f (g := mkF m pc Ls (.ref a :: rest)) rfl rfl (C.dec hd)
  exact Endw.st st (Kk T' (C.same X' N e'))
theorem Core.instNo (C : Core p l e R s m args below meth c bs ml ret nm own Z a0 EL nw vm T h k n) {K Cl : String} {ix : Nat} {a : Addr} (w : (Jvm.Cond.classLink own ix K).before a0 Z = true) (E : Exa Z h a Cl) (f : ∃ c t, Z.vm.findClass Cl = some c ∧ Z.vm.findClass K = some t ∧ Z.vm.assignable c t = false) (hd : decode bs pc = .ok (.instanceof ix, 3)) (hp : pc + 3 = pc')
    (Kk : ∀ T', Core p l e R s m args below meth c bs ml ret nm own Z a0 EL nw vm T' h k n → Endw p e below T' (mkF m pc' Ls (.int 0 :: rest)) F) : Endw p e below T (mkF m pc Ls (.ref a :: rest)) F := by
  subst hp
  obtain ⟨-, ⟨L, X, N⟩, -⟩ := id C
  obtain ⟨T', X', e', st⟩ := RoadKit.instNo X C.hx C.warm C.hown w C.heq E f (g := mkF m pc Ls (.ref a :: rest)) rfl rfl (C.dec hd)
  exact Endw.st st (Kk T' (C.same X' N e'))
theorem own_found {K : String} {i : Nat} (wk : (Jvm.Cond.instantiable K i).before a0 Z = true) : ∃ t kt, Z.vm.findClass K = some t ∧ Z.vm.classes[t]? = some kt ∧ kt.kind = .ordinary ∧ kt.isInterface = false := by
  obtain ⟨t, kt, h1, h2, h3, h4, -⟩ := Cond.instantiable_spec wk
  exact ⟨t, kt, h1, h2, h3, (Bool.or_eq_false_iff.mp h4).1⟩
theorem own_NSroot {O K : String} {i : Nat} (w : (Jvm.Cond.noSuperclass O).before a0 Z = true) (wk : (Jvm.Cond.instantiable K i).before a0 Z = true) (hn : O ≠ K) : NS Z O K := by
  obtain ⟨c, k, h1, h2, h3, -, -⟩ := Cond.noSuperclass_spec w
  obtain ⟨t, -, g1, -⟩ := own_found wk
  have ne := ids_ne h1 g1 hn
  refine ⟨c, t, h1, g1, fun fuel => ?_⟩
  cases fuel with
  | zero => rfl
  | succ f => simp [Vm.isSubclassAux, ne, h2, h3]
theorem own_NSno {Cl S K : String} {i : Nat} (w : (Jvm.Cond.superclass Cl S).before a0 Z = true) (wk : (Jvm.Cond.instantiable K i).before a0 Z = true) (n : NS Z Cl K) (hn : Cl ≠ K) : ∃ c t, Z.vm.findClass Cl = some c ∧ Z.vm.findClass K = some t ∧ Z.vm.assignable c t = false := by
  obtain ⟨c, t, h0, g0, n3⟩ := n
  obtain ⟨p, k, kp, h1, h2, h3, h4, h5, -, h7⟩ := Cond.superclass_spec h0 w
  obtain ⟨t', kt, g1, g2, g3, g4⟩ := own_found wk
  cases g0.symm.trans g1
  have ne := ids_ne h0 g0 hn
  refine ⟨c, t, h0, g0, ?_⟩
  show Z.vm.assignableAux (255 + 1) c t = false
  simp [Vm.assignableAux, ne, h2, g2, h5, g3, g4, Vm.isSubclass, n3]
end Help
end Jvm.Own
/- laws to paste: Road.backV (cut by pick.py; bodies as the Statement names them) -/
namespace Jvm.Pilot.@@N@@
namespace StrChars
open Jvm Sem ClassFile Op Lib Jvm.Stand Jvm.Free.XT Jvm.Free.ALB Jvm.Free.JM Jvm.Free
open Jvm.Lib.Cold (StaticIs)
/-- a char array whose places are chars -/
def Ch (a : Addr) (A : Cell) (U : State) : Prop := Arr .char a A U ∧ Typed .char A
theorem Ch.mv {a : Addr} {A : Cell} {U U' : State} (h : Ch a A U) (hal : U.vm.Alike U'.vm) (hh : U'.heap = U.heap) : Ch a A U' := ⟨h.1.mv hal hh, h.2⟩
theorem Ch.keep {a : Addr} {A : Cell} {U U' : State} (h : Ch a A U) (hal : U.vm.Alike U'.vm) (hk : U'.heap[a]? = some A) : Ch a A U' := ⟨h.1.keep hal hk, h.2⟩
/-- what place i of a char[]'s cell holds -/
def cv (A : Cell) (i : Nat) : Int32 := match A.slots[i]? with | some (.int x) => x | _ => 0
theorem Ch.get {a : Addr} {A : Cell} {U : State} (h : Ch a A U) {i : Nat} (hi : i < A.slots.size) : A.slots[i]? = some (.int (cv A i)) := by
  have e := Array.getElem?_eq_getElem hi
  have f := h.2 i _ e
  unfold cv; rw [e]
  generalize A.slots[i] = v at f
  cases v <;> simp [fits] at f ⊢
/-- the byte that i2b leaves of a char -/
def lo8 (x : Int32) : Int32 := x.toInt8.toInt32
theorem fits_lo8 (y : Int32) : fits .byte (.int (lo8 y)) = true := by
  have h1 := y.toInt8.le_toInt
  have h2 := y.toInt8.toInt_lt
  simp only [lo8, fits, Bool.and_eq_true, decide_eq_true_eq, Int32.le_iff_toInt_le, Int8.toInt_toInt32, show (-128 : Int32).toInt = -128 from by decide, show (127 : Int32).toInt = 127 from by decide]
  omega
/-- A' is A but that each place j of lo .. hi - 1 holds f j -/
def Laid (A A' : Cell) (lo hi : Nat) (f : Nat → Value) : Prop := A'.cls = A.cls ∧ A'.vm = A.vm ∧ A'.slots.size = A.slots.size ∧ ∀ i, A'.slots[i]? = if lo ≤ i ∧ i < hi then some (f i) else A.slots[i]?
theorem Laid.zero (A : Cell) (lo : Nat) (f : Nat → Value) : Laid A A lo (lo + 0) f := ⟨rfl, rfl, rfl, fun i => by rw [if_neg (by omega)]⟩
theorem Laid.step {A Ak : Cell} {lo k : Nat} {f : Nat → Value} {v : Value} (h : Laid A Ak lo k f) (hlo : lo ≤ k) (hk : k < Ak.slots.size) (hv : v = f k) : Laid A (Ak.setSlot k v) lo (k + 1) f := by
  refine ⟨h.1, h.2.1, by simpa [Cell.setSlot] using h.2.2.1, fun i => ?_⟩
  by_cases e : k = i
  · subst e; rw [Cell.slots_setSlot_self v hk, if_pos (by omega), hv]
  · rw [Cell.slots_setSlot_ne v e, h.2.2.2 i]
    by_cases q : lo ≤ i ∧ i < k
    · rw [if_pos q, if_pos (by omega)]
    · rw [if_neg q, if_neg (by omega)]
def U16 : String := "java/lang/StringUTF16"
namespace Cmp5
def yN : MethodName := ⟨"java/lang/StringUTF16", "compress", "([CI[BII)I"⟩
abbrev yB : ByteArray := jdk_52_method_21_code
theorem d0 : decode yB 0 = .ok (.iconst 0, 1) := by decide +kernel
theorem d1 : decode yB 1 = .ok (.istore 5, 2) := by decide +kernel
theorem d3 : decode yB 3 = .ok (.iload 5, 2) := by decide +kernel
theorem d5 : decode yB 5 = .ok (.iload 4, 2) := by decide +kernel
theorem d7 : decode yB 7 = .ok (.if_icmp (.ge) 37, 3) := by decide +kernel
theorem d10 : decode yB 10 = .ok (.aload_n 0, 1) := by decide +kernel
theorem d11 : decode yB 11 = .ok (.iload_n 1, 1) := by decide +kernel
theorem d12 : decode yB 12 = .ok (.caload, 1) := by decide +kernel
theorem d13 : decode yB 13 = .ok (.istore 6, 2) := by decide +kernel
theorem d15 : decode yB 15 = .ok (.iload 6, 2) := by decide +kernel
theorem d17 : decode yB 17 = .ok (.sipush 255, 3) := by decide +kernel
theorem d20 : decode yB 20 = .ok (.if_icmp (.le) 6, 3) := by decide +kernel
theorem d26 : decode yB 26 = .ok (.aload_n 2, 1) := by decide +kernel
theorem d27 : decode yB 27 = .ok (.iload_n 3, 1) := by decide +kernel
theorem d28 : decode yB 28 = .ok (.iload 6, 2) := by decide +kernel
theorem d30 : decode yB 30 = .ok (.i2b, 1) := by decide +kernel
theorem d31 : decode yB 31 = .ok (.bastore, 1) := by decide +kernel
theorem d32 : decode yB 32 = .ok (.iinc 1 1, 3) := by decide +kernel
theorem d35 : decode yB 35 = .ok (.iinc 3 1, 3) := by decide +kernel
theorem d38 : decode yB 38 = .ok (.iinc 5 1, 3) := by decide +kernel
theorem d41 : decode yB 41 = .ok (.goto (-38), 3) := by decide +kernel
theorem d44 : decode yB 44 = .ok (.iload 4, 2) := by decide +kernel
theorem d46 : decode yB 46 = .ok (.ireturn, 1) := by decide +kernel
def site : List Cond := []
def tab : Cond := tabOf yN yB 7 (some .int) site
def P (b : Addr) (A : Cell) (d : Addr) (B : Cell) (o q len : Nat) (args : Array Value) (s : State) : Prop := args = #[.ref b, .int (Int32.ofNat o), .ref d, .int (Int32.ofNat q), .int (Int32.ofNat len)] ∧ Ch b A s ∧ Arr .byte d B s ∧ b ≠ d ∧ o + len ≤ A.slots.size ∧ q + len ≤ B.slots.size ∧ ∀ i, i < len → ¬ 255 < cv A (o + i)
def E (b : Addr) (A : Cell) (d : Addr) (B : Cell) (o q len : Nat) (r : Option Value) (s u : State) : Prop := r = some (.int (Int32.ofNat len)) ∧ ∃ B', Put d B' s u ∧ Laid B B' q (q + len) (fun j => Value.int (lo8 (cv A (o + (j - q)))))
/-- no char of the range above 255: len; the places written hold each char's low byte -/
theorem law (l : Launch) (b : Addr) (A : Cell) (d : Addr) (B : Cell) (o q len : Nat) : Law l yN 5 5 0 0 yB 7 (some .int) site (P b A d B o q len) (E b A d B o q len) (copyLocs d q len) 0 0 := by
  refine Law.of_walk (plainFor_of_name (by decide +kernel)) (by decide +kernel) (by decide +kernel) (by decide) (fun _ _ h => by rw [h.1]; rfl) (fun _ U U' hal hh h => ⟨h.1, h.2.1.mv hal hh, h.2.2.1.mv hal hh, h.2.2.2⟩) (fun r U U' V V' h1 hal h2 h => ⟨h.1, h.2.elim fun B' q => ⟨B', q.1.mv h1 h2, q.2⟩⟩) ?_
  intro p e s m args below meth c s₁ X0 hexec hbytes hml hret hlk hnm hown hh0 W hP
  obtain ⟨rfl, hA, hB, hne, l1, l2, hp⟩ := hP
  have c1 : Steps p.tables e below (s₁.setTop (entryFrame m #[.ref b, .int (Int32.ofNat o), .ref d, .int (Int32.ofNat q), .int (Int32.ofNat len)] 7)) (s₁.setTop (mkF m 0 #[.val (.ref b), .val (.int (Int32.ofNat o)), .val (.ref d), .val (.int (Int32.ofNat q)), .val (.int (Int32.ofNat len)), .unset, .unset] [])) := entry rfl
  have hA0 := hA.1.mv X0.warmed.alike hh0
  have hB0 := hB.mv X0.warmed.alike hh0
  have a31 := hA.1.2.2.2
  have c2 : Steps p.tables e below (s₁.setTop (entryFrame m #[.ref b, .int (Int32.ofNat o), .ref d, .int (Int32.ofNat q), .int (Int32.ofNat len)] 7)) (s₁.setTop (mkF m 3 #[.val (.ref b), .val (.int (Int32.ofNat o)), .val (.ref d), .val (.int (Int32.ofNat q)), .val (.int (Int32.ofNat len)), .val (.int 0), .unset] [])) := c1.trans (by
    refine iconstV X0.here hexec rfl 0 (hb hbytes d0) (by decide) ?_
    refine XS.istore X0.here hexec rfl (hb hbytes d1) rfl rfl ?_
    exact Steps.refl _)
  have loop : ∀ (r i : Nat), i + r = len → ∀ (z : Slot), (z = .unset ∨ ∃ w, z = .val w ∧ w.category = 1) → ∀ (Tl : State) (Bk : Cell), Stand p l e { frames := 0, locals := 0, cells := 0, slots := 0 } s m #[.ref b, .int (Int32.ofNat o), .ref d, .int (Int32.ofNat q), .int (Int32.ofNat len)] below meth c Tl ([] ++ copyLocs d q i) 0 0 → Put d Bk s₁ Tl → Laid B Bk q (q + i) (fun j => Value.int (lo8 (cv A (o + (j - q))))) →
      Steps p.tables e below (s₁.setTop (entryFrame m #[.ref b, .int (Int32.ofNat o), .ref d, .int (Int32.ofNat q), .int (Int32.ofNat len)] 7)) (Tl.setTop (mkF m 3 #[.val (.ref b), .val (.int (Int32.ofNat (o + i))), .val (.ref d), .val (.int (Int32.ofNat (q + i))), .val (.int (Int32.ofNat len)), .val (.int (Int32.ofNat i)), z] [])) → ∃ (T' : State) (B' : Cell) (z' : Slot), Stand p l e { frames := 0, locals := 0, cells := 0, slots := 0 } s m #[.ref b, .int (Int32.ofNat o), .ref d, .int (Int32.ofNat q), .int (Int32.ofNat len)] below meth c T' ([] ++ copyLocs d q len) 0 0 ∧ Put d B' s₁ T' ∧ Laid B B' q (q + len) (fun j => Value.int (lo8 (cv A (o + (j - q))))) ∧
      Steps p.tables e below (s₁.setTop (entryFrame m #[.ref b, .int (Int32.ofNat o), .ref d, .int (Int32.ofNat q), .int (Int32.ofNat len)] 7)) (T'.setTop (mkF m 3 #[.val (.ref b), .val (.int (Int32.ofNat (o + len))), .val (.ref d), .val (.int (Int32.ofNat (q + len))), .val (.int (Int32.ofNat len)), .val (.int (Int32.ofNat len)), z'] [])) := by
    intro r
    induction r with
    | zero =>
      intro i hi z hz Tl Bk Xl pl fl cl
      have hil : i = len := by omega
      rw [hil] at Xl fl cl
      exact ⟨Tl, Bk, z, Xl, pl, fl, cl⟩
    | succ r ih =>
      intro i hi z hz Tl Bk Xl pl fl cl
      have all := X0.warmed.alike.symm.trans Xl.warmed.alike
      have hAl := hA0.keep all (pl.other hne hA0.1)
      have hBk := hB0.like all pl.1 fl.1 fl.2.1 fl.2.2.1
      have hlt : q + i < Bk.slots.size := by rw [fl.2.2.1]; omega
      have c3 : Steps p.tables e below (s₁.setTop (entryFrame m #[.ref b, .int (Int32.ofNat o), .ref d, .int (Int32.ofNat q), .int (Int32.ofNat len)] 7)) (Tl.setTop (mkF m 12 #[.val (.ref b), .val (.int (Int32.ofNat (o + i))), .val (.ref d), .val (.int (Int32.ofNat (q + i))), .val (.int (Int32.ofNat len)), .val (.int (Int32.ofNat i)), z] [.int (Int32.ofNat (o + i)), .ref b])) := cl.trans (by
        refine XS.iload Xl.here hexec rfl (hb hbytes d3) rfl ?_
        refine XS.iload Xl.here hexec rfl (hb hbytes d5) rfl ?_
        refine XS.icmpNo Xl.here hexec rfl (hb hbytes d7) rfl (ii_ge_f (lt32 (by omega) (by omega))) ?_
        refine XS.aloadN Xl.here hexec rfl (hb hbytes d10) rfl rfl ?_
        refine XS.iloadN Xl.here hexec rfl (hb hbytes d11) rfl ?_
        exact Steps.refl _)
      have c4 : Steps p.tables e below (s₁.setTop (entryFrame m #[.ref b, .int (Int32.ofNat o), .ref d, .int (Int32.ofNat q), .int (Int32.ofNat len)] 7)) (Tl.setTop (mkF m 13 #[.val (.ref b), .val (.int (Int32.ofNat (o + i))), .val (.ref d), .val (.int (Int32.ofNat (q + i))), .val (.int (Int32.ofNat len)), .val (.int (Int32.ofNat i)), z] [.int (cv A (o + i))])) := c3.trans (by
        refine Xl.aget hexec hAl rfl (hA.get (i := o + i) (by omega)) rfl rfl (hb hbytes d12) ?_
        exact Steps.refl _)
      have c5 : Steps p.tables e below (s₁.setTop (entryFrame m #[.ref b, .int (Int32.ofNat o), .ref d, .int (Int32.ofNat q), .int (Int32.ofNat len)] 7)) (Tl.setTop (mkF m 15 #[.val (.ref b), .val (.int (Int32.ofNat (o + i))), .val (.ref d), .val (.int (Int32.ofNat (q + i))), .val (.int (Int32.ofNat len)), .val (.int (Int32.ofNat i)), .val (.int (cv A (o + i)))] [])) := c4.trans (by
        refine XS.istoreS Xl.here hexec rfl (hb hbytes d13) rfl rfl hz ?_
        exact Steps.refl _)
      have c6 : Steps p.tables e below (s₁.setTop (entryFrame m #[.ref b, .int (Int32.ofNat o), .ref d, .int (Int32.ofNat q), .int (Int32.ofNat len)] 7)) (Tl.setTop (mkF m 31 #[.val (.ref b), .val (.int (Int32.ofNat (o + i))), .val (.ref d), .val (.int (Int32.ofNat (q + i))), .val (.int (Int32.ofNat len)), .val (.int (Int32.ofNat i)), .val (.int (cv A (o + i)))] [.int (lo8 (cv A (o + i))), .int (Int32.ofNat (q + i)), .ref d])) := c5.trans (by
        refine XS.iload Xl.here hexec rfl (hb hbytes d15) rfl ?_
        refine sipushV Xl.here hexec rfl 255 (hb hbytes d17) (by decide) ?_
        refine XS.icmpYes Xl.here hexec rfl (pc0 := 20) rfl (hb hbytes d20) rfl (ii_le_t (hp i (by omega))) (by decide) rfl ?_
        refine XS.aloadN Xl.here hexec rfl (hb hbytes d26) rfl rfl ?_
        refine XS.iloadN Xl.here hexec rfl (hb hbytes d27) rfl ?_
        refine XS.iload Xl.here hexec rfl (hb hbytes d28) rfl ?_
        refine i2b Xl.here hexec rfl (hb hbytes d30) rfl ?_
        exact Steps.refl _)
      obtain ⟨T7, X7, p7, st7⟩ := Xl.aput hexec hBk rfl hlt rfl (fits_lo8 (cv A (o + i))) (g := (mkF m 31 #[.val (.ref b), .val (.int (Int32.ofNat (o + i))), .val (.ref d), .val (.int (Int32.ofNat (q + i))), .val (.int (Int32.ofNat len)), .val (.int (Int32.ofNat i)), .val (.int (cv A (o + i)))] [.int (lo8 (cv A (o + i))), .int (Int32.ofNat (q + i)), .ref d])) rfl (rest := []) rfl (hb hbytes d31)
      have c8 : Steps p.tables e below (s₁.setTop (entryFrame m #[.ref b, .int (Int32.ofNat o), .ref d, .int (Int32.ofNat q), .int (Int32.ofNat len)] 7)) (T7.setTop (mkF m 32 #[.val (.ref b), .val (.int (Int32.ofNat (o + i))), .val (.ref d), .val (.int (Int32.ofNat (q + i))), .val (.int (Int32.ofNat len)), .val (.int (Int32.ofNat i)), .val (.int (cv A (o + i)))] [])) := c6.trans (st7 _ (Steps.refl _))
      have c9 : Steps p.tables e below (s₁.setTop (entryFrame m #[.ref b, .int (Int32.ofNat o), .ref d, .int (Int32.ofNat q), .int (Int32.ofNat len)] 7)) (T7.setTop (mkF m 3 #[.val (.ref b), .val (.int (Int32.ofNat (o + i) + 1)), .val (.ref d), .val (.int (Int32.ofNat (q + i) + 1)), .val (.int (Int32.ofNat len)), .val (.int (Int32.ofNat i + 1)), .val (.int (cv A (o + i)))] [])) := c8.trans (by
        refine iincV X7.here hexec rfl 1 (hb hbytes d32) (by decide) rfl rfl ?_
        refine iincV X7.here hexec rfl 1 (hb hbytes d35) (by decide) rfl rfl ?_
        refine iincV X7.here hexec rfl 1 (hb hbytes d38) (by decide) rfl rfl ?_
        refine XS.goto X7.here hexec rfl (pc0 := 41) rfl (hb hbytes d41) (by decide) rfl ?_
        exact Steps.refl _)
      have c10 : Steps p.tables e below (s₁.setTop (entryFrame m #[.ref b, .int (Int32.ofNat o), .ref d, .int (Int32.ofNat q), .int (Int32.ofNat len)] 7)) (T7.setTop (mkF m 3 #[.val (.ref b), .val (.int (Int32.ofNat (o + (i + 1)))), .val (.ref d), .val (.int (Int32.ofNat (q + (i + 1)))), .val (.int (Int32.ofNat len)), .val (.int (Int32.ofNat (i + 1))), .val (.int (cv A (o + i)))] [])) := by
        have := c9
        rw [succ32, succ32, succ32] at this
        exact this
      exact ih (i + 1) (by omega) _ (Or.inr ⟨_, rfl, rfl⟩) T7 _ (by rw [copyLocs_step, ← List.append_assoc]; exact X7) (pl.trans p7) (fl.step (by omega) hlt (by simp)) c10
  obtain ⟨T9, B9, z9, X9, p9, f9, g9⟩ := loop len 0 (by omega) .unset (Or.inl rfl) s₁ B (by simpa [copyLocs] using X0) ⟨hB0.1, fun _ _ => rfl, rfl⟩ (Laid.zero _ _ _) c2
  have c11 : Steps p.tables e below (s₁.setTop (entryFrame m #[.ref b, .int (Int32.ofNat o), .ref d, .int (Int32.ofNat q), .int (Int32.ofNat len)] 7)) (T9.setTop (mkF m 46 #[.val (.ref b), .val (.int (Int32.ofNat (o + len))), .val (.ref d), .val (.int (Int32.ofNat (q + len))), .val (.int (Int32.ofNat len)), .val (.int (Int32.ofNat len)), z9] [.int (Int32.ofNat len)])) := g9.trans (by
    refine XS.iload X9.here hexec rfl (hb hbytes d3) rfl ?_
    refine XS.iload X9.here hexec rfl (hb hbytes d5) rfl ?_
    refine XS.icmpYes X9.here hexec rfl (pc0 := 7) rfl (hb hbytes d7) rfl (ii_ge_t (nlt32 (by omega) (Nat.le_refl _))) (by decide) rfl ?_
    refine XS.iload X9.here hexec rfl (hb hbytes d44) rfl ?_
    exact Steps.refl _)
  exact ⟨T9, some (.int (Int32.ofNat len)), _, _, _, X9, by simp, rfl, rfl, (fun h => by cases h), ⟨rfl, B9, p9.from hh0, f9⟩, fun fs hl => c11.trans (X9.ireturnOut hexec hret rfl (Or.inl rfl) (hb hbytes d46) hl)⟩
end Cmp5
namespace Cmp3
def yN : MethodName := ⟨"java/lang/StringUTF16", "compress", "([CII)[B"⟩
abbrev yB : ByteArray := jdk_52_method_16_code
theorem d0 : decode yB 0 = .ok (.iload_n 2, 1) := by decide +kernel
theorem d1 : decode yB 1 = .ok (.newarray .byte, 2) := by decide +kernel
theorem d3 : decode yB 3 = .ok (.astore_n 3, 1) := by decide +kernel
theorem d4 : decode yB 4 = .ok (.aload_n 0, 1) := by decide +kernel
theorem d5 : decode yB 5 = .ok (.iload_n 1, 1) := by decide +kernel
theorem d6 : decode yB 6 = .ok (.aload_n 3, 1) := by decide +kernel
theorem d7 : decode yB 7 = .ok (.iconst 0, 1) := by decide +kernel
theorem d8 : decode yB 8 = .ok (.iload_n 2, 1) := by decide +kernel
theorem d9 : decode yB 9 = .ok (.invokestatic 115, 3) := by decide +kernel
theorem d12 : decode yB 12 = .ok (.istore 4, 2) := by decide +kernel
theorem d14 : decode yB 14 = .ok (.iload 4, 2) := by decide +kernel
theorem d16 : decode yB 16 = .ok (.iload_n 2, 1) := by decide +kernel
theorem d17 : decode yB 17 = .ok (.if_icmp (.eq) 40, 3) := by decide +kernel
theorem d57 : decode yB 57 = .ok (.aload_n 3, 1) := by decide +kernel
theorem d58 : decode yB 58 = .ok (.areturn, 1) := by decide +kernel
def site : List Cond := [.arrayClass .byte, Cmp5.tab] ++ staticW U16 115 Cmp5.yN
def tab : Cond := tabOf yN yB 6 (some (.array .byte)) site
def P (b : Addr) (A : Cell) (o len : Nat) (args : Array Value) (s : State) : Prop := args = #[.ref b, .int (Int32.ofNat o), .int (Int32.ofNat len)] ∧ Ch b A s ∧ o + len ≤ A.slots.size ∧ len ≤ 536870912 ∧ ∀ i, i < len → ¬ 255 < cv A (o + i)
def E (b : Addr) (A : Cell) (o len : Nat) (r : Option Value) (s u : State) : Prop := NewArr .byte "[B" len (fun j => .int (lo8 (cv A (o + j)))) r s u ∧ u.heap.size = s.heap.size + 1
/-- no char of the range above 255: a new byte[] of their low bytes -/
theorem law (l : Launch) (b : Addr) (A : Cell) (o len : Nat) : Law l yN 3 3 1 18 yB 6 (some (.array .byte)) site (P b A o len) (E b A o len) [] 1 len := by
  refine Law.of_walk (plainFor_of_name (by decide +kernel)) (by decide +kernel) (by decide +kernel) (by decide) (fun _ _ h => by rw [h.1]; rfl) (fun _ U U' hal hh h => ⟨h.1, h.2.1.mv hal hh, h.2.2⟩) (fun r U U' V V' h1 hal h2 h => ⟨NewArr.mv r U U' V V' h1 hal h2 h.1, by rw [h1, h2]; exact h.2⟩) ?_
  intro p e s m args below meth c s₁ X0 hexec hbytes hml hret hlk hnm hown hh0 W hP
  obtain ⟨rfl, hA, l1, l2, hp⟩ := hP
  have a31 := hA.1.2.2.2
  have c1 : Steps p.tables e below (s₁.setTop (entryFrame m #[.ref b, .int (Int32.ofNat o), .int (Int32.ofNat len)] 6)) (s₁.setTop (mkF m 0 #[.val (.ref b), .val (.int (Int32.ofNat o)), .val (.int (Int32.ofNat len)), .unset, .unset, .unset] [])) := entry rfl
  have c2 : Steps p.tables e below (s₁.setTop (entryFrame m #[.ref b, .int (Int32.ofNat o), .int (Int32.ofNat len)] 6)) (s₁.setTop (mkF m 1 #[.val (.ref b), .val (.int (Int32.ofNat o)), .val (.int (Int32.ofNat len)), .unset, .unset, .unset] [.int (Int32.ofNat len)])) := c1.trans (by
    refine XS.iloadN X0.here hexec rfl (hb hbytes d0) rfl ?_
    exact Steps.refl _)
  obtain ⟨T3, B3, X3, ba3, bs3, bv3, bh3, bf3, st3⟩ := X0.anew hexec (atype := .byte) (wk W (.arrayClass .byte)) rfl (by show len * 1 ≤ _; omega) (by omega) (g := (mkF m 1 #[.val (.ref b), .val (.int (Int32.ofNat o)), .val (.int (Int32.ofNat len)), .unset, .unset, .unset] [.int (Int32.ofNat len)])) rfl (hb hbytes d1) (rest := []) rfl (Nat.le_refl _) (by show 0 + len ≤ len; omega)
  rw [hh0] at ba3 st3
  have kp3 : XT.Kept s T3 := (XT.Kept.of_eq hh0).push bh3
  have hA3 := hA.keep X3.warmed.alike (kp3 _ _ hA.1.1)
  have hne : b ≠ s.heap.size := hA.1.ne
  have c4 : Steps p.tables e below (s₁.setTop (entryFrame m #[.ref b, .int (Int32.ofNat o), .int (Int32.ofNat len)] 6)) (T3.setTop (mkF m 3 #[.val (.ref b), .val (.int (Int32.ofNat o)), .val (.int (Int32.ofNat len)), .unset, .unset, .unset] [.ref s.heap.size])) := c2.trans (st3 _ (Steps.refl _))
  have c5 : Steps p.tables e below (s₁.setTop (entryFrame m #[.ref b, .int (Int32.ofNat o), .int (Int32.ofNat len)] 6)) (T3.setTop (mkF m 9 #[.val (.ref b), .val (.int (Int32.ofNat o)), .val (.int (Int32.ofNat len)), .val (.ref s.heap.size), .unset, .unset] [.int (Int32.ofNat len), .int 0, .ref s.heap.size, .int (Int32.ofNat o), .ref b])) := c4.trans (by
    refine XS.astoreN X3.here hexec rfl (hb hbytes d3) rfl rfl rfl ?_
    refine XS.aloadN X3.here hexec rfl (hb hbytes d4) rfl rfl ?_
    refine XS.iloadN X3.here hexec rfl (hb hbytes d5) rfl ?_
    refine XS.aloadN X3.here hexec rfl (hb hbytes d6) rfl rfl ?_
    refine iconstV X3.here hexec rfl 0 (hb hbytes d7) (by decide) ?_
    refine XS.iloadN X3.here hexec rfl (hb hbytes d8) rfl ?_
    exact Steps.refl _)
  obtain ⟨v6, T6, X6, E6, g6⟩ := X3.callS hexec (Cmp5.law l b A s.heap.size B3 o 0 len) hown (wks W (staticW U16 115 Cmp5.yN)) (wk W Cmp5.tab) (W := 0) (Nat.le_of_ble_eq_true rfl) (Nat.le_of_ble_eq_true rfl) (Nat.le_refl _) (by show 0 + len + 0 ≤ len; omega) (g := (mkF m 9 #[.val (.ref b), .val (.int (Int32.ofNat o)), .val (.int (Int32.ofNat len)), .val (.ref s.heap.size), .unset, .unset] [.int (Int32.ofNat len), .int (Int32.ofNat 0), .ref s.heap.size, .int (Int32.ofNat o), .ref b])) rfl (by rw [hml]; rfl) c5 (argsL := [.ref b, .int (Int32.ofNat o), .ref s.heap.size, .int (Int32.ofNat 0), .int (Int32.ofNat len)]) (rest := []) rfl rfl (by show 2 * 0 + 0 ≤ _; decide) (hb hbytes d9) (⟨rfl, hA3, ba3, hne, l1, by rw [bs3]; simp, hp⟩)
  obtain ⟨rfl, B6, p6, f6⟩ := E6
  have c7 : Steps p.tables e below (s₁.setTop (entryFrame m #[.ref b, .int (Int32.ofNat o), .int (Int32.ofNat len)] 6)) (T6.setTop (mkF m 12 #[.val (.ref b), .val (.int (Int32.ofNat o)), .val (.int (Int32.ofNat len)), .val (.ref s.heap.size), .unset, .unset] [.int (Int32.ofNat len)])) := g6
  have c8 : Steps p.tables e below (s₁.setTop (entryFrame m #[.ref b, .int (Int32.ofNat o), .int (Int32.ofNat len)] 6)) (T6.setTop (mkF m 58 #[.val (.ref b), .val (.int (Int32.ofNat o)), .val (.int (Int32.ofNat len)), .val (.ref s.heap.size), .val (.int (Int32.ofNat len)), .unset] [.ref s.heap.size])) := c7.trans (by
    refine XS.istore X6.here hexec rfl (hb hbytes d12) rfl rfl ?_
    refine XS.iload X6.here hexec rfl (hb hbytes d14) rfl ?_
    refine XS.iloadN X6.here hexec rfl (hb hbytes d16) rfl ?_
    refine XS.icmpYes X6.here hexec rfl (pc0 := 17) rfl (hb hbytes d17) rfl (ii_eq_t rfl) (by decide) rfl ?_
    refine XS.aloadN X6.here hexec rfl (hb hbytes d57) rfl rfl ?_
    exact Steps.refl _)
  have X8 := X6.wide (L' := []) (cells' := 1) (slots' := len) (fun x hx hlt => by
    simp only [List.nil_append, copyLocs, List.mem_map, List.mem_range] at hx
    obtain ⟨i, -, rfl⟩ := hx
    exact absurd hlt (Nat.lt_irrefl _)) (Nat.le_refl _) (by omega)
  exact ⟨T6, some (.ref s.heap.size), _, _, _, X8, rfl, rfl, rfl, (fun h => by cases h), ⟨⟨rfl, B6, ba3.like (X3.warmed.alike.symm.trans X6.warmed.alike) p6.1 f6.1 f6.2.1 f6.2.2.1, f6.2.1.trans bv3, by rw [X6.warmed.alike.findClass, f6.1]; exact bf3, by rw [f6.2.2.1, bs3]; simp, fun j hj => by rw [f6.2.2.2 j, if_pos (by omega)]; rfl, kp3.put p6 (Nat.le_refl _)⟩, by rw [p6.2.2, bh3, hh0]; simp⟩, fun fs hl => c8.trans (X8.areturnOut hexec rfl hret rfl (hb hbytes d58) hl)⟩
end Cmp3
namespace CodL
def yN : MethodName := ⟨"java/lang/StringUTF16", "coderFromArrayLen", "([BI)B"⟩
abbrev yB : ByteArray := jdk_52_method_15_code
theorem d0 : decode yB 0 = .ok (.iload_n 1, 1) := by decide +kernel
theorem d1 : decode yB 1 = .ok (.aload_n 0, 1) := by decide +kernel
theorem d2 : decode yB 2 = .ok (.arraylength, 1) := by decide +kernel
theorem d3 : decode yB 3 = .ok (.isub, 1) := by decide +kernel
theorem d4 : decode yB 4 = .ok (.bipush 31, 2) := by decide +kernel
theorem d6 : decode yB 6 = .ok (.iushr, 1) := by decide +kernel
theorem d7 : decode yB 7 = .ok (.i2b, 1) := by decide +kernel
theorem d8 : decode yB 8 = .ok (.ireturn, 1) := by decide +kernel
def site : List Cond := []
def tab : Cond := tabOf yN yB 2 (some .byte) site
def P (d : Addr) (B : Cell) (args : Array Value) (s : State) : Prop := args = #[.ref d, .int (Int32.ofNat B.slots.size)] ∧ Arr .byte d B s
def E (r : Option Value) (s u : State) : Prop := XT.PureE (some (.int 0)) r s u
/-- an array as long as the number of chars: LATIN1 -/
theorem law (l : Launch) (d : Addr) (B : Cell) : Law l yN 2 2 0 0 yB 2 (some .byte) site (P d B) E [] 0 0 := by
  refine Law.of_walk (plainFor_of_name (by decide +kernel)) (by decide +kernel) (by decide +kernel) (by decide) (fun _ _ h => by rw [h.1]; rfl) (fun _ U U' hal hh h => ⟨h.1, h.2.mv hal hh⟩) (fun r U U' V V' h1 hal h2 h => XT.PureE.mv r U U' V V' h1 hal h2 h) ?_
  intro p e s m args below meth c s₁ X0 hexec hbytes hml hret hlk hnm hown hh0 W hP
  obtain ⟨rfl, hB⟩ := hP
  have hB0 := hB.mv X0.warmed.alike hh0
  have c1 : Steps p.tables e below (s₁.setTop (entryFrame m #[.ref d, .int (Int32.ofNat B.slots.size)] 2)) (s₁.setTop (mkF m 0 #[.val (.ref d), .val (.int (Int32.ofNat B.slots.size))] [])) := entry rfl
  have c2 : Steps p.tables e below (s₁.setTop (entryFrame m #[.ref d, .int (Int32.ofNat B.slots.size)] 2)) (s₁.setTop (mkF m 2 #[.val (.ref d), .val (.int (Int32.ofNat B.slots.size))] [.ref d, .int (Int32.ofNat B.slots.size)])) := c1.trans (by
    refine XS.iloadN X0.here hexec rfl (hb hbytes d0) rfl ?_
    refine XS.aloadN X0.here hexec rfl (hb hbytes d1) rfl rfl ?_
    exact Steps.refl _)
  have c3 : Steps p.tables e below (s₁.setTop (entryFrame m #[.ref d, .int (Int32.ofNat B.slots.size)] 2)) (s₁.setTop (mkF m 8 #[.val (.ref d), .val (.int (Int32.ofNat B.slots.size))] [.int (lo8 (ushr (Int32.ofNat B.slots.size - Int32.ofNat B.slots.size) 31))])) := c2.trans (by
    refine X0.alen hexec hB0 rfl rfl (hb hbytes d2) ?_
    refine XS.isub X0.here hexec rfl (hb hbytes d3) rfl ?_
    refine bipushV X0.here hexec rfl 31 (hb hbytes d4) (by decide) ?_
    refine iushr X0.here hexec rfl (hb hbytes d6) rfl ?_
    refine i2b X0.here hexec rfl (hb hbytes d7) rfl ?_
    exact Steps.refl _)
  have e0 : lo8 (ushr (Int32.ofNat B.slots.size - Int32.ofNat B.slots.size) 31) = 0 := by rw [Int32.sub_self]; decide
  rw [e0] at c3
  exact ⟨s₁, some (.int 0), _, _, _, X0, rfl, rfl, rfl, (fun h => by cases h), ⟨rfl, hh0⟩, fun fs hl => c3.trans (X0.ireturnOut hexec hret rfl (Or.inr (Or.inr (Or.inl rfl))) (hb hbytes d8) hl)⟩
end CodL
/-- the String at a is Latin-1 over a new byte[] (the heap's one new cell): the low bytes of the len chars of A from o on; every cell but a is kept -/
def Got (a : Addr) (D : Cell) (fV fC : Field) (A : Cell) (o len : Nat) (r : Option Value) (s u : State) : Prop := r = none ∧ ∃ D' V : Cell, Blank "java/lang/String" a D' u ∧ Same D D' [fV.slot, fC.slot] ∧ D'.slots[fV.slot]? = some (.ref s.heap.size) ∧ D'.slots[fC.slot]? = some (.int 0) ∧ Arr .byte s.heap.size V u ∧ V.vm = .none ∧ u.vm.findClass "[B" = some V.cls ∧ V.slots.size = len ∧ (∀ j, j < len → V.slots[j]? = some (.int (lo8 (cv A (o + j))))) ∧ (∀ (y : Addr) (c : Cell), y ≠ a → s.heap[y]? = some c → u.heap[y]? = some c) ∧ u.heap.size = s.heap.size + 1
theorem Got.mv {a : Addr} {D A : Cell} {fV fC : Field} {o len : Nat} : ∀ r (U U' V V' : State), U'.heap = U.heap → V.vm.Alike V'.vm → V'.heap = V.heap → Got a D fV fC A o len r U V → Got a D fV fC A o len r U' V' :=
  fun r U U' V V' h1 hal h2 ⟨e0, D', X, a1, a2, a3, a4, a5, a6, a7, a8, a9, a10, a11⟩ => ⟨e0, D', X, a1.mv hal h2, a2, by rw [h1]; exact a3, a4, by rw [h1]; exact a5.mv hal h2, a6, by rw [hal.findClass]; exact a7, a8, a9, by rw [h1, h2]; exact a10, by rw [h1, h2]; exact a11⟩
namespace New4
def yN : MethodName := ⟨"java/lang/String", "<init>", "([CIILjava/lang/Void;)V"⟩
abbrev yB : ByteArray := jdk_42_method_149_code
theorem d0 : decode yB 0 = .ok (.aload_n 0, 1) := by decide +kernel
theorem d1 : decode yB 1 = .ok (.invokespecial 1, 3) := by decide +kernel
theorem d4 : decode yB 4 = .ok (.iload_n 3, 1) := by decide +kernel
theorem d5 : decode yB 5 = .ok (.ifCond (.ne) 22, 3) := by decide +kernel
theorem d27 : decode yB 27 = .ok (.getstatic 38, 3) := by decide +kernel
theorem d30 : decode yB 30 = .ok (.ifCond (.eq) 28, 3) := by decide +kernel
theorem d33 : decode yB 33 = .ok (.aload_n 1, 1) := by decide +kernel
theorem d34 : decode yB 34 = .ok (.iload_n 2, 1) := by decide +kernel
theorem d35 : decode yB 35 = .ok (.iload_n 3, 1) := by decide +kernel
theorem d36 : decode yB 36 = .ok (.invokestatic 177, 3) := by decide +kernel
theorem d39 : decode yB 39 = .ok (.astore 5, 2) := by decide +kernel
theorem d41 : decode yB 41 = .ok (.aload_n 0, 1) := by decide +kernel
theorem d42 : decode yB 42 = .ok (.aload 5, 2) := by decide +kernel
theorem d44 : decode yB 44 = .ok (.iload_n 3, 1) := by decide +kernel
theorem d45 : decode yB 45 = .ok (.invokestatic 47, 3) := by decide +kernel
theorem d48 : decode yB 48 = .ok (.putfield 15, 3) := by decide +kernel
theorem d51 : decode yB 51 = .ok (.aload_n 0, 1) := by decide +kernel
theorem d52 : decode yB 52 = .ok (.aload 5, 2) := by decide +kernel
theorem d54 : decode yB 54 = .ok (.putfield 9, 3) := by decide +kernel
theorem d57 : decode yB 57 = .ok (.return_, 1) := by decide +kernel
def site : List Cond := [.fieldLink "java/lang/String" 38 "java/lang/String" "COMPACT_STRINGS" "Z", Cmp3.tab, CodL.tab, .laysFinal "java/lang/String" "java/lang/String" "value" "[B", .fieldLink "java/lang/String" 9 "java/lang/String" "value" "[B", .laysFinal "java/lang/String" "java/lang/String" "coder" "B", .fieldLink "java/lang/String" 15 "java/lang/String" "coder" "B"] ++ objW "java/lang/String" 1 ++ staticW "java/lang/String" 177 Cmp3.yN ++ staticW "java/lang/String" 47 CodL.yN
def tab : Cond := tabOf yN yB 6 none site
def P (a : Addr) (D : Cell) (fV fC : Field) (b : Addr) (A : Cell) (z : Int32) (o len : Nat) (args : Array Value) (s : State) : Prop := args = #[.ref a, .ref b, .int (Int32.ofNat o), .int (Int32.ofNat len), .null] ∧ Blank "java/lang/String" a D s ∧ Found "java/lang/String" "value" "[B" fV s ∧ Found "java/lang/String" "coder" "B" fC s ∧ Ch b A s ∧ StaticIs s "java/lang/String" "COMPACT_STRINGS" "Z" (.int z) ∧ ¬ z = 0 ∧ 0 < len ∧ o + len ≤ A.slots.size ∧ len ≤ 536870912 ∧ ∀ i, i < len → ¬ 255 < cv A (o + i)
def E (a : Addr) (D : Cell) (fV fC : Field) (A : Cell) (o len : Nat) (r : Option Value) (s u : State) : Prop := Got a D fV fC A o len r s u
/-- len > 0, no char of the range above 255: a Latin-1 String of their low bytes -/
theorem law (l : Launch) (a : Addr) (D : Cell) (fV fC : Field) (b : Addr) (A : Cell) (z : Int32) (o len : Nat) : Law l yN 5 4 2 35 yB 6 none site (P a D fV fC b A z o len) (E a D fV fC A o len) [⟨a, fC.slot⟩, ⟨a, fV.slot⟩] 1 len := by
  refine Law.of_walk (plainFor_of_name (by decide +kernel)) (by decide +kernel) (by decide +kernel) (by decide) (fun _ _ h => by rw [h.1]; rfl) (fun _ U U' hal hh h => ⟨h.1, h.2.1.mv hal hh, h.2.2.1.al hal, h.2.2.2.1.al hal, h.2.2.2.2.1.mv hal hh, h.2.2.2.2.2.1.there hal hh, h.2.2.2.2.2.2⟩) (fun r U U' V V' h1 hal h2 h => Got.mv r U U' V V' h1 hal h2 h) ?_
  intro p e s m args below meth c s₁ X0 hexec hbytes hml hret hlk hnm hown hh0 W hP
  obtain ⟨rfl, hB, f1, f2, hA, s1, hz, l0, l1, l2, hp⟩ := hP
  have a31 := hA.1.2.2.2
  have c1 : Steps p.tables e below (s₁.setTop (entryFrame m #[.ref a, .ref b, .int (Int32.ofNat o), .int (Int32.ofNat len), .null] 6)) (s₁.setTop (mkF m 0 #[.val (.ref a), .val (.ref b), .val (.int (Int32.ofNat o)), .val (.int (Int32.ofNat len)), .val .null, .unset] [])) := entry rfl
  have c2 : Steps p.tables e below (s₁.setTop (entryFrame m #[.ref a, .ref b, .int (Int32.ofNat o), .int (Int32.ofNat len), .null] 6)) (s₁.setTop (mkF m 1 #[.val (.ref a), .val (.ref b), .val (.int (Int32.ofNat o)), .val (.int (Int32.ofNat len)), .val .null, .unset] [.ref a])) := c1.trans (by
    refine XS.aloadN X0.here hexec rfl (hb hbytes d0) rfl rfl ?_
    exact Steps.refl _)
  obtain ⟨T3, X3, q3, st3⟩ := X0.oinit hexec hown (wks W (objW "java/lang/String" 1)) (g := (mkF m 1 #[.val (.ref a), .val (.ref b), .val (.int (Int32.ofNat o)), .val (.int (Int32.ofNat len)), .val .null, .unset] [.ref a])) rfl (by rw [hml]; rfl) (rest := []) rfl (hb hbytes d1) (W := 0) (by show 2 * 0 + 0 ≤ _; decide) (Nat.le_of_ble_eq_true rfl) (Nat.le_of_ble_eq_true rfl)
  have hh3 := q3.trans hh0
  have c4 : Steps p.tables e below (s₁.setTop (entryFrame m #[.ref a, .ref b, .int (Int32.ofNat o), .int (Int32.ofNat len), .null] 6)) (T3.setTop (mkF m 27 #[.val (.ref a), .val (.ref b), .val (.int (Int32.ofNat o)), .val (.int (Int32.ofNat len)), .val .null, .unset] [])) := (c2.trans (st3 _ (Steps.refl _))).trans (by
    refine XS.iloadN X3.here hexec rfl (hb hbytes d4) rfl ?_
    refine XS.ifYes X3.here hexec rfl (pc0 := 5) rfl (hb hbytes d5) rfl (i0_ne_t (nz32 (by omega) l0)) (by decide) rfl ?_
    exact Steps.refl _)
  obtain ⟨T5, X5, q5, st5⟩ := X3.sget hexec hown (wk W (.fieldLink "java/lang/String" 38 "java/lang/String" "COMPACT_STRINGS" "Z")) s1 (fun _ _ h => by rw [hh3]; exact h) (g := (mkF m 27 #[.val (.ref a), .val (.ref b), .val (.int (Int32.ofNat o)), .val (.int (Int32.ofNat len)), .val .null, .unset] [])) rfl (hb hbytes d27)
  have hh5 := q5.trans hh3
  have c6 : Steps p.tables e below (s₁.setTop (entryFrame m #[.ref a, .ref b, .int (Int32.ofNat o), .int (Int32.ofNat len), .null] 6)) (T5.setTop (mkF m 30 #[.val (.ref a), .val (.ref b), .val (.int (Int32.ofNat o)), .val (.int (Int32.ofNat len)), .val .null, .unset] [.int z])) := c4.trans (st5 _ (Steps.refl _))
  have c7 : Steps p.tables e below (s₁.setTop (entryFrame m #[.ref a, .ref b, .int (Int32.ofNat o), .int (Int32.ofNat len), .null] 6)) (T5.setTop (mkF m 36 #[.val (.ref a), .val (.ref b), .val (.int (Int32.ofNat o)), .val (.int (Int32.ofNat len)), .val .null, .unset] [.int (Int32.ofNat len), .int (Int32.ofNat o), .ref b])) := c6.trans (by
    refine XS.ifNo X5.here hexec rfl (hb hbytes d30) rfl (i0_eq_f hz) ?_
    refine XS.aloadN X5.here hexec rfl (hb hbytes d33) rfl rfl ?_
    refine XS.iloadN X5.here hexec rfl (hb hbytes d34) rfl ?_
    refine XS.iloadN X5.here hexec rfl (hb hbytes d35) rfl ?_
    exact Steps.refl _)
  obtain ⟨v8, T8, X8, E8, g8⟩ := X5.callS hexec (Cmp3.law l b A o len) hown (wks W (staticW "java/lang/String" 177 Cmp3.yN)) (wk W Cmp3.tab) (W := 0) (Nat.le_of_ble_eq_true rfl) (Nat.le_of_ble_eq_true rfl) (Nat.le_refl _) (by show 0 + len ≤ len; omega) (g := (mkF m 36 #[.val (.ref a), .val (.ref b), .val (.int (Int32.ofNat o)), .val (.int (Int32.ofNat len)), .val .null, .unset] [.int (Int32.ofNat len), .int (Int32.ofNat o), .ref b])) rfl (by rw [hml]; rfl) c7 (argsL := [.ref b, .int (Int32.ofNat o), .int (Int32.ofNat len)]) (rest := []) rfl rfl (by show 2 * 0 + 0 ≤ _; decide) (hb hbytes d36) (⟨rfl, hA.mv X5.warmed.alike hh5, l1, l2, hp⟩)
  obtain ⟨e8, z8⟩ := E8
  obtain ⟨rfl, N, n1, n2, n3, n4, n5, n6⟩ := NewArr.mv _ T5 s _ _ hh5.symm (Vm.Alike.refl _) rfl e8
  rw [hh5] at z8
  have hB1 := hB.keep X8.warmed.alike (n6 _ _ hB.1)
  have hne : s.heap.size ≠ a := (Nat.ne_of_lt (Array.getElem?_eq_some_iff.mp hB.1).1).symm
  have c9 : Steps p.tables e below (s₁.setTop (entryFrame m #[.ref a, .ref b, .int (Int32.ofNat o), .int (Int32.ofNat len), .null] 6)) (T8.setTop (mkF m 39 #[.val (.ref a), .val (.ref b), .val (.int (Int32.ofNat o)), .val (.int (Int32.ofNat len)), .val .null, .unset] [.ref s.heap.size])) := g8
  have c10 : Steps p.tables e below (s₁.setTop (entryFrame m #[.ref a, .ref b, .int (Int32.ofNat o), .int (Int32.ofNat len), .null] 6)) (T8.setTop (mkF m 45 #[.val (.ref a), .val (.ref b), .val (.int (Int32.ofNat o)), .val (.int (Int32.ofNat len)), .val .null, .val (.ref s.heap.size)] [.int (Int32.ofNat N.slots.size), .ref s.heap.size, .ref a])) := by
    have hc : Steps p.tables e below (s₁.setTop (entryFrame m #[.ref a, .ref b, .int (Int32.ofNat o), .int (Int32.ofNat len), .null] 6)) (T8.setTop (mkF m 45 #[.val (.ref a), .val (.ref b), .val (.int (Int32.ofNat o)), .val (.int (Int32.ofNat len)), .val .null, .val (.ref s.heap.size)] [.int (Int32.ofNat len), .ref s.heap.size, .ref a])) := c9.trans (by
      refine XS.astore X8.here hexec rfl (hb hbytes d39) rfl rfl rfl ?_
      refine XS.aloadN X8.here hexec rfl (hb hbytes d41) rfl rfl ?_
      refine XS.aload X8.here hexec rfl (hb hbytes d42) rfl rfl ?_
      refine XS.iloadN X8.here hexec rfl (hb hbytes d44) rfl ?_
      exact Steps.refl _)
    rw [n4]; exact hc
  obtain ⟨v11, T11, X11, E11, g11⟩ := X8.callS hexec (CodL.law l s.heap.size N) hown (wks W (staticW "java/lang/String" 47 CodL.yN)) (wk W CodL.tab) (W := 1) (Nat.le_of_ble_eq_true rfl) (Nat.le_of_ble_eq_true rfl) (Nat.le_refl _) (by show 0 + len + 0 ≤ len; omega) (g := (mkF m 45 #[.val (.ref a), .val (.ref b), .val (.int (Int32.ofNat o)), .val (.int (Int32.ofNat len)), .val .null, .val (.ref s.heap.size)] [.int (Int32.ofNat N.slots.size), .ref s.heap.size, .ref a])) rfl (by rw [hml]; rfl) c10 (argsL := [.ref s.heap.size, .int (Int32.ofNat N.slots.size)]) (rest := [.ref a]) rfl rfl (by show 2 * 0 + (1 + 0) ≤ _; decide) (hb hbytes d45) (⟨rfl, n1⟩)
  obtain ⟨rfl, q11⟩ := E11
  have hB11 := hB1.mv (X8.warmed.alike.symm.trans X11.warmed.alike) q11
  have c12 : Steps p.tables e below (s₁.setTop (entryFrame m #[.ref a, .ref b, .int (Int32.ofNat o), .int (Int32.ofNat len), .null] 6)) (T11.setTop (mkF m 48 #[.val (.ref a), .val (.ref b), .val (.int (Int32.ofNat o)), .val (.int (Int32.ofNat len)), .val .null, .val (.ref s.heap.size)] [.int 0, .ref a])) := g11
  obtain ⟨T13, X13, p13, bl13, sl13, st13⟩ := X11.finit hexec hown (wk W (.fieldLink "java/lang/String" 15 "java/lang/String" "coder" "B")) (Or.inr ⟨_, (wk W (.laysFinal "java/lang/String" "java/lang/String" "coder" "B"))⟩) (Or.inl ⟨rfl, hnm⟩) f2 (Or.inl rfl) hB11 (t := .byte) (by decide +kernel) rfl (g := (mkF m 48 #[.val (.ref a), .val (.ref b), .val (.int (Int32.ofNat o)), .val (.int (Int32.ofNat len)), .val .null, .val (.ref s.heap.size)] [.int 0, .ref a])) rfl (rest := []) rfl (hb hbytes d48)
  have c14 : Steps p.tables e below (s₁.setTop (entryFrame m #[.ref a, .ref b, .int (Int32.ofNat o), .int (Int32.ofNat len), .null] 6)) (T13.setTop (mkF m 54 #[.val (.ref a), .val (.ref b), .val (.int (Int32.ofNat o)), .val (.int (Int32.ofNat len)), .val .null, .val (.ref s.heap.size)] [.ref s.heap.size, .ref a])) := (c12.trans (st13 _ (Steps.refl _))).trans (by
    refine XS.aloadN X13.here hexec rfl (hb hbytes d51) rfl rfl ?_
    refine XS.aload X13.here hexec rfl (hb hbytes d52) rfl rfl ?_
    exact Steps.refl _)
  obtain ⟨T15, X15, p15, bl15, sl15, st15⟩ := X13.finit hexec hown (wk W (.fieldLink "java/lang/String" 9 "java/lang/String" "value" "[B")) (Or.inr ⟨_, (wk W (.laysFinal "java/lang/String" "java/lang/String" "value" "[B"))⟩) (Or.inl ⟨rfl, hnm⟩) f1 (Or.inl rfl) bl13 (t := (.array .byte)) (by decide +kernel) rfl (g := (mkF m 54 #[.val (.ref a), .val (.ref b), .val (.int (Int32.ofNat o)), .val (.int (Int32.ofNat len)), .val .null, .val (.ref s.heap.size)] [.ref s.heap.size, .ref a])) rfl (rest := []) rfl (hb hbytes d54)
  have c16 : Steps p.tables e below (s₁.setTop (entryFrame m #[.ref a, .ref b, .int (Int32.ofNat o), .int (Int32.ofNat len), .null] 6)) (T15.setTop (mkF m 57 #[.val (.ref a), .val (.ref b), .val (.int (Int32.ofNat o)), .val (.int (Int32.ofNat len)), .val .null, .val (.ref s.heap.size)] [])) := c14.trans (st15 _ (Steps.refl _))
  have ap := apart (Or.inr ⟨_, (wk W (.laysFinal "java/lang/String" "java/lang/String" "value" "[B"))⟩) (Or.inr ⟨_, (wk W (.laysFinal "java/lang/String" "java/lang/String" "coder" "B"))⟩) f1 f2 (t₁ := .array .byte) (t₂ := .byte) (by decide +kernel) (by decide +kernel) (by decide)
  have al := X8.warmed.alike.symm.trans X15.warmed.alike
  have n7 : T11.heap[s.heap.size]? = some N := by rw [q11]; exact n1.1
  exact ⟨T15, none, _, _, _, X15, by simp, rfl, by omega, (fun _ => rfl), ⟨rfl, _, N, bl15, ((Same.refl D _).set _ (by simp)).set _ (by simp), sl15, (Cell.slots_setSlot_ne _ ap).trans sl13, n1.keep al (p15.other hne (p13.other hne n7)), n2, by rw [al.findClass]; exact n3, n4, n5, fun y c h1 h2 => p15.other h1 (p13.other h1 (by rw [q11]; exact n6 y c h2)), by rw [p15.2.2, p13.2.2, q11]; exact z8⟩, fun fs hl => c16.trans (X15.returnOut hexec hret (hb hbytes d57) hl)⟩
end New4
namespace New1
def yN : MethodName := ⟨"java/lang/String", "<init>", "([C)V"⟩
abbrev yB : ByteArray := jdk_42_method_3_code
theorem d0 : decode yB 0 = .ok (.aload_n 0, 1) := by decide +kernel
theorem d1 : decode yB 1 = .ok (.aload_n 1, 1) := by decide +kernel
theorem d2 : decode yB 2 = .ok (.iconst 0, 1) := by decide +kernel
theorem d3 : decode yB 3 = .ok (.aload_n 1, 1) := by decide +kernel
theorem d4 : decode yB 4 = .ok (.arraylength, 1) := by decide +kernel
theorem d5 : decode yB 5 = .ok (.aconst_null, 1) := by decide +kernel
theorem d6 : decode yB 6 = .ok (.invokespecial 27, 3) := by decide +kernel
theorem d9 : decode yB 9 = .ok (.return_, 1) := by decide +kernel
def site : List Cond := [New4.tab] ++ initW "java/lang/String" 27 New4.yN
def tab : Cond := tabOf yN yB 2 none site
def P (a : Addr) (D : Cell) (fV fC : Field) (b : Addr) (A : Cell) (z : Int32) (args : Array Value) (s : State) : Prop := args = #[.ref a, .ref b] ∧ Blank "java/lang/String" a D s ∧ Found "java/lang/String" "value" "[B" fV s ∧ Found "java/lang/String" "coder" "B" fC s ∧ Ch b A s ∧ StaticIs s "java/lang/String" "COMPACT_STRINGS" "Z" (.int z) ∧ ¬ z = 0 ∧ 0 < A.slots.size ∧ A.slots.size ≤ 536870912 ∧ ∀ i, i < A.slots.size → ¬ 255 < cv A i
def E (a : Addr) (D : Cell) (fV fC : Field) (A : Cell) (r : Option Value) (s u : State) : Prop := Got a D fV fC A 0 A.slots.size r s u
/-- new String(chars), not empty, no char above 255: a Latin-1 String of their low bytes -/
theorem law (l : Launch) (a : Addr) (D : Cell) (fV fC : Field) (b : Addr) (A : Cell) (z : Int32) : Law l yN 2 1 3 52 yB 2 none site (P a D fV fC b A z) (E a D fV fC A) [⟨a, fC.slot⟩, ⟨a, fV.slot⟩] 1 A.slots.size := by
  refine Law.of_walk (plainFor_of_name (by decide +kernel)) (by decide +kernel) (by decide +kernel) (by decide) (fun _ _ h => by rw [h.1]; rfl) (fun _ U U' hal hh h => ⟨h.1, h.2.1.mv hal hh, h.2.2.1.al hal, h.2.2.2.1.al hal, h.2.2.2.2.1.mv hal hh, h.2.2.2.2.2.1.there hal hh, h.2.2.2.2.2.2⟩) (fun r U U' V V' h1 hal h2 h => Got.mv r U U' V V' h1 hal h2 h) ?_
  intro p e s m args below meth c s₁ X0 hexec hbytes hml hret hlk hnm hown hh0 W hP
  obtain ⟨rfl, hB, f1, f2, hA, s1, hz, l0, l2, hp⟩ := hP
  have c1 : Steps p.tables e below (s₁.setTop (entryFrame m #[.ref a, .ref b] 2)) (s₁.setTop (mkF m 0 #[.val (.ref a), .val (.ref b)] [])) := entry rfl
  have c2 : Steps p.tables e below (s₁.setTop (entryFrame m #[.ref a, .ref b] 2)) (s₁.setTop (mkF m 6 #[.val (.ref a), .val (.ref b)] [.null, .int (Int32.ofNat A.slots.size), .int 0, .ref b, .ref a])) := c1.trans (by
    refine XS.aloadN X0.here hexec rfl (hb hbytes d0) rfl rfl ?_
    refine XS.aloadN X0.here hexec rfl (hb hbytes d1) rfl rfl ?_
    refine iconstV X0.here hexec rfl 0 (hb hbytes d2) (by decide) ?_
    refine XS.aloadN X0.here hexec rfl (hb hbytes d3) rfl rfl ?_
    refine X0.alen hexec (hA.1.mv X0.warmed.alike hh0) rfl rfl (hb hbytes d4) ?_
    refine XS.aconstNull X0.here hexec rfl (hb hbytes d5) ?_
    exact Steps.refl _)
  obtain ⟨v3, T3, X3, E3, g3⟩ := X0.callN hexec (New4.law l a D fV fC b A z 0 A.slots.size) rfl hown (wks W (initW "java/lang/String" 27 New4.yN)) (W New4.tab (by simp only [site, List.mem_cons, List.mem_append, true_or, or_true])) (W := 0) (Nat.le_of_ble_eq_true rfl) (Nat.le_of_ble_eq_true rfl) (Nat.le_refl _) (by show 0 + A.slots.size ≤ A.slots.size; omega) (g := (mkF m 6 #[.val (.ref a), .val (.ref b)] [.null, .int (Int32.ofNat A.slots.size), .int (Int32.ofNat 0), .ref b, .ref a])) rfl (by rw [hml]; rfl) c2 (argsL := [.ref b, .int (Int32.ofNat 0), .int (Int32.ofNat A.slots.size), .null]) (rest := []) rfl rfl (by show 2 * 0 + 0 ≤ _; decide) (hb hbytes d6) (⟨rfl, hB.mv X0.warmed.alike hh0, f1.al X0.warmed.alike, f2.al X0.warmed.alike, hA.mv X0.warmed.alike hh0, s1.there X0.warmed.alike hh0, hz, l0, by omega, l2, fun i hi => by rw [Nat.zero_add]; exact hp i hi⟩)
  have e0 := Got.mv _ s₁ s _ _ hh0.symm (Vm.Alike.refl _) rfl E3
  obtain rfl := e0.1
  have c4 : Steps p.tables e below (s₁.setTop (entryFrame m #[.ref a, .ref b] 2)) (T3.setTop (mkF m 9 #[.val (.ref a), .val (.ref b)] [])) := g3
  exact ⟨T3, none, _, _, _, X3, by simp, rfl, by omega, (fun _ => rfl), e0, fun fs hl => c4.trans (X3.returnOut hexec hret (hb hbytes d9) hl)⟩
theorem pays {l : Launch} {R : Room} {p : Program} {e : Env} {below : List Frame} {s : State} {sargs : Array Value} {len W : Nat} (a : Addr) (D : Cell) (fV fC : Field) (b : Addr) (A : Cell) (z : Int32) (htab : tab.before sargs s = true) (hfr : 4 ≤ R.frames) (hlo : W + 65 ≤ R.locals) :
    Back l R p e below s sargs yN len W (fun A₁ a₁ => A₁.cells + 1 ≤ R.cells ∧ A₁.slots + A.slots.size ≤ R.slots ∧ P a D fV fC b A z a₁ A₁.U) (fun A₁ _ v₁ B₁ => E a D fV fC A v₁ A₁.U B₁.U ∧ B₁.locs = A₁.locs ++ [⟨a, fC.slot⟩, ⟨a, fV.slot⟩] ∧ B₁.cells = A₁.cells + 1 ∧ B₁.slots = A₁.slots + A.slots.size) :=
  (law l a D fV fC b A z).pays htab hfr (by omega)
end New1
end StrChars
namespace StrChars.Road
open Jvm Sem ClassFile Op Lib Jvm.Stand Jvm.Free Jvm.Free.XT
open Jvm.Lib.Cold (StaticIs)
abbrev ST : String := "java/lang/String"
/-- every table word that New1's law asks, flat -/
abbrev words : List Jvm.Cond := [.code New1.yN New1.yB 2 none, .initialized ST, .methodLink ST 27 New4.yN, .instanceMethod New4.yN,
  .code New4.yN New4.yB 6 none, .fieldLink ST 38 ST "COMPACT_STRINGS" "Z", .laysFinal ST ST "value" "[B", .fieldLink ST 9 ST "value" "[B", .laysFinal ST ST "coder" "B", .fieldLink ST 15 ST "coder" "B",
  .methodLink ST 1 Lib.objectInit, .instanceMethod Lib.objectInit, .code Lib.objectInit ⟨#[0xb1]⟩ 1 none, .methodLink ST 177 Cmp3.yN, .static Cmp3.yN, .methodLink ST 47 CodL.yN, .static CodL.yN,
  .code Cmp3.yN Cmp3.yB 6 (some (.array .byte)), .initialized U16, .arrayClass .byte, .methodLink U16 115 Cmp5.yN, .static Cmp5.yN, .code Cmp5.yN Cmp5.yB 7 (some .int), .code CodL.yN CodL.yB 2 (some .byte)]
theorem tab_of {a : Array Value} {s : State} (h : ∀ w ∈ words, w.before a s = true) : New1.tab.before a s = true := by
  have h5 : Cmp5.tab.before a s = true := unparts (wk h (.code Cmp5.yN Cmp5.yB 7 (some .int))) (wks h (.initialized Cmp5.yN.cls :: Cmp5.site))
  have hc : CodL.tab.before a s = true := unparts (wk h (.code CodL.yN CodL.yB 2 (some .byte))) (wks h (.initialized CodL.yN.cls :: CodL.site))
  have q5 : ∀ w ∈ Cmp5.tab :: words, w.before a s = true := fun w hw => (List.mem_cons.mp hw).elim (fun e => e ▸ h5) (h w)
  have h3 : Cmp3.tab.before a s = true := unparts (wk q5 (.code Cmp3.yN Cmp3.yB 6 (some (.array .byte)))) (wks q5 (.initialized Cmp3.yN.cls :: Cmp3.site))
  have q3 : ∀ w ∈ Cmp3.tab :: CodL.tab :: words, w.before a s = true := fun w hw => (List.mem_cons.mp hw).elim (fun e => e ▸ h3) fun hw => (List.mem_cons.mp hw).elim (fun e => e ▸ hc) (h w)
  have h4 : New4.tab.before a s = true := unparts (wk q3 (.code New4.yN New4.yB 6 none)) (wks q3 (.initialized New4.yN.cls :: New4.site))
  have q4 : ∀ w ∈ New4.tab :: words, w.before a s = true := fun w hw => (List.mem_cons.mp hw).elim (fun e => e ▸ h4) (h w)
  exact unparts (wk q4 (.code New1.yN New1.yB 2 none)) (wks q4 (.initialized New1.yN.cls :: New1.site))
/-- the words ride from the start Z to the walk's own state -/
theorem moved {Z s : State} {a0 args : Array Value} (hZ : Z.Warmed39 s.vm) (hw : ∀ d ∈ words, d.before a0 Z = true) : ∀ d ∈ words, d.before args s = true := fun d hd => by
  have q := hw d hd
  have t : ∀ d ∈ words, d = .arrayClass .byte ∨ (d.onTables && d.keepsFace) = true := by decide +kernel
  rcases t d hd with rfl | t
  · exact RoadKit.mvA hZ q
  · exact RoadKit.mv hZ q t
/-- WHAT COMES BACK, over the tables of the start Z: h the heap at the call, h' behind it -/
def Q (Z : State) (x : Addr) (A : Cell) (h : Heap) (v : Option Value) (h' : Heap) (L : List Loc) : Prop := v = none ∧ (∀ y ∈ L, y.base = x) ∧ RoadKit.Keep h h' [x] ∧ h'.size = h.size + 1 ∧ RoadKit.Exa Z h' x ST ∧ RoadKit.Fld Z h' x ST "value" "[B" (.ref h.size) ∧ RoadKit.Fld Z h' x ST "coder" "B" (.int 0) ∧
  (∃ V : Cell, RoadKit.Arr Z h' h.size V .byte ∧ V.vm = .none ∧ Z.vm.findClass "[B" = some V.cls ∧ V.slots.size = A.slots.size ∧ ∀ j, j < A.slots.size → V.slots[j]? = some (.int (lo8 (cv A j)))) ∧
  ∀ (O n d : String) (w : Value), RoadKit.Fld Z h x O n d w → RoadKit.slotOf Z O n d ≠ RoadKit.slotOf Z ST "value" "[B" → RoadKit.slotOf Z O n d ≠ RoadKit.slotOf Z ST "coder" "B" → RoadKit.Fld Z h' x O n d w
/-- **new String(chars) AT A CALL, IN THE ROAD'S FORM**: for specialBack behind newO: x the fresh String, b the char[] with the cell A -/
theorem back {p : Program} {l : Launch} {e : Env} {R : Room} {s : State} {args : Array Value} {below : List Frame} {len W : Nat} {Z : State} {a0 : Array Value} {h : Heap} (hZ : Z.Warmed39 s.vm) (hw : ∀ d ∈ words, d.before a0 Z = true) {kI : Nat} (wi : (Jvm.Cond.instantiable ST kI).before a0 Z = true)
    {x b : Addr} {A : Cell} {z : Int32} {v0 c0 : Value} (E : RoadKit.Exa Z h x ST) (V : RoadKit.Fld Z h x ST "value" "[B" v0) (C : RoadKit.Fld Z h x ST "coder" "B" c0) (K : RoadKit.Arr Z h b A .char) (hty : Typed .char A) (S : RoadKit.Sta Z h ST "COMPACT_STRINGS" "Z" (.int z)) (hz : ¬ z = 0)
    (l0 : 0 < A.slots.size) (l2 : A.slots.size ≤ 536870912) (hp : ∀ i, i < A.slots.size → ¬ 255 < cv A i) (hfr : 4 ≤ R.frames) (hlo : W + 65 ≤ R.locals) :
    Back l R p e below s args New1.yN len W (fun P a => a = #[.ref x, .ref b] ∧ P.U.heap = h ∧ P.cells + 1 ≤ R.cells ∧ P.slots + A.slots.size ≤ R.slots)
      (fun P _ v B => ∃ L, Q Z x A h v B.U.heap L ∧ B.locs = P.locs ++ L ∧ B.cells = P.cells + 1 ∧ B.slots = P.slots + A.slots.size) := by
  intro m meth c P g ig mk a X hg hsize hdg hW hn hp'
  obtain ⟨rfl, rfl, r1, r2⟩ := hp'
  have al : Z.vm.Alike P.U.vm := hZ.alike.trans X.warmed.alike
  obtain ⟨D, cfV, kV, iV, fV, hD, gV, stV, knV, obV, asV, slV⟩ := id V
  obtain ⟨D', cfC, kC, iC, fC, hD', gC, stC, -, -, asC, slC⟩ := id C
  cases hD.symm.trans hD'
  obtain ⟨D2, kD, e1, e2, e3, e4, e5⟩ := id E
  cases hD.symm.trans e1
  obtain ⟨c2, k2, i1, i2, i3, -⟩ := Cond.instantiable_spec wi
  cases e2.symm.trans i1
  cases e3.symm.trans i2
  obtain ⟨kU, u1, u2⟩ := al.2.2 _ _ e3
  have hB : Blank ST x D P.U := ⟨hD, ⟨knV, fun q hq => by rw [hq] at obV; cases obV⟩, by rw [al.findClass]; exact e2, kU, u1, by rw [u2]; exact i3, by rw [u2]; exact e5 i3⟩
  have F1 : Found ST "value" "[B" fV P.U := ⟨SBG.found_only al ⟨cfV, kV, iV, gV⟩, stV⟩
  have F2 : Found ST "coder" "B" fC P.U := ⟨SBG.found_only al ⟨cfC, kC, iC, gC⟩, stC⟩
  have hA : Ch b A P.U := ⟨⟨K.1, State.isArrayOf_alike al K.2.1, K.2.2, by omega⟩, hty⟩
  have hS : StaticIs P.U ST "COMPACT_STRINGS" "Z" (.int z) := by
    obtain ⟨cfS, iS, kS, fS, st, cS, t1, t2, t3, t4, t5, t6, t7⟩ := S
    exact StaticIs.there (s := { Z with heap := P.U.heap }) ⟨cfS, iS, kS, fS, st, cS, t1, t2, t3, t4, t5, (fun q => by rw [q] at t6; cases t6), t7⟩ al rfl
  obtain ⟨v, B, X', ⟨⟨hv, E', V', q1, q2, q3, q4, q5, q6, q7, q8, q9, q10, q11⟩, hl, hc, hs⟩, st⟩ := New1.pays x D fV fC b A z (tab_of (moved hZ hw)) hfr hlo m meth c P g ig mk _ X hg hsize hdg hW hn ⟨r1, r2, rfl, hB, F1, F2, hA, hS, hz, l0, l2, hp⟩
  have al' : Z.vm.Alike B.U.vm := hZ.alike.trans X'.warmed.alike
  have hsz : E'.slots.size = D.slots.size := by
    obtain ⟨-, -, -, kB, w1, w2, w3⟩ := q1
    obtain ⟨kB', y1, y2⟩ := al'.2.2 _ _ e3
    rw [q2.2.1] at w1
    cases w1.symm.trans y1
    rw [w3, e5 i3, y2]
  refine ⟨v, B, X', ⟨_, ⟨hv, ?_, ⟨by omega, fun y cy hy hn' => q10 y cy (by simpa using hn') hy, fun y cy hy => ?_⟩, q11, ⟨E', _, q1.1, by rw [q2.2.1]; exact e2, by rw [q2.2.1]; exact e3, by rw [q2.1]; exact obV, fun _ => by rw [hsz]; exact e5 i3⟩,
    ⟨E', cfV, kV, iV, fV, q1.1, gV, stV, by rw [q2.1]; exact knV, by rw [q2.1]; exact obV, by rw [q2.2.1]; exact asV, q3⟩, ⟨E', cfC, kC, iC, fC, q1.1, gC, stC, by rw [q2.1]; exact knV, by rw [q2.1]; exact obV, by rw [q2.2.1]; exact asC, q4⟩,
    ⟨V', ⟨q5.1, State.isArrayOf_alike al'.symm q5.2.1, q5.2.2.1⟩, q6, by rw [← al'.findClass]; exact q7, q8, fun j hj => by have := q9 j hj; rwa [Nat.zero_add] at this⟩, fun O n d w F n1 n2 => ?_⟩, hl, hc, hs⟩, st⟩
  · intro y hy
    simp only [List.mem_cons, List.not_mem_nil, or_false] at hy
    rcases hy with rfl | rfl <;> rfl
  · by_cases q : y = x
    · subst q
      cases hD.symm.trans hy
      exact ⟨E', q1.1, q2.2.1, q2.1, hsz⟩
    · exact ⟨cy, q10 y cy q hy, rfl, rfl, rfl⟩
  · obtain ⟨D3, cf, k, i, f, g1, g2, g3, g4, g5, g6, g7⟩ := F
    cases hD.symm.trans g1
    simp only [RoadKit.slotOf, g2, gV, gC, Option.map_some, Option.getD_some] at n1 n2
    exact ⟨E', cf, k, i, f, q1.1, g2, g3, by rw [q2.1]; exact g4, by rw [q2.1]; exact g5, by rw [q2.2.1]; exact g6, by rw [q2.2.2 f.slot (by simp [n1, n2])]; exact g7⟩
end StrChars.Road
namespace StrChars.Road
open Jvm Sem ClassFile Op Lib Jvm.Stand Jvm.Free Jvm.Free.XT
/-- WHAT COMES BACK, the byte[] as a list of values -/
def QA (Z : State) (x : Addr) (zn : Int32) (cs : List Int32) (h : Heap) (v : Option Value) (h' : Heap) (L : List Loc) : Prop := v = none ∧ (∀ y ∈ L, y.base = x) ∧ RoadKit.Keep h h' [x] ∧ h'.size = h.size + 1 ∧ RoadKit.Exa Z h' x ST ∧ RoadKit.Fld Z h' x ST "value" "[B" (.ref h.size) ∧ RoadKit.Fld Z h' x ST "coder" "B" (.int 0) ∧
  (∃ kb, Z.vm.findClass "[B" = some kb ∧ RoadKit.Arv Z h' h.size kb .byte zn (cs.map fun c => .int (lo8 c)) (.int 0)) ∧
  ∀ (O n d : String) (w : Value), RoadKit.Fld Z h x O n d w → RoadKit.slotOf Z O n d ≠ RoadKit.slotOf Z ST "value" "[B" → RoadKit.slotOf Z O n d ≠ RoadKit.slotOf Z ST "coder" "B" → RoadKit.Fld Z h' x O n d w
/-- **new String(chars) AT A CALL, THE ARRAYS AS LISTS**: the char[] at b holds cs, not empty, no char above 255 -/
theorem backArv {p : Program} {l : Launch} {e : Env} {R : Room} {s : State} {args : Array Value} {below : List Frame} {len W : Nat} {Z : State} {a0 : Array Value} {h : Heap} (hZ : Z.Warmed39 s.vm) (hw : ∀ d ∈ words, d.before a0 Z = true) {kI : Nat} (wi : (Jvm.Cond.instantiable ST kI).before a0 Z = true)
    {x b : Addr} {k : ClassId} {zn z : Int32} {cs : List Int32} {dv v0 c0 : Value} (E : RoadKit.Exa Z h x ST) (V : RoadKit.Fld Z h x ST "value" "[B" v0) (C : RoadKit.Fld Z h x ST "coder" "B" c0) (K : RoadKit.Arv Z h b k .char zn (cs.map Value.int) dv) (S : RoadKit.Sta Z h ST "COMPACT_STRINGS" "Z" (.int z)) (hz : ¬ z = 0)
    (hlen : zn.toNatClampNeg = cs.length) (h0 : 0 < cs.length) (hbig : cs.length ≤ 536870912) (hall : ∀ c ∈ cs, ¬ 255 < c) (hfr : 4 ≤ R.frames) (hlo : W + 65 ≤ R.locals) :
    Back l R p e below s args New1.yN len W (fun P a => a = #[.ref x, .ref b] ∧ P.U.heap = h ∧ P.cells + 1 ≤ R.cells ∧ P.slots + cs.length ≤ R.slots)
      (fun P _ v B => ∃ L, QA Z x zn cs h v B.U.heap L ∧ B.locs = P.locs ++ L ∧ B.cells = P.cells + 1 ∧ B.slots = P.slots + cs.length) := by
  obtain ⟨A, K1, K2, K3, K4, K5, K6⟩ := K
  have e : A.slots.size = cs.length := K3.trans hlen
  have hat : ∀ (i : Nat) (hi : i < cs.length), A.slots[i]? = some (.int cs[i]) := fun i hi => by rw [K5 i (by omega)]; simp [List.getD_eq_getElem?_getD, hi]
  have hcv : ∀ (i : Nat) (hi : i < cs.length), cv A i = cs[i] := fun i hi => by unfold cv; rw [hat i hi]
  have hty : Typed .char A := fun i v hv => by
    have hi : i < A.slots.size := (Array.getElem?_eq_some_iff.mp hv).1
    have q := K5 i hi
    rw [hv] at q
    rw [Option.some.inj q]
    exact K6 i hi
  refine Back.mono (back hZ hw wi E V C K1 hty S hz (by omega) (by omega) (fun i hi => by rw [hcv i (by omega)]; exact hall _ (List.getElem_mem _)) hfr hlo) (fun P a hp => ⟨hp.1, hp.2.1, hp.2.2.1, by rw [e]; exact hp.2.2.2⟩) (fun P a v B hp hq => ?_)
  obtain ⟨L, ⟨q1, q2, q3, q4, q5, q6, q7, ⟨V', v1, v2, v3, v4, v5⟩, q9⟩, hl, hc, hs⟩ := hq
  refine ⟨L, ⟨q1, q2, q3, q4, q5, q6, q7, ⟨V'.cls, v3, V', v1, rfl, by rw [v4, e, hlen], K4, fun i hi => ?_, fun i hi => ?_⟩, q9⟩, hl, hc, by rw [hs, e]⟩
  · have hi' : i < cs.length := by omega
    rw [v5 i (by omega), hcv i hi']; simp [List.getD_eq_getElem?_getD, hi']
  · have hi' : i < cs.length := by omega
    simp only [List.getD_eq_getElem?_getD, List.getElem?_map, List.getElem?_eq_getElem hi', Option.map_some, Option.getD_some]
    exact fits_lo8 _
end StrChars.Road
namespace StrChars.Road
open Jvm Sem ClassFile Op Lib Jvm.Stand Jvm.Free Jvm.Free.XT
/-- WHAT COMES BACK, in the writer's own shape -/
def QV (Z : State) (x : Addr) (N : Int32) (bs : List Int32) (h : Heap) (n0 : Nat) (v : Option Value) (h' : Heap) (L : List Loc) : Prop := v = none ∧ RoadKit.Fr n0 L ∧ RoadKit.Keep h h' [x] ∧ RoadKit.Exa Z h' x ST ∧ RoadKit.Fld Z h' x ST "coder" "B" (.int 0) ∧
  ∃ (t : Addr) (kb : ClassId), n0 ≤ t ∧ h.size ≤ t ∧ ¬ t = x ∧ RoadKit.Fld Z h' x ST "value" "[B" (.ref t) ∧ RoadKit.Arv Z h' t kb .byte N (bs.map Value.int) (.int 0)
/-- **new String(chars) AT A CALL, FOR THE WRITER**: a char[] of n known ints, each 0 to 255 -/
theorem backV {p : Program} {l : Launch} {e : Env} {R : Room} {s : State} {args : Array Value} {below : List Frame} {len W : Nat} {Z : State} {a0 : Array Value} {h : Heap} (hZ : Z.Warmed39 s.vm) (hw : ∀ d ∈ words, d.before a0 Z = true) {kI : Nat} (wi : (Jvm.Cond.instantiable ST kI).before a0 Z = true)
    {x b : Addr} {kC : ClassId} {cs bs : List Int32} {d v0 c0 : Value} {z N : Int32} {n n0 : Nat} (hx0 : n0 ≤ x) (hh0 : n0 ≤ h.size) (E : RoadKit.Exa Z h x ST) (V : RoadKit.Fld Z h x ST "value" "[B" v0) (C : RoadKit.Fld Z h x ST "coder" "B" c0) (K : RoadKit.Arv Z h b kC .char N (cs.map Value.int) d) (S : RoadKit.Sta Z h ST "COMPACT_STRINGS" "Z" (.int z)) (hz : ¬ z = 0)
    (hn : cs.length = n) (hN : N = Int32.ofNat n) (l0 : 0 < n) (l2 : n ≤ 4000) (hp : ∀ c ∈ cs, ¬ c < 0 ∧ ¬ (255 : Int32) < c) (hb : bs = cs.map (fun c => c.toInt8.toInt32)) (hfr : 4 ≤ R.frames) (hlo : W + 65 ≤ R.locals) :
    Back l R p e below s args (⟨"java/lang/String", "<init>", "([C)V"⟩ : MethodName) len W (fun P a => a = #[.ref x, .ref b] ∧ P.U.heap = h ∧ P.cells + 1 ≤ R.cells ∧ P.slots + n ≤ R.slots)
      (fun P _ v B => ∃ L, QV Z x N bs h n0 v B.U.heap L ∧ B.locs = P.locs ++ L ∧ B.cells = P.cells + 1 ∧ B.slots = P.slots + n) := by
  subst hn hN hb
  refine Back.mono (backArv hZ hw wi E V C K S hz (n32 (by omega)) l0 (by omega) (fun c hc => (hp c hc).2) hfr hlo) (fun P a hp => hp) (fun P a v B hp hq => ?_)
  obtain ⟨L, ⟨q1, q2, q3, q4, q5, q6, q7, ⟨kb, v1, v2⟩, q9⟩, hl, hc, hs⟩ := hq
  exact ⟨L, ⟨q1, fun y hy => by rw [q2 y hy]; exact hx0, q3, q5, q7, h.size, kb, hh0, Nat.le_refl _, Nat.ne_of_gt E.lt, q6, by rw [List.map_map]; exact v2⟩, hl, hc, hs⟩
end StrChars.Road
end Jvm.Pilot.@@N@@
namespace Jvm.Pilot.@@N@@
open Jvm Jvm.ClassFile Sem Op Lib Jvm.Free Jvm.Stand Jvm.LawKit Jvm.RoadKit Bundle Jvm.Own Jvm.Pilot.@@N@@.Jvm.D
theorem d0_0 : decode jdk_30_method_1_code 0 = .ok (.aload_n 0, 1) := by decide +kernel
theorem d0_1 : decode jdk_30_method_1_code 1 = .ok (.invokespecial 1, 3) := by decide +kernel
theorem W15 {Z : State} {a0 : Array Value} (hw : ∀ d ∈ tables_1, d.before a0 Z = true) : (Jvm.Cond.methodLink "java/lang/Record" (1 : Nat) ({ cls := "java/lang/Object", name := "<init>", desc := "()V" } : Jvm.MethodName)).before a0 Z = true := hw _ (List.mem_of_getElem? (i := 15) rfl)
theorem W16 {Z : State} {a0 : Array Value} (hw : ∀ d ∈ tables_1, d.before a0 Z = true) : (Jvm.Cond.instanceMethod ({ cls := "java/lang/Object", name := "<init>", desc := "()V" } : Jvm.MethodName)).before a0 Z = true := hw _ (List.mem_of_getElem? (i := 16) rfl)
theorem W17 {Z : State} {a0 : Array Value} (hw : ∀ d ∈ tables_1, d.before a0 Z = true) : (Jvm.Cond.code ({ cls := "java/lang/Object", name := "<init>", desc := "()V" } : Jvm.MethodName) object_method_1_code (1 : Nat) (Option.none : Option Jvm.ClassFile.FieldType)).before a0 Z = true := hw _ (List.mem_of_getElem? (i := 17) rfl)
theorem d0_4 : decode jdk_30_method_1_code 4 = .ok (.return_, 1) := by decide +kernel
theorem pn_5265636f7264_3 : plainName "java/lang/Record" = true := by first | (simp [plainName, overriddenIn]; done) | decide +kernel
theorem d1_0 : decode jdk_42_method_149_code 0 = .ok (.aload_n 0, 1) := by decide +kernel
theorem d1_1 : decode jdk_42_method_149_code 1 = .ok (.invokespecial 1, 3) := by decide +kernel
theorem W38 {Z : State} {a0 : Array Value} (hw : ∀ d ∈ tables_1, d.before a0 Z = true) : (Jvm.Cond.methodLink "java/lang/String" (1 : Nat) ({ cls := "java/lang/Object", name := "<init>", desc := "()V" } : Jvm.MethodName)).before a0 Z = true := hw _ (List.mem_of_getElem? (i := 38) rfl)
theorem d1_4 : decode jdk_42_method_149_code 4 = .ok (.iload_n 3, 1) := by decide +kernel
theorem d1_5 : decode jdk_42_method_149_code 5 = .ok (.ifCond .ne 22, 3) := by decide +kernel
theorem d1_8 : decode jdk_42_method_149_code 8 = .ok (.aload_n 0, 1) := by decide +kernel
theorem d1_9 : decode jdk_42_method_149_code 9 = .ok (.ldc 7, 2) := by decide +kernel
theorem W39 {Z : State} {a0 : Array Value} (hw : ∀ d ∈ tables_1, d.before a0 Z = true) : (Jvm.Cond.stringLink "java/lang/String" (7 : Nat) "").before a0 Z = true := hw _ (List.mem_of_getElem? (i := 39) rfl)
theorem d1_11 : decode jdk_42_method_149_code 11 = .ok (.getfield 9, 3) := by decide +kernel
theorem W45 {Z : State} {a0 : Array Value} (hw : ∀ d ∈ tables_1, d.before a0 Z = true) : (Jvm.Cond.fieldLink "java/lang/String" (9 : Nat) "java/lang/String" "value" "[B").before a0 Z = true := hw _ (List.mem_of_getElem? (i := 45) rfl)
theorem d1_14 : decode jdk_42_method_149_code 14 = .ok (.putfield 9, 3) := by decide +kernel
theorem W41 {Z : State} {a0 : Array Value} (hw : ∀ d ∈ tables_1, d.before a0 Z = true) : (Jvm.Cond.laysFinal "java/lang/String" "java/lang/String" "value" "[B").before a0 Z = true := hw _ (List.mem_of_getElem? (i := 41) rfl)
theorem W28 {Z : State} {a0 : Array Value} (hw : ∀ d ∈ tables_1, d.before a0 Z = true) : (Jvm.Cond.instantiable "java/lang/String" (4 : Nat)).before a0 Z = true := hw _ (List.mem_of_getElem? (i := 28) rfl)
theorem W42 {Z : State} {a0 : Array Value} (hw : ∀ d ∈ tables_1, d.before a0 Z = true) : (Jvm.Cond.laysFinal "java/lang/String" "java/lang/String" "coder" "B").before a0 Z = true := hw _ (List.mem_of_getElem? (i := 42) rfl)
theorem d1_17 : decode jdk_42_method_149_code 17 = .ok (.aload_n 0, 1) := by decide +kernel
theorem d1_18 : decode jdk_42_method_149_code 18 = .ok (.ldc 7, 2) := by decide +kernel
theorem d1_20 : decode jdk_42_method_149_code 20 = .ok (.getfield 15, 3) := by decide +kernel
theorem W46 {Z : State} {a0 : Array Value} (hw : ∀ d ∈ tables_1, d.before a0 Z = true) : (Jvm.Cond.fieldLink "java/lang/String" (15 : Nat) "java/lang/String" "coder" "B").before a0 Z = true := hw _ (List.mem_of_getElem? (i := 46) rfl)
theorem d1_23 : decode jdk_42_method_149_code 23 = .ok (.putfield 15, 3) := by decide +kernel
theorem d1_26 : decode jdk_42_method_149_code 26 = .ok (.return_, 1) := by decide +kernel
theorem pn_537472696e67_4 : plainName "java/lang/String" = true := by first | (simp [plainName, overriddenIn]; done) | decide +kernel
theorem d2_0 : decode jdk_42_method_3_code 0 = .ok (.aload_n 0, 1) := by decide +kernel
theorem d2_1 : decode jdk_42_method_3_code 1 = .ok (.aload_n 1, 1) := by decide +kernel
theorem d2_2 : decode jdk_42_method_3_code 2 = .ok (.iconst 0, 1) := by decide +kernel
theorem d2_3 : decode jdk_42_method_3_code 3 = .ok (.aload_n 1, 1) := by decide +kernel
theorem d2_4 : decode jdk_42_method_3_code 4 = .ok (.arraylength, 1) := by decide +kernel
theorem d2_5 : decode jdk_42_method_3_code 5 = .ok (.aconst_null, 1) := by decide +kernel
theorem d2_6 : decode jdk_42_method_3_code 6 = .ok (.invokespecial 27, 3) := by decide +kernel
theorem W34 {Z : State} {a0 : Array Value} (hw : ∀ d ∈ tables_1, d.before a0 Z = true) : (Jvm.Cond.methodLink "java/lang/String" (27 : Nat) ({ cls := "java/lang/String", name := "<init>", desc := "([CIILjava/lang/Void;)V" } : Jvm.MethodName)).before a0 Z = true := hw _ (List.mem_of_getElem? (i := 34) rfl)
theorem pd_8 : parseMethodDescriptor "([CIILjava/lang/Void;)V" = some ⟨[(.array .char), .int, .int, (.object "java/lang/Void")], none⟩ := by decide +kernel
theorem W35 {Z : State} {a0 : Array Value} (hw : ∀ d ∈ tables_1, d.before a0 Z = true) : (Jvm.Cond.instanceMethod ({ cls := "java/lang/String", name := "<init>", desc := "([CIILjava/lang/Void;)V" } : Jvm.MethodName)).before a0 Z = true := hw _ (List.mem_of_getElem? (i := 35) rfl)
theorem W37 {Z : State} {a0 : Array Value} (hw : ∀ d ∈ tables_1, d.before a0 Z = true) : (Jvm.Cond.code ({ cls := "java/lang/String", name := "<init>", desc := "([CIILjava/lang/Void;)V" } : Jvm.MethodName) jdk_42_method_149_code (6 : Nat) (Option.none : Option Jvm.ClassFile.FieldType)).before a0 Z = true := hw _ (List.mem_of_getElem? (i := 37) rfl)
theorem W29 {Z : State} {a0 : Array Value} (hw : ∀ d ∈ tables_1, d.before a0 Z = true) : (Jvm.Cond.initialized "java/lang/String").before a0 Z = true := hw _ (List.mem_of_getElem? (i := 29) rfl)
theorem d2_9 : decode jdk_42_method_3_code 9 = .ok (.return_, 1) := by decide +kernel
theorem d3_0 : decode prog_118_method_1_code 0 = .ok (.aload_n 0, 1) := by decide +kernel
theorem d3_1 : decode prog_118_method_1_code 1 = .ok (.invokespecial 1, 3) := by decide +kernel
theorem W10 {Z : State} {a0 : Array Value} (hw : ∀ d ∈ tables_1, d.before a0 Z = true) : (Jvm.Cond.methodLink "com/example/zedwitness/zedwitness/SmtSet$Range" (1 : Nat) ({ cls := "java/lang/Record", name := "<init>", desc := "()V" } : Jvm.MethodName)).before a0 Z = true := hw _ (List.mem_of_getElem? (i := 10) rfl)
theorem pd_282956 : parseMethodDescriptor "()V" = some ⟨[], none⟩ := by decide +kernel
theorem W11 {Z : State} {a0 : Array Value} (hw : ∀ d ∈ tables_1, d.before a0 Z = true) : (Jvm.Cond.instanceMethod ({ cls := "java/lang/Record", name := "<init>", desc := "()V" } : Jvm.MethodName)).before a0 Z = true := hw _ (List.mem_of_getElem? (i := 11) rfl)
theorem W14 {Z : State} {a0 : Array Value} (hw : ∀ d ∈ tables_1, d.before a0 Z = true) : (Jvm.Cond.code ({ cls := "java/lang/Record", name := "<init>", desc := "()V" } : Jvm.MethodName) jdk_30_method_1_code (1 : Nat) (Option.none : Option Jvm.ClassFile.FieldType)).before a0 Z = true := hw _ (List.mem_of_getElem? (i := 14) rfl)
theorem W13 {Z : State} {a0 : Array Value} (hw : ∀ d ∈ tables_1, d.before a0 Z = true) : (Jvm.Cond.initialized "java/lang/Record").before a0 Z = true := hw _ (List.mem_of_getElem? (i := 13) rfl)
theorem d3_4 : decode prog_118_method_1_code 4 = .ok (.aload_n 0, 1) := by decide +kernel
theorem d3_5 : decode prog_118_method_1_code 5 = .ok (.aload_n 1, 1) := by decide +kernel
theorem d3_6 : decode prog_118_method_1_code 6 = .ok (.putfield 7, 3) := by decide +kernel
theorem W18 {Z : State} {a0 : Array Value} (hw : ∀ d ∈ tables_1, d.before a0 Z = true) : (Jvm.Cond.fieldLink "com/example/zedwitness/zedwitness/SmtSet$Range" (7 : Nat) "com/example/zedwitness/zedwitness/SmtSet$Range" "low" "Ljava/lang/String;").before a0 Z = true := hw _ (List.mem_of_getElem? (i := 18) rfl)
theorem W19 {Z : State} {a0 : Array Value} (hw : ∀ d ∈ tables_1, d.before a0 Z = true) : (Jvm.Cond.laysFinal "com/example/zedwitness/zedwitness/SmtSet$Range" "com/example/zedwitness/zedwitness/SmtSet$Range" "low" "Ljava/lang/String;").before a0 Z = true := hw _ (List.mem_of_getElem? (i := 19) rfl)
theorem W5 {Z : State} {a0 : Array Value} (hw : ∀ d ∈ tables_1, d.before a0 Z = true) : (Jvm.Cond.instantiable "com/example/zedwitness/zedwitness/SmtSet$Range" (2 : Nat)).before a0 Z = true := hw _ (List.mem_of_getElem? (i := 5) rfl)
theorem W21 {Z : State} {a0 : Array Value} (hw : ∀ d ∈ tables_1, d.before a0 Z = true) : (Jvm.Cond.laysFinal "com/example/zedwitness/zedwitness/SmtSet$Range" "com/example/zedwitness/zedwitness/SmtSet$Range" "high" "Ljava/lang/String;").before a0 Z = true := hw _ (List.mem_of_getElem? (i := 21) rfl)
theorem d3_9 : decode prog_118_method_1_code 9 = .ok (.aload_n 0, 1) := by decide +kernel
theorem d3_10 : decode prog_118_method_1_code 10 = .ok (.aload_n 2, 1) := by decide +kernel
theorem d3_11 : decode prog_118_method_1_code 11 = .ok (.putfield 13, 3) := by decide +kernel
theorem W20 {Z : State} {a0 : Array Value} (hw : ∀ d ∈ tables_1, d.before a0 Z = true) : (Jvm.Cond.fieldLink "com/example/zedwitness/zedwitness/SmtSet$Range" (13 : Nat) "com/example/zedwitness/zedwitness/SmtSet$Range" "high" "Ljava/lang/String;").before a0 Z = true := hw _ (List.mem_of_getElem? (i := 20) rfl)
theorem d3_14 : decode prog_118_method_1_code 14 = .ok (.return_, 1) := by decide +kernel
theorem pn_2452616e6765_1 : plainName "com/example/zedwitness/zedwitness/SmtSet$Range" = true := by first | (simp [plainName, overriddenIn]; done) | decide +kernel
theorem d4_0 : decode prog_118_method_4_code 0 = .ok (.aload_n 0, 1) := by decide +kernel
theorem d4_1 : decode prog_118_method_4_code 1 = .ok (.getfield 7, 3) := by decide +kernel
theorem d4_4 : decode prog_118_method_4_code 4 = .ok (.ifnull 14, 3) := by decide +kernel
theorem d4_18 : decode prog_118_method_4_code 18 = .ok (.iconst 0, 1) := by decide +kernel
theorem d4_19 : decode prog_118_method_4_code 19 = .ok (.ireturn, 1) := by decide +kernel
theorem d4_7 : decode prog_118_method_4_code 7 = .ok (.aload_n 0, 1) := by decide +kernel
theorem d4_8 : decode prog_118_method_4_code 8 = .ok (.getfield 13, 3) := by decide +kernel
theorem d4_11 : decode prog_118_method_4_code 11 = .ok (.ifnull 7, 3) := by decide +kernel
theorem d4_14 : decode prog_118_method_4_code 14 = .ok (.iconst 1, 1) := by decide +kernel
theorem d4_15 : decode prog_118_method_4_code 15 = .ok (.goto 4, 3) := by decide +kernel
theorem d5_0 : decode method_2_code 0 = .ok (.iload_n 0, 1) := by decide +kernel
theorem d5_1 : decode method_2_code 1 = .ok (.ifCond .ne 5, 3) := by decide +kernel
theorem d5_4 : decode method_2_code 4 = .ok (.aconst_null, 1) := by decide +kernel
theorem d5_5 : decode method_2_code 5 = .ok (.areturn, 1) := by decide +kernel
theorem d5_6 : decode method_2_code 6 = .ok (.iload_n 1, 1) := by decide +kernel
theorem d5_7 : decode method_2_code 7 = .ok (.bipush 8, 2) := by decide +kernel
theorem d5_9 : decode method_2_code 9 = .ok (.iushr, 1) := by decide +kernel
theorem d5_10 : decode method_2_code 10 = .ok (.iconst 1, 1) := by decide +kernel
theorem d5_11 : decode method_2_code 11 = .ok (.iand, 1) := by decide +kernel
theorem d5_12 : decode method_2_code 12 = .ok (.ifCond .ne 14, 3) := by decide +kernel
theorem d5_15 : decode method_2_code 15 = .ok (.new 7, 3) := by decide +kernel
theorem W27 {Z : State} {a0 : Array Value} (hw : ∀ d ∈ tables_1, d.before a0 Z = true) : (Jvm.Cond.classLink "com/example/zedwitness/zedwitness/RangeBoundedPinLaw" (7 : Nat) "java/lang/String").before a0 Z = true := hw _ (List.mem_of_getElem? (i := 27) rfl)
theorem d5_18 : decode method_2_code 18 = .ok (.dup, 1) := by decide +kernel
theorem d5_19 : decode method_2_code 19 = .ok (.iconst 0, 1) := by decide +kernel
theorem d5_20 : decode method_2_code 20 = .ok (.newarray .char, 2) := by decide +kernel
theorem W30 {Z : State} {a0 : Array Value} (hw : ∀ d ∈ tables_1, d.before a0 Z = true) : (Jvm.Cond.arrayClass Jvm.ClassFile.FieldType.char).before a0 Z = true := hw _ (List.mem_of_getElem? (i := 30) rfl)
theorem d5_22 : decode method_2_code 22 = .ok (.invokespecial 9, 3) := by decide +kernel
theorem W31 {Z : State} {a0 : Array Value} (hw : ∀ d ∈ tables_1, d.before a0 Z = true) : (Jvm.Cond.methodLink "com/example/zedwitness/zedwitness/RangeBoundedPinLaw" (9 : Nat) ({ cls := "java/lang/String", name := "<init>", desc := "([C)V" } : Jvm.MethodName)).before a0 Z = true := hw _ (List.mem_of_getElem? (i := 31) rfl)
theorem pd_285b432956 : parseMethodDescriptor "([C)V" = some ⟨[(.array .char)], none⟩ := by decide +kernel
theorem W32 {Z : State} {a0 : Array Value} (hw : ∀ d ∈ tables_1, d.before a0 Z = true) : (Jvm.Cond.instanceMethod ({ cls := "java/lang/String", name := "<init>", desc := "([C)V" } : Jvm.MethodName)).before a0 Z = true := hw _ (List.mem_of_getElem? (i := 32) rfl)
theorem W33 {Z : State} {a0 : Array Value} (hw : ∀ d ∈ tables_1, d.before a0 Z = true) : (Jvm.Cond.code ({ cls := "java/lang/String", name := "<init>", desc := "([C)V" } : Jvm.MethodName) jdk_42_method_3_code (2 : Nat) (Option.none : Option Jvm.ClassFile.FieldType)).before a0 Z = true := hw _ (List.mem_of_getElem? (i := 33) rfl)
theorem d5_25 : decode method_2_code 25 = .ok (.areturn, 1) := by decide +kernel
theorem d5_26 : decode method_2_code 26 = .ok (.iconst 1, 1) := by decide +kernel
theorem d5_27 : decode method_2_code 27 = .ok (.newarray .char, 2) := by decide +kernel
theorem d5_29 : decode method_2_code 29 = .ok (.astore_n 2, 1) := by decide +kernel
theorem d5_30 : decode method_2_code 30 = .ok (.aload_n 2, 1) := by decide +kernel
theorem d5_31 : decode method_2_code 31 = .ok (.iconst 0, 1) := by decide +kernel
theorem d5_32 : decode method_2_code 32 = .ok (.iload_n 1, 1) := by decide +kernel
theorem d5_33 : decode method_2_code 33 = .ok (.sipush 255, 3) := by decide +kernel
theorem d5_36 : decode method_2_code 36 = .ok (.iand, 1) := by decide +kernel
theorem d5_37 : decode method_2_code 37 = .ok (.i2c, 1) := by decide +kernel
theorem d5_38 : decode method_2_code 38 = .ok (.castore, 1) := by decide +kernel
theorem d5_39 : decode method_2_code 39 = .ok (.new 7, 3) := by decide +kernel
theorem d5_42 : decode method_2_code 42 = .ok (.dup, 1) := by decide +kernel
theorem d5_43 : decode method_2_code 43 = .ok (.aload_n 2, 1) := by decide +kernel
theorem d5_44 : decode method_2_code 44 = .ok (.invokespecial 9, 3) := by decide +kernel
theorem d5_47 : decode method_2_code 47 = .ok (.areturn, 1) := by decide +kernel
theorem pn_50696e4c6177_0 : plainName "com/example/zedwitness/zedwitness/RangeBoundedPinLaw" = true := by first | (simp [plainName, overriddenIn]; done) | decide +kernel
theorem W0 {Z : State} {a0 : Array Value} (hw : ∀ d ∈ tables_1, d.before a0 Z = true) : (Jvm.Cond.methodLink "com/example/zedwitness/zedwitness/RangeBoundedPinLaw" (12 : Nat) ({ cls := "com/example/zedwitness/zedwitness/RangeBoundedPinLaw", name := "drawn", desc := "(II)Ljava/lang/String;" } : Jvm.MethodName)).before a0 Z = true := hw _ (List.mem_of_getElem? (i := 0) rfl)
theorem pd_2 : parseMethodDescriptor "(II)Ljava/lang/String;" = some ⟨[.int, .int], (some (.object "java/lang/String"))⟩ := by decide +kernel
theorem W1 {Z : State} {a0 : Array Value} (hw : ∀ d ∈ tables_1, d.before a0 Z = true) : (Jvm.Cond.static ({ cls := "com/example/zedwitness/zedwitness/RangeBoundedPinLaw", name := "drawn", desc := "(II)Ljava/lang/String;" } : Jvm.MethodName)).before a0 Z = true := hw _ (List.mem_of_getElem? (i := 1) rfl)
theorem W3 {Z : State} {a0 : Array Value} (hw : ∀ d ∈ tables_1, d.before a0 Z = true) : (Jvm.Cond.code ({ cls := "com/example/zedwitness/zedwitness/RangeBoundedPinLaw", name := "drawn", desc := "(II)Ljava/lang/String;" } : Jvm.MethodName) method_2_code (3 : Nat) (Option.some (Jvm.ClassFile.FieldType.object "java/lang/String"))).before a0 Z = true := hw _ (List.mem_of_getElem? (i := 3) rfl)
theorem W2 {Z : State} {a0 : Array Value} (hw : ∀ d ∈ tables_1, d.before a0 Z = true) : (Jvm.Cond.initialized "com/example/zedwitness/zedwitness/RangeBoundedPinLaw").before a0 Z = true := hw _ (List.mem_of_getElem? (i := 2) rfl)
theorem W4 {Z : State} {a0 : Array Value} (hw : ∀ d ∈ tables_1, d.before a0 Z = true) : (Jvm.Cond.classLink "com/example/zedwitness/zedwitness/RangeBoundedPinLaw" (18 : Nat) "com/example/zedwitness/zedwitness/SmtSet$Range").before a0 Z = true := hw _ (List.mem_of_getElem? (i := 4) rfl)
theorem W6 {Z : State} {a0 : Array Value} (hw : ∀ d ∈ tables_1, d.before a0 Z = true) : (Jvm.Cond.initialized "com/example/zedwitness/zedwitness/SmtSet$Range").before a0 Z = true := hw _ (List.mem_of_getElem? (i := 6) rfl)
theorem W7 {Z : State} {a0 : Array Value} (hw : ∀ d ∈ tables_1, d.before a0 Z = true) : (Jvm.Cond.methodLink "com/example/zedwitness/zedwitness/RangeBoundedPinLaw" (20 : Nat) ({ cls := "com/example/zedwitness/zedwitness/SmtSet$Range", name := "<init>", desc := "(Ljava/lang/String;Ljava/lang/String;)V" } : Jvm.MethodName)).before a0 Z = true := hw _ (List.mem_of_getElem? (i := 7) rfl)
theorem pd_4 : parseMethodDescriptor "(Ljava/lang/String;Ljava/lang/String;)V" = some ⟨[(.object "java/lang/String"), (.object "java/lang/String")], none⟩ := by decide +kernel
theorem W8 {Z : State} {a0 : Array Value} (hw : ∀ d ∈ tables_1, d.before a0 Z = true) : (Jvm.Cond.instanceMethod ({ cls := "com/example/zedwitness/zedwitness/SmtSet$Range", name := "<init>", desc := "(Ljava/lang/String;Ljava/lang/String;)V" } : Jvm.MethodName)).before a0 Z = true := hw _ (List.mem_of_getElem? (i := 8) rfl)
theorem W9 {Z : State} {a0 : Array Value} (hw : ∀ d ∈ tables_1, d.before a0 Z = true) : (Jvm.Cond.code ({ cls := "com/example/zedwitness/zedwitness/SmtSet$Range", name := "<init>", desc := "(Ljava/lang/String;Ljava/lang/String;)V" } : Jvm.MethodName) prog_118_method_1_code (3 : Nat) (Option.none : Option Jvm.ClassFile.FieldType)).before a0 Z = true := hw _ (List.mem_of_getElem? (i := 9) rfl)
theorem W22 {Z : State} {a0 : Array Value} (hw : ∀ d ∈ tables_1, d.before a0 Z = true) : (Jvm.Cond.methodLink "com/example/zedwitness/zedwitness/RangeBoundedPinLaw" (23 : Nat) ({ cls := "com/example/zedwitness/zedwitness/SmtSet$Range", name := "bounded", desc := "()Z" } : Jvm.MethodName)).before a0 Z = true := hw _ (List.mem_of_getElem? (i := 22) rfl)
theorem pd_28295a : parseMethodDescriptor "()Z" = some ⟨[], (some .boolean)⟩ := by decide +kernel
theorem W23 {Z : State} {a0 : Array Value} (hw : ∀ d ∈ tables_1, d.before a0 Z = true) : (Jvm.Cond.declares ({ cls := "com/example/zedwitness/zedwitness/SmtSet$Range", name := "bounded", desc := "()Z" } : Jvm.MethodName)).before a0 Z = true := hw _ (List.mem_of_getElem? (i := 23) rfl)
theorem W25 {Z : State} {a0 : Array Value} (hw : ∀ d ∈ tables_1, d.before a0 Z = true) : (Jvm.Cond.selects "com/example/zedwitness/zedwitness/SmtSet$Range" ({ cls := "com/example/zedwitness/zedwitness/SmtSet$Range", name := "bounded", desc := "()Z" } : Jvm.MethodName) ({ cls := "com/example/zedwitness/zedwitness/SmtSet$Range", name := "bounded", desc := "()Z" } : Jvm.MethodName)).before a0 Z = true := hw _ (List.mem_of_getElem? (i := 25) rfl)
theorem W24 {Z : State} {a0 : Array Value} (hw : ∀ d ∈ tables_1, d.before a0 Z = true) : (Jvm.Cond.instanceMethod ({ cls := "com/example/zedwitness/zedwitness/SmtSet$Range", name := "bounded", desc := "()Z" } : Jvm.MethodName)).before a0 Z = true := hw _ (List.mem_of_getElem? (i := 24) rfl)
theorem W26 {Z : State} {a0 : Array Value} (hw : ∀ d ∈ tables_1, d.before a0 Z = true) : (Jvm.Cond.code ({ cls := "com/example/zedwitness/zedwitness/SmtSet$Range", name := "bounded", desc := "()Z" } : Jvm.MethodName) prog_118_method_4_code (1 : Nat) (Option.some Jvm.ClassFile.FieldType.boolean)).before a0 Z = true := hw _ (List.mem_of_getElem? (i := 26) rfl)
theorem W40 {Z : State} {a0 : Array Value} (hw : ∀ d ∈ tables_1, d.before a0 Z = true) : (Jvm.Cond.arrayClass Jvm.ClassFile.FieldType.byte).before a0 Z = true := hw _ (List.mem_of_getElem? (i := 40) rfl)
def Glob (Z : State) (a0 : Array Value) (EL : List (String × Nat)) : Prop :=
  (∀ d ∈ tables_1, d.before a0 Z = true) ∧ EW Z a0 EL ∧ EL = consts_1 ∧ (∃ z : Int32, Sta Z Z.heap "java/lang/String" "COMPACT_STRINGS" "Z" (.int z) ∧ ¬ z = 0) ∧ (∃ v : Value, Sta Z Z.heap "jdk/internal/util/Preconditions" "SIOOBE_FORMATTER" "Ljava/util/function/BiFunction;" v ∧ v.isRef = true)
theorem Glob.hw {Z : State} {a0 : Array Value} {EL : List (String × Nat)} (G : Glob Z a0 EL) : ∀ d ∈ tables_1, d.before a0 Z = true := G.1
theorem Glob.ew {Z : State} {a0 : Array Value} {EL : List (String × Nat)} (G : Glob Z a0 EL) : EW Z a0 EL := G.2.1
theorem Glob.el {Z : State} {a0 : Array Value} {EL : List (String × Nat)} (G : Glob Z a0 EL) : EL = consts_1 := G.2.2.1
theorem Glob.cs {Z : State} {a0 : Array Value} {EL : List (String × Nat)} (G : Glob Z a0 EL) : ∃ z : Int32, Sta Z Z.heap "java/lang/String" "COMPACT_STRINGS" "Z" (.int z) ∧ ¬ z = 0 := G.2.2.2.1
theorem Glob.fm {Z : State} {a0 : Array Value} {EL : List (String × Nat)} (G : Glob Z a0 EL) : ∃ v : Value, Sta Z Z.heap "jdk/internal/util/Preconditions" "SIOOBE_FORMATTER" "Ljava/util/function/BiFunction;" v ∧ v.isRef = true := G.2.2.2.2
theorem Glob.wS {Z : State} {a0 : Array Value} {EL : List (String × Nat)} (G : Glob Z a0 EL) : ∀ a ∈ Bundle.stringAtoms, a.before a0 Z = true := fun d hd => G.hw d ((by decide +kernel : ∀ d ∈ Bundle.stringAtoms, d ∈ tables_1) d hd)
theorem Glob.w_backV {Z : State} {a0 : Array Value} {EL : List (String × Nat)} (G : Glob Z a0 EL) : ∀ d ∈ StrChars.Road.words, d.before a0 Z = true := fun d hd => G.hw d ((by decide +kernel : ∀ d ∈ StrChars.Road.words, d ∈ tables_1) d hd)
set_option maxRecDepth 65536 in
set_option maxHeartbeats 40000000 in
theorem rm_Record (l : Launch) (Z : State) (a0 : Array Value) (EL : List (String × Nat)) (G : Glob Z a0 EL) (a : Addr) (h : Heap) (O : Ext Z.heap h)  :
    Met l Z EL false (⟨"java/lang/Record", "<init>", "()V"⟩ : MethodName) jdk_30_method_1_code 1 none [] ({ frames := 1, cells := 0, slots := 0, locals := 12 } : Room) #[(.ref a)] h [] (fun v h' => v = none ∧ h = h') := by
  have hw := G.hw
  obtain ⟨zc, Sc, hzc⟩ := G.cs
  obtain ⟨vf, Sf, hvf⟩ := G.fm
  refine Met.of (plainFor_of_name pn_5265636f7264_3) G.ew O ?_
  intro p e s m below meth c T0 C0 S0
  refine Endw.eq (g' := mkF m 0 #[.val (.ref a)] []) (by first | rfl | (simp [entryFrame, mkF, argsToLocals, own_cI, own_cR, own_cN, own_cJ, own_cD, maxLocals]; done)) ?_
  refine Endw.st (T' := T0) (g' := (mkF m 1 #[.val (.ref a)] [(.ref a)])) (fun t k => XS.aloadN C0.here C0.hx rfl (C0.dec d0_0) rfl rfl k) ?_
  refine C0.initO (W15 hw) (W16 hw) (W17 hw) rfl d0_1 (pc' := 4) rfl (by decide) (W := 0) (Nat.le_of_ble_eq_true rfl) (by decide) ?_
  intro T1 C1
  show Endw p e below T1 (mkF m 4 #[.val (.ref a)] []) _
  exact C1.retV d0_4 (by decide) (by decide) ⟨rfl, rfl⟩
set_option maxRecDepth 65536 in
set_option maxHeartbeats 40000000 in
theorem rm_StrEmpty4 (l : Launch) (Z : State) (a0 : Array Value) (EL : List (String × Nat)) (G : Glob Z a0 EL) (a b : Addr) (kC : ClassId) (h : Heap) (O : Ext Z.heap h) (E0 : Exa Z h a "java/lang/String") (F0 : Fld Z h a "java/lang/String" "value" "[B" .null) (f0 : Fld Z h a "java/lang/String" "coder" "B" (.int (0 : Int32))) (V0 : Arv Z h b kC .char (0 : Int32) [] (.int 0)) (zg0 : Z.heap.size ≤ a) :
    Met l Z EL false (⟨"java/lang/String", "<init>", "([CIILjava/lang/Void;)V"⟩ : MethodName) jdk_42_method_149_code 6 none [] ({ frames := 1, cells := 4, slots := 8, locals := 12 } : Room) #[(.ref a), (.ref b), (.int (0 : Int32)), (.int (0 : Int32)), .null] h [a] (fun v h' => v = none ∧ Keep h h' [a] ∧ ∃ (t : Addr) (kb : ClassId), Str Z h' a t kb []) := by
  have hw := G.hw
  obtain ⟨zc, Sc, hzc⟩ := G.cs
  obtain ⟨vf, Sf, hvf⟩ := G.fm
  refine Met.of (plainFor_of_name pn_537472696e67_4) G.ew O ?_
  intro p e s m below meth c T0 C0 S0
  refine Endw.eq (g' := mkF m 0 #[.val (.ref a), .val (.ref b), .val (.int (0 : Int32)), .val (.int (0 : Int32)), .val .null, .unset] []) (by first | rfl | (simp [entryFrame, mkF, argsToLocals, own_cI, own_cR, own_cN, own_cJ, own_cD, maxLocals]; done)) ?_
  refine Endw.st (T' := T0) (g' := (mkF m 1 #[.val (.ref a), .val (.ref b), .val (.int (0 : Int32)), .val (.int (0 : Int32)), .val .null, .unset] [(.ref a)])) (fun t k => XS.aloadN C0.here C0.hx rfl (C0.dec d1_0) rfl rfl k) ?_
  refine C0.initO (W38 hw) (W16 hw) (W17 hw) rfl d1_1 (pc' := 4) rfl (by decide) (W := 0) (Nat.le_of_ble_eq_true rfl) (by decide) ?_
  intro T1 C1
  show Endw p e below T1 (mkF m 4 #[.val (.ref a), .val (.ref b), .val (.int (0 : Int32)), .val (.int (0 : Int32)), .val .null, .unset] []) _
  refine Endw.st (T' := T1) (g' := (mkF m 5 #[.val (.ref a), .val (.ref b), .val (.int (0 : Int32)), .val (.int (0 : Int32)), .val .null, .unset] [(.int (0 : Int32))])) (fun t k => XS.iloadN C1.here C1.hx rfl (C1.dec d1_4) rfl k) ?_
  refine Endw.st (T' := T1) (g' := (mkF m 8 #[.val (.ref a), .val (.ref b), .val (.int (0 : Int32)), .val (.int (0 : Int32)), .val .null, .unset] [])) (fun t k => XS.ifNo C1.here C1.hx rfl (C1.dec d1_5) rfl (XT.i0_ne_f (by decide)) k) ?_
  refine Endw.st (T' := T1) (g' := (mkF m 9 #[.val (.ref a), .val (.ref b), .val (.int (0 : Int32)), .val (.int (0 : Int32)), .val .null, .unset] [(.ref a)])) (fun t k => XS.aloadN C1.here C1.hx rfl (C1.dec d1_8) rfl rfl k) ?_
  refine C1.ldcC (N := 0) (vs := []) (z := (0 : Int32)) (W39 hw) G.wS (by rw [G.el]; decide) ⟨by decide, by decide⟩ (by decide) (by decide) (by decide) (by decide) (by decide) (by decide) d1_9 (pc' := 11) rfl rfl ?_
  intro vm2 T2 h2 a2 b2 kA2 C2 K2 A2 E2 F2 f2 V2 r2
  have f3 := (A2.safe E0.lt (S0 a (by simp)))
  show Endw p e below T2 (mkF m 11 #[.val (.ref a), .val (.ref b), .val (.int (0 : Int32)), .val (.int (0 : Int32)), .val .null, .unset] [(.ref a2), (.ref a)]) _
  refine C2.getF (W45 hw) f2 d1_11 (pc' := 14) rfl ?_
  intro T4 C4
  show Endw p e below T4 (mkF m 14 #[.val (.ref a), .val (.ref b), .val (.int (0 : Int32)), .val (.int (0 : Int32)), .val .null, .unset] [(.ref b2), (.ref a)]) _
  have f5 := (E0.keep K2)
  have f6 := (F0.keep K2 nin0)
  have f8 := (f0.keep K2 nin0)
  refine C4.putF (v := (.ref b2)) (W45 hw) f6 f5 (Or.inr ⟨(W41 hw), rfl, rfl⟩) (W28 hw) (ty := (.array .byte)) (by decide) rfl rfl zg0 f3 d1_14 (pc' := 17) rfl ?_
  intro T7 h7 C7 K7 A7 Wr7
  have f9 := f6.same Wr7
  have f10 := f8.other Wr7 (Or.inr (slot_ne (Or.inr (W42 hw)) (Or.inr (W41 hw)) (by decide) (t := .byte) (t' := (.array .byte)) (by decide) (by decide)))
  show Endw p e below T7 (mkF m 17 #[.val (.ref a), .val (.ref b), .val (.int (0 : Int32)), .val (.int (0 : Int32)), .val .null, .unset] []) _
  refine Endw.st (T' := T7) (g' := (mkF m 18 #[.val (.ref a), .val (.ref b), .val (.int (0 : Int32)), .val (.int (0 : Int32)), .val .null, .unset] [(.ref a)])) (fun t k => XS.aloadN C7.here C7.hx rfl (C7.dec d1_17) rfl rfl k) ?_
  refine C7.ldcC (N := 0) (vs := []) (z := (0 : Int32)) (W39 hw) G.wS (by rw [G.el]; decide) ⟨by decide, by decide⟩ (by decide) (by decide) (by decide) (by decide) (by decide) (by decide) d1_18 (pc' := 20) rfl rfl ?_
  intro vm11 T11 h11 a11 b11 kA11 C11 K11 A11 E11 F11 f11 V11 r11
  have f12 := (A11.safe (Nat.lt_of_lt_of_le E0.lt (Nat.le_trans K2.1 K7.1)) (A7.safe (Nat.lt_of_lt_of_le E0.lt K2.1) f3))
  show Endw p e below T11 (mkF m 20 #[.val (.ref a), .val (.ref b), .val (.int (0 : Int32)), .val (.int (0 : Int32)), .val .null, .unset] [(.ref a11), (.ref a)]) _
  refine C11.getF (W46 hw) F11 d1_20 (pc' := 23) rfl ?_
  intro T13 C13
  show Endw p e below T13 (mkF m 23 #[.val (.ref a), .val (.ref b), .val (.int (0 : Int32)), .val (.int (0 : Int32)), .val .null, .unset] [(.int (0 : Int32)), (.ref a)]) _
  have f14 := ((f5.keep K7).keep K11)
  have f15 := (f10.keep K11 nin0)
  have f17 := (f9.keep K11 nin0)
  refine C13.putF (v := (.int (0 : Int32))) (W46 hw) f15 f14 (Or.inr ⟨(W42 hw), rfl, rfl⟩) (W28 hw) (ty := .byte) (by decide) rfl rfl zg0 f12 d1_23 (pc' := 26) rfl ?_
  intro T16 h16 C16 K16 A16 Wr16
  have f18 := f15.same Wr16
  have f19 := f17.other Wr16 (Or.inr (slot_ne (Or.inr (W41 hw)) (Or.inr (W42 hw)) (by decide) (t := (.array .byte)) (t' := .byte) (by decide) (by decide)))
  show Endw p e below T16 (mkF m 26 #[.val (.ref a), .val (.ref b), .val (.int (0 : Int32)), .val (.int (0 : Int32)), .val .null, .unset] []) _
  have f20 := (f14.keep K16)
  have f21 := (((V2.keep K7 (ninS (Ne.symm (r2 _ f3).2) nin0)).keep K11 nin0).keep K16 (ninS (Ne.symm (r2 _ f3).2) nin0))
  exact C16.retV d1_26 (by decide) (by decide) ⟨rfl, (Keep.trans (Keep.trans (Keep.trans (Keep.trans (Keep.refl h [a]) K2 all0) K7 (allS (Or.inl (by simp)) all0)) K11 all0) K16 (allS (Or.inl (by simp)) all0)), b2, kA2, f20, f18, f19, f21, own_c0, Nat.le_of_ble_eq_true rfl⟩
set_option maxRecDepth 65536 in
set_option maxHeartbeats 40000000 in
theorem rm_StrEmpty1 (l : Launch) (Z : State) (a0 : Array Value) (EL : List (String × Nat)) (G : Glob Z a0 EL) (a b : Addr) (kC : ClassId) (h : Heap) (O : Ext Z.heap h) (E0 : Exa Z h a "java/lang/String") (F0 : Fld Z h a "java/lang/String" "value" "[B" .null) (f0 : Fld Z h a "java/lang/String" "coder" "B" (.int (0 : Int32))) (V0 : Arv Z h b kC .char (0 : Int32) [] (.int 0)) (zg0 : Z.heap.size ≤ a) :
    Met l Z EL false (⟨"java/lang/String", "<init>", "([C)V"⟩ : MethodName) jdk_42_method_3_code 2 none [] ({ frames := 2, cells := 4, slots := 8, locals := 29 } : Room) #[(.ref a), (.ref b)] h [a] (fun v h' => v = none ∧ Keep h h' [a] ∧ ∃ (t : Addr) (kb : ClassId), Str Z h' a t kb []) := by
  have hw := G.hw
  obtain ⟨zc, Sc, hzc⟩ := G.cs
  obtain ⟨vf, Sf, hvf⟩ := G.fm
  refine Met.of (plainFor_of_name pn_537472696e67_4) G.ew O ?_
  intro p e s m below meth c T0 C0 S0
  refine Endw.eq (g' := mkF m 0 #[.val (.ref a), .val (.ref b)] []) (by first | rfl | (simp [entryFrame, mkF, argsToLocals, own_cI, own_cR, own_cN, own_cJ, own_cD, maxLocals]; done)) ?_
  refine Endw.st (T' := T0) (g' := (mkF m 1 #[.val (.ref a), .val (.ref b)] [(.ref a)])) (fun t k => XS.aloadN C0.here C0.hx rfl (C0.dec d2_0) rfl rfl k) ?_
  refine Endw.st (T' := T0) (g' := (mkF m 2 #[.val (.ref a), .val (.ref b)] [(.ref b), (.ref a)])) (fun t k => XS.aloadN C0.here C0.hx rfl (C0.dec d2_1) rfl rfl k) ?_
  refine Endw.st (T' := T0) (g' := (mkF m 3 #[.val (.ref a), .val (.ref b)] [(.int (0 : Int32)), (.ref b), (.ref a)])) (fun t k => XS.iconst C0.here C0.hx rfl (C0.dec d2_2) k) ?_
  refine Endw.st (T' := T0) (g' := (mkF m 4 #[.val (.ref a), .val (.ref b)] [(.ref b), (.int (0 : Int32)), (.ref b), (.ref a)])) (fun t k => XS.aloadN C0.here C0.hx rfl (C0.dec d2_3) rfl rfl k) ?_
  refine C0.len V0 d2_4 (pc' := 5) rfl ?_
  show Endw p e below T0 (mkF m 5 #[.val (.ref a), .val (.ref b)] [(.int (0 : Int32)), (.int (0 : Int32)), (.ref b), (.ref a)]) _
  refine Endw.st (T' := T0) (g' := (mkF m 6 #[.val (.ref a), .val (.ref b)] [.null, (.int (0 : Int32)), (.int (0 : Int32)), (.ref b), (.ref a)])) (fun t k => XS.aconstNull C0.here C0.hx rfl (C0.dec d2_5) k) ?_
  refine C0.special (y := (⟨"java/lang/String", "<init>", "([CIILjava/lang/Void;)V"⟩ : MethodName)) (W := 0) (a := a) (argsL := [(.ref b), (.int (0 : Int32)), (.int (0 : Int32)), .null]) (rest := []) rfl (W34 hw) (W35 hw) (W37 hw) (W29 hw) (by decide) (rm_StrEmpty4 l Z a0 EL G a b kC h C0.old E0 F0 f0 V0 zg0) rfl (allS ⟨E0.lt, (S0 a (by simp))⟩ all0) (by decide) (by decide) (by decide) (by decide) (lenOf pd_8 rfl) rfl (Nat.le_of_ble_eq_true rfl) rfl d2_6 (pc' := 9) rfl ?_
  intro vm1 T1 h1 v1 C1 A1 q1
  obtain ⟨rfl, K1, t1, kb1, Z1⟩ := q1
  show Endw p e below T1 (mkF m 9 #[.val (.ref a), .val (.ref b)] []) _
  exact C1.retV d2_9 (by decide) (by decide) ⟨rfl, (Keep.trans (Keep.refl h [a]) K1 (allS (Or.inl (by simp)) all0)), t1, kb1, Z1⟩
set_option maxRecDepth 65536 in
set_option maxHeartbeats 40000000 in
theorem rm_RInit (l : Launch) (Z : State) (a0 : Array Value) (EL : List (String × Nat)) (G : Glob Z a0 EL) (a : Addr) (u v : Value) (hu : u.isRef = true) (hv : v.isRef = true) (h : Heap) (O : Ext Z.heap h) (E0 : Exa Z h a "com/example/zedwitness/zedwitness/SmtSet$Range") (F0 : Fld Z h a "com/example/zedwitness/zedwitness/SmtSet$Range" "low" "Ljava/lang/String;" .null) (f0 : Fld Z h a "com/example/zedwitness/zedwitness/SmtSet$Range" "high" "Ljava/lang/String;" .null) (zg0 : Z.heap.size ≤ a) :
    Met l Z EL false (⟨"com/example/zedwitness/zedwitness/SmtSet$Range", "<init>", "(Ljava/lang/String;Ljava/lang/String;)V"⟩ : MethodName) prog_118_method_1_code 3 none [] ({ frames := 2, cells := 0, slots := 0, locals := 24 } : Room) #[(.ref a), u, v] h [] (fun r h' => r = none ∧ Keep h h' [a] ∧ Exa Z h' a "com/example/zedwitness/zedwitness/SmtSet$Range" ∧ Fld Z h' a "com/example/zedwitness/zedwitness/SmtSet$Range" "low" "Ljava/lang/String;" u ∧ Fld Z h' a "com/example/zedwitness/zedwitness/SmtSet$Range" "high" "Ljava/lang/String;" v) := by
  have hw := G.hw
  obtain ⟨zc, Sc, hzc⟩ := G.cs
  obtain ⟨vf, Sf, hvf⟩ := G.fm
  refine Met.of (plainFor_of_name pn_2452616e6765_1) G.ew O ?_
  intro p e s m below meth c T0 C0 S0
  refine Endw.eq (g' := mkF m 0 #[.val (.ref a), .val u, .val v] []) (by first | rfl | (simp [entryFrame, mkF, argsToLocals, own_cI, own_cR, own_cN, own_cJ, own_cD, maxLocals, XT.cat1 hu, XT.cat1 hv]; done)) ?_
  refine Endw.st (T' := T0) (g' := (mkF m 1 #[.val (.ref a), .val u, .val v] [(.ref a)])) (fun t k => XS.aloadN C0.here C0.hx rfl (C0.dec d3_0) rfl rfl k) ?_
  refine C0.special (y := (⟨"java/lang/Record", "<init>", "()V"⟩ : MethodName)) (W := 0) (a := a) (argsL := []) (rest := []) rfl (W10 hw) (W11 hw) (W14 hw) (W13 hw) (by decide) (rm_Record l Z a0 EL G a h C0.old) rfl all0 (by decide) (by decide) (by decide) (by decide) (lenOf pd_282956 rfl) rfl (Nat.le_of_ble_eq_true rfl) rfl d3_1 (pc' := 4) rfl ?_
  intro vm1 T1 h1 v1 C1 A1 q1
  obtain ⟨rfl, rfl⟩ := q1
  show Endw p e below T1 (mkF m 4 #[.val (.ref a), .val u, .val v] []) _
  refine Endw.st (T' := T1) (g' := (mkF m 5 #[.val (.ref a), .val u, .val v] [(.ref a)])) (fun t k => XS.aloadN C1.here C1.hx rfl (C1.dec d3_4) rfl rfl k) ?_
  refine Endw.st (T' := T1) (g' := (mkF m 6 #[.val (.ref a), .val u, .val v] [u, (.ref a)])) (fun t k => XS.aloadN C1.here C1.hx rfl (C1.dec d3_5) rfl hu k) ?_
  refine C1.putF (v := u) (W18 hw) F0 E0 (Or.inr ⟨(W19 hw), rfl, rfl⟩) (W5 hw) (ty := (.object "java/lang/String")) (by decide) (own_nar_ref hu) (own_fits_ref hu) zg0 (Safe.exa C1.warm.alike E0 (by decide) (by decide)) d3_6 (pc' := 9) rfl ?_
  intro T2 h2 C2 K2 A2 Wr2
  have f3 := F0.same Wr2
  have f4 := f0.other Wr2 (Or.inr (slot_ne (Or.inr (W21 hw)) (Or.inr (W19 hw)) (by decide) (t := (.object "java/lang/String")) (t' := (.object "java/lang/String")) (by decide) (by decide)))
  show Endw p e below T2 (mkF m 9 #[.val (.ref a), .val u, .val v] []) _
  refine Endw.st (T' := T2) (g' := (mkF m 10 #[.val (.ref a), .val u, .val v] [(.ref a)])) (fun t k => XS.aloadN C2.here C2.hx rfl (C2.dec d3_9) rfl rfl k) ?_
  refine Endw.st (T' := T2) (g' := (mkF m 11 #[.val (.ref a), .val u, .val v] [v, (.ref a)])) (fun t k => XS.aloadN C2.here C2.hx rfl (C2.dec d3_10) rfl hv k) ?_
  have f5 := (E0.keep K2)
  refine C2.putF (v := v) (W20 hw) f4 f5 (Or.inr ⟨(W21 hw), rfl, rfl⟩) (W5 hw) (ty := (.object "java/lang/String")) (by decide) (own_nar_ref hv) (own_fits_ref hv) zg0 (Safe.exa C2.warm.alike f5 (by decide) (by decide)) d3_11 (pc' := 14) rfl ?_
  intro T6 h6 C6 K6 A6 Wr6
  have f7 := f4.same Wr6
  have f8 := f3.other Wr6 (Or.inr (slot_ne (Or.inr (W19 hw)) (Or.inr (W21 hw)) (by decide) (t := (.object "java/lang/String")) (t' := (.object "java/lang/String")) (by decide) (by decide)))
  show Endw p e below T6 (mkF m 14 #[.val (.ref a), .val u, .val v] []) _
  have f9 := (f5.keep K6)
  exact C6.retV d3_14 (by decide) (by decide) ⟨rfl, (Keep.trans (Keep.trans (Keep.refl h [a]) K2 (allS (Or.inl (by simp)) all0)) K6 (allS (Or.inl (by simp)) all0)), f9, f8, f7⟩
set_option maxRecDepth 65536 in
set_option maxHeartbeats 40000000 in
theorem rm_Bounded (l : Launch) (Z : State) (a0 : Array Value) (EL : List (String × Nat)) (G : Glob Z a0 EL) (a : Addr) (u v : Value) (hu : u.isRef = true) (hv : v.isRef = true) (h : Heap) (O : Ext Z.heap h) (F0 : Fld Z h a "com/example/zedwitness/zedwitness/SmtSet$Range" "low" "Ljava/lang/String;" u) (f0 : Fld Z h a "com/example/zedwitness/zedwitness/SmtSet$Range" "high" "Ljava/lang/String;" v) :
    Met l Z EL false (⟨"com/example/zedwitness/zedwitness/SmtSet$Range", "bounded", "()Z"⟩ : MethodName) prog_118_method_4_code 1 (some .boolean) [] ({ frames := 0, cells := 0, slots := 0, locals := 0 } : Room) #[(.ref a)] h [] (fun r h' => r = some (.int (if u = .null ∨ v = .null then 0 else 1)) ∧ h = h') := by
  have hw := G.hw
  obtain ⟨zc, Sc, hzc⟩ := G.cs
  obtain ⟨vf, Sf, hvf⟩ := G.fm
  refine Met.of (plainFor_of_name pn_2452616e6765_1) G.ew O ?_
  intro p e s m below meth c T0 C0 S0
  refine Endw.eq (g' := mkF m 0 #[.val (.ref a)] []) (by first | rfl | (simp [entryFrame, mkF, argsToLocals, own_cI, own_cR, own_cN, own_cJ, own_cD, maxLocals]; done)) ?_
  refine Endw.st (T' := T0) (g' := (mkF m 1 #[.val (.ref a)] [(.ref a)])) (fun t k => XS.aloadN C0.here C0.hx rfl (C0.dec d4_0) rfl rfl k) ?_
  refine C0.getF (W18 hw) F0 d4_1 (pc' := 4) rfl ?_
  intro T1 C1
  show Endw p e below T1 (mkF m 4 #[.val (.ref a)] [u]) _
  by_cases c2 : u = .null
  · refine Endw.st (T' := T1) (g' := (mkF m 18 #[.val (.ref a)] [])) (fun t k => XT.nullYes C1.here C1.hx rfl (pc0 := 4) rfl (C1.dec d4_4) rfl c2 (by decide) rfl k) ?_
    refine Endw.st (T' := T1) (g' := (mkF m 19 #[.val (.ref a)] [(.int (0 : Int32))])) (fun t k => XS.iconst C1.here C1.hx rfl (C1.dec d4_18) k) ?_
    exact C1.retI (t := .boolean) rfl (by simp) rfl d4_19 (by decide) (by decide) ⟨by simp [c2], rfl⟩
  · refine Endw.st (T' := T1) (g' := (mkF m 7 #[.val (.ref a)] [])) (fun t k => XT.nullNo C1.here C1.hx rfl (C1.dec d4_4) rfl hu c2 k) ?_
    refine Endw.st (T' := T1) (g' := (mkF m 8 #[.val (.ref a)] [(.ref a)])) (fun t k => XS.aloadN C1.here C1.hx rfl (C1.dec d4_7) rfl rfl k) ?_
    refine C1.getF (W20 hw) f0 d4_8 (pc' := 11) rfl ?_
    intro T3 C3
    show Endw p e below T3 (mkF m 11 #[.val (.ref a)] [v]) _
    by_cases c4 : v = .null
    · refine Endw.st (T' := T3) (g' := (mkF m 18 #[.val (.ref a)] [])) (fun t k => XT.nullYes C3.here C3.hx rfl (pc0 := 11) rfl (C3.dec d4_11) rfl c4 (by decide) rfl k) ?_
      refine Endw.st (T' := T3) (g' := (mkF m 19 #[.val (.ref a)] [(.int (0 : Int32))])) (fun t k => XS.iconst C3.here C3.hx rfl (C3.dec d4_18) k) ?_
      exact C3.retI (t := .boolean) rfl (by simp) rfl d4_19 (by decide) (by decide) ⟨by simp [c2, c4], rfl⟩
    · refine Endw.st (T' := T3) (g' := (mkF m 14 #[.val (.ref a)] [])) (fun t k => XT.nullNo C3.here C3.hx rfl (C3.dec d4_11) rfl hv c4 k) ?_
      refine Endw.st (T' := T3) (g' := (mkF m 15 #[.val (.ref a)] [(.int (1 : Int32))])) (fun t k => XS.iconst C3.here C3.hx rfl (C3.dec d4_14) k) ?_
      refine Endw.st (T' := T3) (g' := (mkF m 19 #[.val (.ref a)] [(.int (1 : Int32))])) (fun t k => XS.goto C3.here C3.hx rfl (pc0 := 15) rfl (C3.dec d4_15) (by decide) rfl k) ?_
      exact C3.retI (t := .boolean) rfl (by simp) rfl d4_19 (by decide) (by decide) ⟨by simp [c2, c4], rfl⟩
set_option maxRecDepth 65536 in
set_option maxHeartbeats 40000000 in
theorem rm_Drawn (l : Launch) (Z : State) (a0 : Array Value) (EL : List (String × Nat)) (G : Glob Z a0 EL) (pr co : Int32) (h : Heap) (O : Ext Z.heap h)  :
    Met l Z EL false (⟨"com/example/zedwitness/zedwitness/RangeBoundedPinLaw", "drawn", "(II)Ljava/lang/String;"⟩ : MethodName) method_2_code 3 (some (.object "java/lang/String")) [] ({ frames := 4, cells := 6, slots := 12, locals := 66 } : Room) #[(.int pr), (.int co)] h [] (fun r h' => ∃ u : Value, r = some u ∧ u.isRef = true ∧ ((pr = 0 ∧ u = .null) ∨ (¬ pr = 0 ∧ ¬ u = .null)) ∧ Keep h h' []) := by
  have hw := G.hw
  obtain ⟨zc, Sc, hzc⟩ := G.cs
  obtain ⟨vf, Sf, hvf⟩ := G.fm
  refine Met.of (plainFor_of_name pn_50696e4c6177_0) G.ew O ?_
  intro p e s m below meth c T0 C0 S0
  refine Endw.eq (g' := mkF m 0 #[.val (.int pr), .val (.int co), .unset] []) (by first | rfl | (simp [entryFrame, mkF, argsToLocals, own_cI, own_cR, own_cN, own_cJ, own_cD, maxLocals]; done)) ?_
  refine Endw.st (T' := T0) (g' := (mkF m 1 #[.val (.int pr), .val (.int co), .unset] [(.int pr)])) (fun t k => XS.iloadN C0.here C0.hx rfl (C0.dec d5_0) rfl k) ?_
  by_cases c1 : pr = (0 : Int32)
  · refine Endw.st (T' := T0) (g' := (mkF m 4 #[.val (.int pr), .val (.int co), .unset] [])) (fun t k => XS.ifNo C0.here C0.hx rfl (C0.dec d5_1) rfl (XT.i0_ne_f c1) k) ?_
    refine Endw.st (T' := T0) (g' := (mkF m 5 #[.val (.int pr), .val (.int co), .unset] [.null])) (fun t k => XS.aconstNull C0.here C0.hx rfl (C0.dec d5_4) k) ?_
    exact C0.retA (t := (.object "java/lang/String")) rfl rfl rfl rfl d5_5 (by decide) (by decide) ⟨_, rfl, rfl, Or.inl ⟨c1, rfl⟩, (Keep.refl h [])⟩
  · refine Endw.st (T' := T0) (g' := (mkF m 6 #[.val (.int pr), .val (.int co), .unset] [])) (fun t k => XS.ifYes C0.here C0.hx rfl (pc0 := 1) rfl (C0.dec d5_1) rfl (XT.i0_ne_t c1) (by decide) rfl k) ?_
    refine Endw.st (T' := T0) (g' := (mkF m 7 #[.val (.int pr), .val (.int co), .unset] [(.int co)])) (fun t k => XS.iloadN C0.here C0.hx rfl (C0.dec d5_6) rfl k) ?_
    refine Endw.st (T' := T0) (g' := (mkF m 9 #[.val (.int pr), .val (.int co), .unset] [(.int (8 : Int32)), (.int co)])) (fun t k => XS.bipush C0.here C0.hx rfl (C0.dec d5_7) k) ?_
    refine Endw.st (T' := T0) (g' := (mkF m 10 #[.val (.int pr), .val (.int co), .unset] [(.int ((co.toUInt32 >>> ((8 : Int32) &&& 31).toUInt32).toInt32))])) (fun t k => XS.iushr C0.here C0.hx rfl (C0.dec d5_9) rfl k) ?_
    refine Endw.st (T' := T0) (g' := (mkF m 11 #[.val (.int pr), .val (.int co), .unset] [(.int (1 : Int32)), (.int ((co.toUInt32 >>> ((8 : Int32) &&& 31).toUInt32).toInt32))])) (fun t k => XS.iconst C0.here C0.hx rfl (C0.dec d5_10) k) ?_
    refine Endw.st (T' := T0) (g' := (mkF m 12 #[.val (.int pr), .val (.int co), .unset] [(.int (((co.toUInt32 >>> ((8 : Int32) &&& 31).toUInt32).toInt32) &&& (1 : Int32)))])) (fun t k => XS.iand C0.here C0.hx rfl (C0.dec d5_11) rfl k) ?_
    by_cases c2 : (((co.toUInt32 >>> ((8 : Int32) &&& 31).toUInt32).toInt32) &&& (1 : Int32)) = (0 : Int32)
    · refine Endw.st (T' := T0) (g' := (mkF m 15 #[.val (.int pr), .val (.int co), .unset] [])) (fun t k => XS.ifNo C0.here C0.hx rfl (C0.dec d5_12) rfl (XT.i0_ne_f c2) k) ?_
      refine C0.new (W27 hw) (W28 hw) (W29 hw) d5_15 (pc' := 18) rfl (by decide) (by decide) ?_
      intro T3 h3 a3 C3 K3 A3 ge3 zg3 E3 D3 S3
      show Endw p e below T3 (mkF m 18 #[.val (.int pr), .val (.int co), .unset] [(.ref a3)]) _
      refine Endw.st (T' := T3) (g' := (mkF m 19 #[.val (.int pr), .val (.int co), .unset] [(.ref a3), (.ref a3)])) (fun t k => XS.dup C3.here C3.hx rfl (C3.dec d5_18) rfl rfl k) ?_
      refine Endw.st (T' := T3) (g' := (mkF m 20 #[.val (.int pr), .val (.int co), .unset] [(.int (0 : Int32)), (.ref a3), (.ref a3)])) (fun t k => XS.iconst C3.here C3.hx rfl (C3.dec d5_19) k) ?_
      refine C3.newA (aty := .char) (z := (0 : Int32)) (cap := 0) (vs := []) (W30 hw) d5_20 (pc' := 22) rfl (by decide) (by decide) (by decide) (by decide) (by decide) rfl ?_
      intro T4 h4 a4 kA4 C4 K4 A4 ge4 zg4 V4 S4
      show Endw p e below T4 (mkF m 22 #[.val (.int pr), .val (.int co), .unset] [(.ref a4), (.ref a3), (.ref a3)]) _
      have f5 := (E3.keep K4)
      have f6 : Fld Z h3 a3 "java/lang/String" "value" "[B" .null := D3 (Or.inr (W41 hw)) (ty := (.array .byte)) (by decide)
      have f7 := (f6.keep K4 nin0)
      have f8 : Fld Z h3 a3 "java/lang/String" "coder" "B" (.int (0 : Int32)) := D3 (Or.inr (W42 hw)) (ty := .byte) (by decide)
      have f9 := (f8.keep K4 nin0)
      have f12 := (A4.safe E3.lt S3)
      refine C4.special (y := (⟨"java/lang/String", "<init>", "([C)V"⟩ : MethodName)) (W := 1) (a := a3) (argsL := [(.ref a4)]) (rest := [(.ref a3)]) rfl (W31 hw) (W32 hw) (W33 hw) (W29 hw) (by decide) (rm_StrEmpty1 l Z a0 EL G a3 a4 kA4 h4 C4.old f5 f7 f9 V4 zg3) rfl (allS ⟨(Nat.lt_of_lt_of_le E3.lt K4.1), f12⟩ all0) (by decide) (by decide) (by decide) (by decide) (lenOf pd_285b432956 rfl) rfl (Nat.le_of_ble_eq_true rfl) rfl d5_22 (pc' := 25) rfl ?_
      intro vm11 T11 h11 v11 C11 A11 q11
      obtain ⟨rfl, K11, t11, kb11, Z11⟩ := q11
      show Endw p e below T11 (mkF m 25 #[.val (.int pr), .val (.int co), .unset] [(.ref a3)]) _
      exact C11.retA (t := (.object "java/lang/String")) rfl rfl rfl rfl d5_25 (by decide) (by decide) ⟨_, rfl, rfl, Or.inr ⟨c1, fun q => nomatch q⟩, (Keep.trans (Keep.trans (Keep.trans (Keep.refl h []) K3 all0) K4 all0) K11 (allS (Or.inr ge3) all0))⟩
    · refine Endw.st (T' := T0) (g' := (mkF m 26 #[.val (.int pr), .val (.int co), .unset] [])) (fun t k => XS.ifYes C0.here C0.hx rfl (pc0 := 12) rfl (C0.dec d5_12) rfl (XT.i0_ne_t c2) (by decide) rfl k) ?_
      refine Endw.st (T' := T0) (g' := (mkF m 27 #[.val (.int pr), .val (.int co), .unset] [(.int (1 : Int32))])) (fun t k => XS.iconst C0.here C0.hx rfl (C0.dec d5_26) k) ?_
      refine C0.newA (aty := .char) (z := (1 : Int32)) (cap := 1) (vs := [(.int 0)]) (W30 hw) d5_27 (pc' := 29) rfl (by decide) (by decide) (by decide) (by decide) (by decide) rfl ?_
      intro T13 h13 a13 kA13 C13 K13 A13 ge13 zg13 V13 S13
      show Endw p e below T13 (mkF m 29 #[.val (.int pr), .val (.int co), .unset] [(.ref a13)]) _
      refine Endw.st (T' := T13) (g' := (mkF m 30 #[.val (.int pr), .val (.int co), .val (.ref a13)] [])) (fun t k => XS.astoreN C13.here C13.hx rfl (C13.dec d5_29) rfl rfl (l' := #[.val (.int pr), .val (.int co), .val (.ref a13)]) rfl k) ?_
      refine Endw.st (T' := T13) (g' := (mkF m 31 #[.val (.int pr), .val (.int co), .val (.ref a13)] [(.ref a13)])) (fun t k => XS.aloadN C13.here C13.hx rfl (C13.dec d5_30) rfl rfl k) ?_
      refine Endw.st (T' := T13) (g' := (mkF m 32 #[.val (.int pr), .val (.int co), .val (.ref a13)] [(.int (0 : Int32)), (.ref a13)])) (fun t k => XS.iconst C13.here C13.hx rfl (C13.dec d5_31) k) ?_
      refine Endw.st (T' := T13) (g' := (mkF m 33 #[.val (.int pr), .val (.int co), .val (.ref a13)] [(.int co), (.int (0 : Int32)), (.ref a13)])) (fun t k => XS.iloadN C13.here C13.hx rfl (C13.dec d5_32) rfl k) ?_
      refine Endw.st (T' := T13) (g' := (mkF m 36 #[.val (.int pr), .val (.int co), .val (.ref a13)] [(.int (255 : Int32)), (.int co), (.int (0 : Int32)), (.ref a13)])) (fun t k => XS.sipush C13.here C13.hx rfl (C13.dec d5_33) k) ?_
      refine Endw.st (T' := T13) (g' := (mkF m 37 #[.val (.int pr), .val (.int co), .val (.ref a13)] [(.int (co &&& (255 : Int32))), (.int (0 : Int32)), (.ref a13)])) (fun t k => XS.iand C13.here C13.hx rfl (C13.dec d5_36) rfl k) ?_
      refine Endw.st (T' := T13) (g' := (mkF m 38 #[.val (.int pr), .val (.int co), .val (.ref a13)] [(.int ((co &&& (255 : Int32)).toUInt32.toUInt16.toUInt32.toInt32)), (.int (0 : Int32)), (.ref a13)])) (fun t k => XS.i2c C13.here C13.hx rfl (C13.dec d5_37) rfl k) ?_
      rw [show (co &&& (255 : Int32)).toUInt32.toUInt16.toUInt32.toInt32 = (co &&& (255 : Int32)) from i2c_mask _]
      refine C13.castore V13 ⟨by decide, by decide⟩ 0 (by decide) (Nat.le_of_ble_eq_true rfl) (x' := (co &&& (255 : Int32))) (i2c_mask _) zg13 d5_38 (pc' := 39) rfl ?_
      intro T14 h14 C14 K14 A14 V14
      show Endw p e below T14 (mkF m 39 #[.val (.int pr), .val (.int co), .val (.ref a13)] []) _
      refine C14.new (W27 hw) (W28 hw) (W29 hw) d5_39 (pc' := 42) rfl (by decide) (by decide) ?_
      intro T15 h15 a15 C15 K15 A15 ge15 zg15 E15 D15 S15
      show Endw p e below T15 (mkF m 42 #[.val (.int pr), .val (.int co), .val (.ref a13)] [(.ref a15)]) _
      refine Endw.st (T' := T15) (g' := (mkF m 43 #[.val (.int pr), .val (.int co), .val (.ref a13)] [(.ref a15), (.ref a15)])) (fun t k => XS.dup C15.here C15.hx rfl (C15.dec d5_42) rfl rfl k) ?_
      refine Endw.st (T' := T15) (g' := (mkF m 44 #[.val (.int pr), .val (.int co), .val (.ref a13)] [(.ref a13), (.ref a15), (.ref a15)])) (fun t k => XS.aloadN C15.here C15.hx rfl (C15.dec d5_43) rfl rfl k) ?_
      have f16 := (V14.keep K15 nin0)
      have f17 : Fld Z h15 a15 "java/lang/String" "value" "[B" .null := D15 (Or.inr (W41 hw)) (ty := (.array .byte)) (by decide)
      have f18 : Fld Z h15 a15 "java/lang/String" "coder" "B" (.int (0 : Int32)) := D15 (Or.inr (W42 hw)) (ty := .byte) (by decide)
      have hp19 : ∀ c ∈ [(co &&& (255 : Int32))], B8 c := (own_cS (own_mask255 _) own_c0)
      refine C15.specialF (y := (⟨"java/lang/String", "<init>", "([C)V"⟩ : MethodName)) (ws := [a15]) (W := 1) (a := a15) (argsL := [.ref a13]) (rest := [(.ref a15)]) (ck := 1) (cn := 1) rfl (W31 hw) (W32 hw) (W33 hw) (by decide) (StrChars.Road.backV (W := 1) (n := 1) (n0 := Z.heap.size) (cs := [(co &&& (255 : Int32))]) (bs := [(co &&& (255 : Int32)).toInt8.toInt32]) C15.warm G.w_backV (kI := 4) (W28 hw) zg15 C15.le E15 f17 f18 f16 (Sc.ext C15.old) hzc rfl rfl (by decide) (by decide) hp19 rfl (by decide) (by decide)) (fun _ _ _ q => ⟨q.2.1, q.2.2.1⟩) (allS zg15 all0) (sfS S15 sf0) rfl (by decide) (by decide) (lenOf pd_285b432956 rfl) rfl (Nat.le_of_ble_eq_true rfl) rfl d5_44 (pc' := 47) rfl ?_
      intro T19 h19 v19 C19 K19 A19 q19
      obtain ⟨_, rfl, -, -, E19, F19, t19, kb19, zg19, ge19, nt19, f19, V19⟩ := q19
      have Z19 : Str Z h19 a15 t19 kb19 [(co &&& (255 : Int32))] := ⟨E19, F19, f19, V19, hp19, Nat.le_of_ble_eq_true rfl⟩
      show Endw p e below T19 (mkF m 47 #[.val (.int pr), .val (.int co), .val (.ref a13)] [(.ref a15)]) _
      exact C19.retA (t := (.object "java/lang/String")) rfl rfl rfl rfl d5_47 (by decide) (by decide) ⟨_, rfl, rfl, Or.inr ⟨c1, fun q => nomatch q⟩, (Keep.trans (Keep.trans (Keep.trans (Keep.trans (Keep.refl h []) K13 all0) K14 (allS (Or.inr ge13) all0)) K15 all0) K19 (allS (Or.inr (Nat.le_trans (Nat.le_trans K13.1 K14.1) ge15)) all0))⟩
set_option maxRecDepth 65536 in
set_option maxHeartbeats 40000000 in
theorem rm_law (l : Launch) (Z : State) (a0 : Array Value) (EL : List (String × Nat)) (G : Glob Z a0 EL) (i0 i1 i2 : Int32) (h : Heap) (O : Ext Z.heap h)  :
    Met l Z EL false x code maxLocals ret tables_1 room_1 #[(.int i0), (.int i1), (.int i2)] h [] (fun r h' => r = some (.int 1)) := by
  have hw := G.hw
  obtain ⟨zc, Sc, hzc⟩ := G.cs
  obtain ⟨vf, Sf, hvf⟩ := G.fm
  refine Met.of (plainFor_of_name pn_50696e4c6177_0) G.ew O ?_
  intro p e s m below meth c T0 C0 S0
  refine Endw.eq (g' := mkF m 0 #[.val (.int i0), .val (.int i1), .val (.int i2), .unset, .unset, .unset, .unset, .unset, .unset] []) (by first | rfl | (simp [entryFrame, mkF, argsToLocals, own_cI, own_cR, own_cN, own_cJ, own_cD, maxLocals]; done)) ?_
  refine Endw.st (T' := T0) (g' := (mkF m 1 #[.val (.int i0), .val (.int i1), .val (.int i2), .unset, .unset, .unset, .unset, .unset, .unset] [(.int i0)])) (fun t k => XS.iloadN C0.here C0.hx rfl (C0.dec at_0) rfl k) ?_
  refine Endw.st (T' := T0) (g' := (mkF m 2 #[.val (.int i0), .val (.int i1), .val (.int i2), .unset, .unset, .unset, .unset, .unset, .unset] [(.int (1 : Int32)), (.int i0)])) (fun t k => XS.iconst C0.here C0.hx rfl (C0.dec at_1) k) ?_
  refine Endw.st (T' := T0) (g' := (mkF m 3 #[.val (.int i0), .val (.int i1), .val (.int i2), .unset, .unset, .unset, .unset, .unset, .unset] [(.int (i0 &&& (1 : Int32)))])) (fun t k => XS.iand C0.here C0.hx rfl (C0.dec at_2) rfl k) ?_
  refine Endw.st (T' := T0) (g' := (mkF m 4 #[.val (.int i0), .val (.int i1), .val (.int i2), .val (.int (i0 &&& (1 : Int32))), .unset, .unset, .unset, .unset, .unset] [])) (fun t k => XS.istoreN C0.here C0.hx rfl (C0.dec at_3) rfl (l' := #[.val (.int i0), .val (.int i1), .val (.int i2), .val (.int (i0 &&& (1 : Int32))), .unset, .unset, .unset, .unset, .unset]) rfl k) ?_
  refine Endw.st (T' := T0) (g' := (mkF m 5 #[.val (.int i0), .val (.int i1), .val (.int i2), .val (.int (i0 &&& (1 : Int32))), .unset, .unset, .unset, .unset, .unset] [(.int i0)])) (fun t k => XS.iloadN C0.here C0.hx rfl (C0.dec at_4) rfl k) ?_
  refine Endw.st (T' := T0) (g' := (mkF m 6 #[.val (.int i0), .val (.int i1), .val (.int i2), .val (.int (i0 &&& (1 : Int32))), .unset, .unset, .unset, .unset, .unset] [(.int (1 : Int32)), (.int i0)])) (fun t k => XS.iconst C0.here C0.hx rfl (C0.dec at_5) k) ?_
  refine Endw.st (T' := T0) (g' := (mkF m 7 #[.val (.int i0), .val (.int i1), .val (.int i2), .val (.int (i0 &&& (1 : Int32))), .unset, .unset, .unset, .unset, .unset] [(.int ((i0.toUInt32 >>> ((1 : Int32) &&& 31).toUInt32).toInt32))])) (fun t k => XS.iushr C0.here C0.hx rfl (C0.dec at_6) rfl k) ?_
  refine Endw.st (T' := T0) (g' := (mkF m 8 #[.val (.int i0), .val (.int i1), .val (.int i2), .val (.int (i0 &&& (1 : Int32))), .unset, .unset, .unset, .unset, .unset] [(.int (1 : Int32)), (.int ((i0.toUInt32 >>> ((1 : Int32) &&& 31).toUInt32).toInt32))])) (fun t k => XS.iconst C0.here C0.hx rfl (C0.dec at_7) k) ?_
  refine Endw.st (T' := T0) (g' := (mkF m 9 #[.val (.int i0), .val (.int i1), .val (.int i2), .val (.int (i0 &&& (1 : Int32))), .unset, .unset, .unset, .unset, .unset] [(.int (((i0.toUInt32 >>> ((1 : Int32) &&& 31).toUInt32).toInt32) &&& (1 : Int32)))])) (fun t k => XS.iand C0.here C0.hx rfl (C0.dec at_8) rfl k) ?_
  refine Endw.st (T' := T0) (g' := (mkF m 11 #[.val (.int i0), .val (.int i1), .val (.int i2), .val (.int (i0 &&& (1 : Int32))), .val (.int (((i0.toUInt32 >>> ((1 : Int32) &&& 31).toUInt32).toInt32) &&& (1 : Int32))), .unset, .unset, .unset, .unset] [])) (fun t k => XS.istore C0.here C0.hx rfl (C0.dec at_9) rfl (l' := #[.val (.int i0), .val (.int i1), .val (.int i2), .val (.int (i0 &&& (1 : Int32))), .val (.int (((i0.toUInt32 >>> ((1 : Int32) &&& 31).toUInt32).toInt32) &&& (1 : Int32))), .unset, .unset, .unset, .unset]) rfl k) ?_
  refine Endw.st (T' := T0) (g' := (mkF m 12 #[.val (.int i0), .val (.int i1), .val (.int i2), .val (.int (i0 &&& (1 : Int32))), .val (.int (((i0.toUInt32 >>> ((1 : Int32) &&& 31).toUInt32).toInt32) &&& (1 : Int32))), .unset, .unset, .unset, .unset] [(.int (i0 &&& (1 : Int32)))])) (fun t k => XS.iloadN C0.here C0.hx rfl (C0.dec at_11) rfl k) ?_
  refine Endw.st (T' := T0) (g' := (mkF m 13 #[.val (.int i0), .val (.int i1), .val (.int i2), .val (.int (i0 &&& (1 : Int32))), .val (.int (((i0.toUInt32 >>> ((1 : Int32) &&& 31).toUInt32).toInt32) &&& (1 : Int32))), .unset, .unset, .unset, .unset] [(.int i1), (.int (i0 &&& (1 : Int32)))])) (fun t k => XS.iloadN C0.here C0.hx rfl (C0.dec at_12) rfl k) ?_
  refine C0.static (y := (⟨"com/example/zedwitness/zedwitness/RangeBoundedPinLaw", "drawn", "(II)Ljava/lang/String;"⟩ : MethodName)) (W := 0) (argsL := [(.int (i0 &&& (1 : Int32))), (.int i1)]) (rest := []) (W0 hw) (W1 hw) (W3 hw) (W2 hw) (by decide) (rm_Drawn l Z a0 EL G (i0 &&& (1 : Int32)) i1 h C0.old) rfl all0 (by decide) (by decide) (by decide) (by decide) (lenOf pd_2 rfl) rfl (Nat.le_of_ble_eq_true rfl) rfl at_13 (pc' := 16) rfl ?_
  intro vm1 T1 h1 v1 C1 A1 q1
  obtain ⟨u1, rfl, hu1, e1, K1⟩ := q1
  show Endw p e below T1 (mkF m 16 #[.val (.int i0), .val (.int i1), .val (.int i2), .val (.int (i0 &&& (1 : Int32))), .val (.int (((i0.toUInt32 >>> ((1 : Int32) &&& 31).toUInt32).toInt32) &&& (1 : Int32))), .unset, .unset, .unset, .unset] [u1]) _
  refine Endw.st (T' := T1) (g' := (mkF m 18 #[.val (.int i0), .val (.int i1), .val (.int i2), .val (.int (i0 &&& (1 : Int32))), .val (.int (((i0.toUInt32 >>> ((1 : Int32) &&& 31).toUInt32).toInt32) &&& (1 : Int32))), .val u1, .unset, .unset, .unset] [])) (fun t k => XS.astoreS C1.here C1.hx rfl (C1.dec at_16) rfl hu1 (XT.cat1 hu1) rfl (by first | exact Or.inl rfl | exact Or.inr ⟨_, rfl, rfl⟩) k) ?_
  refine Endw.st (T' := T1) (g' := (mkF m 20 #[.val (.int i0), .val (.int i1), .val (.int i2), .val (.int (i0 &&& (1 : Int32))), .val (.int (((i0.toUInt32 >>> ((1 : Int32) &&& 31).toUInt32).toInt32) &&& (1 : Int32))), .val u1, .unset, .unset, .unset] [(.int (((i0.toUInt32 >>> ((1 : Int32) &&& 31).toUInt32).toInt32) &&& (1 : Int32)))])) (fun t k => XS.iload C1.here C1.hx rfl (C1.dec at_18) rfl k) ?_
  refine Endw.st (T' := T1) (g' := (mkF m 21 #[.val (.int i0), .val (.int i1), .val (.int i2), .val (.int (i0 &&& (1 : Int32))), .val (.int (((i0.toUInt32 >>> ((1 : Int32) &&& 31).toUInt32).toInt32) &&& (1 : Int32))), .val u1, .unset, .unset, .unset] [(.int i2), (.int (((i0.toUInt32 >>> ((1 : Int32) &&& 31).toUInt32).toInt32) &&& (1 : Int32)))])) (fun t k => XS.iloadN C1.here C1.hx rfl (C1.dec at_20) rfl k) ?_
  refine C1.static (y := (⟨"com/example/zedwitness/zedwitness/RangeBoundedPinLaw", "drawn", "(II)Ljava/lang/String;"⟩ : MethodName)) (W := 0) (argsL := [(.int (((i0.toUInt32 >>> ((1 : Int32) &&& 31).toUInt32).toInt32) &&& (1 : Int32))), (.int i2)]) (rest := []) (W0 hw) (W1 hw) (W3 hw) (W2 hw) (by decide) (rm_Drawn l Z a0 EL G (((i0.toUInt32 >>> ((1 : Int32) &&& 31).toUInt32).toInt32) &&& (1 : Int32)) i2 h1 C1.old) rfl all0 (by decide) (by decide) (by decide) (by decide) (lenOf pd_2 rfl) rfl (Nat.le_of_ble_eq_true rfl) rfl at_21 (pc' := 24) rfl ?_
  intro vm2 T2 h2 v2 C2 A2 q2
  obtain ⟨u2, rfl, hu2, e2, K2⟩ := q2
  show Endw p e below T2 (mkF m 24 #[.val (.int i0), .val (.int i1), .val (.int i2), .val (.int (i0 &&& (1 : Int32))), .val (.int (((i0.toUInt32 >>> ((1 : Int32) &&& 31).toUInt32).toInt32) &&& (1 : Int32))), .val u1, .unset, .unset, .unset] [u2]) _
  refine Endw.st (T' := T2) (g' := (mkF m 26 #[.val (.int i0), .val (.int i1), .val (.int i2), .val (.int (i0 &&& (1 : Int32))), .val (.int (((i0.toUInt32 >>> ((1 : Int32) &&& 31).toUInt32).toInt32) &&& (1 : Int32))), .val u1, .val u2, .unset, .unset] [])) (fun t k => XS.astoreS C2.here C2.hx rfl (C2.dec at_24) rfl hu2 (XT.cat1 hu2) rfl (by first | exact Or.inl rfl | exact Or.inr ⟨_, rfl, rfl⟩) k) ?_
  refine C2.new (W4 hw) (W5 hw) (W6 hw) at_26 (pc' := 29) rfl (by decide) (by decide) ?_
  intro T3 h3 a3 C3 K3 A3 ge3 zg3 E3 D3 S3
  show Endw p e below T3 (mkF m 29 #[.val (.int i0), .val (.int i1), .val (.int i2), .val (.int (i0 &&& (1 : Int32))), .val (.int (((i0.toUInt32 >>> ((1 : Int32) &&& 31).toUInt32).toInt32) &&& (1 : Int32))), .val u1, .val u2, .unset, .unset] [(.ref a3)]) _
  refine Endw.st (T' := T3) (g' := (mkF m 30 #[.val (.int i0), .val (.int i1), .val (.int i2), .val (.int (i0 &&& (1 : Int32))), .val (.int (((i0.toUInt32 >>> ((1 : Int32) &&& 31).toUInt32).toInt32) &&& (1 : Int32))), .val u1, .val u2, .unset, .unset] [(.ref a3), (.ref a3)])) (fun t k => XS.dup C3.here C3.hx rfl (C3.dec at_29) rfl rfl k) ?_
  refine Endw.st (T' := T3) (g' := (mkF m 32 #[.val (.int i0), .val (.int i1), .val (.int i2), .val (.int (i0 &&& (1 : Int32))), .val (.int (((i0.toUInt32 >>> ((1 : Int32) &&& 31).toUInt32).toInt32) &&& (1 : Int32))), .val u1, .val u2, .unset, .unset] [u1, (.ref a3), (.ref a3)])) (fun t k => XS.aload C3.here C3.hx rfl (C3.dec at_30) rfl hu1 k) ?_
  refine Endw.st (T' := T3) (g' := (mkF m 34 #[.val (.int i0), .val (.int i1), .val (.int i2), .val (.int (i0 &&& (1 : Int32))), .val (.int (((i0.toUInt32 >>> ((1 : Int32) &&& 31).toUInt32).toInt32) &&& (1 : Int32))), .val u1, .val u2, .unset, .unset] [u2, u1, (.ref a3), (.ref a3)])) (fun t k => XS.aload C3.here C3.hx rfl (C3.dec at_32) rfl hu2 k) ?_
  have f4 : Fld Z h3 a3 "com/example/zedwitness/zedwitness/SmtSet$Range" "low" "Ljava/lang/String;" .null := D3 (Or.inr (W19 hw)) (ty := (.object "java/lang/String")) (by decide)
  have f5 : Fld Z h3 a3 "com/example/zedwitness/zedwitness/SmtSet$Range" "high" "Ljava/lang/String;" .null := D3 (Or.inr (W21 hw)) (ty := (.object "java/lang/String")) (by decide)
  refine C3.special (y := (⟨"com/example/zedwitness/zedwitness/SmtSet$Range", "<init>", "(Ljava/lang/String;Ljava/lang/String;)V"⟩ : MethodName)) (W := 1) (a := a3) (argsL := [u1, u2]) (rest := [(.ref a3)]) rfl (W7 hw) (W8 hw) (W9 hw) (W6 hw) (by decide) (rm_RInit l Z a0 EL G a3 u1 u2 hu1 hu2 h3 C3.old E3 f4 f5 zg3) rfl all0 (by decide) (by decide) (by decide) (by decide) (lenOf pd_4 rfl) rfl (Nat.le_of_ble_eq_true rfl) rfl at_34 (pc' := 37) rfl ?_
  intro vm6 T6 h6 v6 C6 A6 q6
  obtain ⟨rfl, K6, E6, F6, f6⟩ := q6
  show Endw p e below T6 (mkF m 37 #[.val (.int i0), .val (.int i1), .val (.int i2), .val (.int (i0 &&& (1 : Int32))), .val (.int (((i0.toUInt32 >>> ((1 : Int32) &&& 31).toUInt32).toInt32) &&& (1 : Int32))), .val u1, .val u2, .unset, .unset] [(.ref a3)]) _
  refine Endw.st (T' := T6) (g' := (mkF m 39 #[.val (.int i0), .val (.int i1), .val (.int i2), .val (.int (i0 &&& (1 : Int32))), .val (.int (((i0.toUInt32 >>> ((1 : Int32) &&& 31).toUInt32).toInt32) &&& (1 : Int32))), .val u1, .val u2, .val (.ref a3), .unset] [])) (fun t k => XS.astore C6.here C6.hx rfl (C6.dec at_37) rfl rfl (l' := #[.val (.int i0), .val (.int i1), .val (.int i2), .val (.int (i0 &&& (1 : Int32))), .val (.int (((i0.toUInt32 >>> ((1 : Int32) &&& 31).toUInt32).toInt32) &&& (1 : Int32))), .val u1, .val u2, .val (.ref a3), .unset]) rfl k) ?_
  refine Endw.st (T' := T6) (g' := (mkF m 40 #[.val (.int i0), .val (.int i1), .val (.int i2), .val (.int (i0 &&& (1 : Int32))), .val (.int (((i0.toUInt32 >>> ((1 : Int32) &&& 31).toUInt32).toInt32) &&& (1 : Int32))), .val u1, .val u2, .val (.ref a3), .unset] [(.int (i0 &&& (1 : Int32)))])) (fun t k => XS.iloadN C6.here C6.hx rfl (C6.dec at_39) rfl k) ?_
  by_cases c7 : (i0 &&& (1 : Int32)) = (0 : Int32)
  · refine Endw.st (T' := T6) (g' := (mkF m 60 #[.val (.int i0), .val (.int i1), .val (.int i2), .val (.int (i0 &&& (1 : Int32))), .val (.int (((i0.toUInt32 >>> ((1 : Int32) &&& 31).toUInt32).toInt32) &&& (1 : Int32))), .val u1, .val u2, .val (.ref a3), .unset] [])) (fun t k => XS.ifYes C6.here C6.hx rfl (pc0 := 40) rfl (C6.dec at_40) rfl (XT.i0_eq_t c7) (by decide) rfl k) ?_
    refine Endw.st (T' := T6) (g' := (mkF m 61 #[.val (.int i0), .val (.int i1), .val (.int i2), .val (.int (i0 &&& (1 : Int32))), .val (.int (((i0.toUInt32 >>> ((1 : Int32) &&& 31).toUInt32).toInt32) &&& (1 : Int32))), .val u1, .val u2, .val (.ref a3), .unset] [(.int (0 : Int32))])) (fun t k => XS.iconst C6.here C6.hx rfl (C6.dec at_60) k) ?_
    refine Endw.st (T' := T6) (g' := (mkF m 63 #[.val (.int i0), .val (.int i1), .val (.int i2), .val (.int (i0 &&& (1 : Int32))), .val (.int (((i0.toUInt32 >>> ((1 : Int32) &&& 31).toUInt32).toInt32) &&& (1 : Int32))), .val u1, .val u2, .val (.ref a3), .val (.int (0 : Int32))] [])) (fun t k => XS.istore C6.here C6.hx rfl (C6.dec at_61) rfl (l' := #[.val (.int i0), .val (.int i1), .val (.int i2), .val (.int (i0 &&& (1 : Int32))), .val (.int (((i0.toUInt32 >>> ((1 : Int32) &&& 31).toUInt32).toInt32) &&& (1 : Int32))), .val u1, .val u2, .val (.ref a3), .val (.int (0 : Int32))]) rfl k) ?_
    refine Endw.st (T' := T6) (g' := (mkF m 65 #[.val (.int i0), .val (.int i1), .val (.int i2), .val (.int (i0 &&& (1 : Int32))), .val (.int (((i0.toUInt32 >>> ((1 : Int32) &&& 31).toUInt32).toInt32) &&& (1 : Int32))), .val u1, .val u2, .val (.ref a3), .val (.int (0 : Int32))] [(.ref a3)])) (fun t k => XS.aload C6.here C6.hx rfl (C6.dec at_63) rfl rfl k) ?_
    refine C6.virtual (y := (⟨"com/example/zedwitness/zedwitness/SmtSet$Range", "bounded", "()Z"⟩ : MethodName)) (z := (⟨"com/example/zedwitness/zedwitness/SmtSet$Range", "bounded", "()Z"⟩ : MethodName)) (W := 0) (a := a3) (argsL := []) (rest := []) (W22 hw) (W23 hw) (fun _ q => notFace_of_selects (args := #[]) (mvT q (W25 hw))) (W25 hw) (W24 hw) (W26 hw) (W6 hw) (by decide) (rm_Bounded l Z a0 EL G a3 u1 u2 hu1 hu2 h6 C6.old F6 f6) rfl E6 all0 (by decide) (by decide) (by decide) (by decide) (lenOf pd_28295a rfl) rfl (Nat.le_of_ble_eq_true rfl) rfl at_65 (pc' := 68) rfl ?_
    intro vm8 T8 h8 v8 C8 A8 q8
    obtain ⟨rfl, rfl⟩ := q8
    show Endw p e below T8 (mkF m 68 #[.val (.int i0), .val (.int i1), .val (.int i2), .val (.int (i0 &&& (1 : Int32))), .val (.int (((i0.toUInt32 >>> ((1 : Int32) &&& 31).toUInt32).toInt32) &&& (1 : Int32))), .val u1, .val u2, .val (.ref a3), .val (.int (0 : Int32))] [(.int (if u1 = .null ∨ u2 = .null then 0 else 1))]) _
    refine Endw.st (T' := T8) (g' := (mkF m 70 #[.val (.int i0), .val (.int i1), .val (.int i2), .val (.int (i0 &&& (1 : Int32))), .val (.int (((i0.toUInt32 >>> ((1 : Int32) &&& 31).toUInt32).toInt32) &&& (1 : Int32))), .val u1, .val u2, .val (.ref a3), .val (.int (0 : Int32))] [(.int (0 : Int32)), (.int (if u1 = .null ∨ u2 = .null then 0 else 1))])) (fun t k => XS.iload C8.here C8.hx rfl (C8.dec at_68) rfl k) ?_
    have t9 : (if u1 = .null ∨ u2 = .null then 0 else 1) = (0 : Int32) := by
      rcases e1 with ⟨q1, q2⟩ | ⟨q1, q2⟩ <;> rcases e2 with ⟨q3, q4⟩ | ⟨q3, q4⟩ <;> simp_all
    refine Endw.st (T' := T8) (g' := (mkF m 73 #[.val (.int i0), .val (.int i1), .val (.int i2), .val (.int (i0 &&& (1 : Int32))), .val (.int (((i0.toUInt32 >>> ((1 : Int32) &&& 31).toUInt32).toInt32) &&& (1 : Int32))), .val u1, .val u2, .val (.ref a3), .val (.int (0 : Int32))] [])) (fun t k => XS.icmpNo C8.here C8.hx rfl (C8.dec at_70) rfl (XT.ii_ne_f t9) k) ?_
    refine Endw.st (T' := T8) (g' := (mkF m 74 #[.val (.int i0), .val (.int i1), .val (.int i2), .val (.int (i0 &&& (1 : Int32))), .val (.int (((i0.toUInt32 >>> ((1 : Int32) &&& 31).toUInt32).toInt32) &&& (1 : Int32))), .val u1, .val u2, .val (.ref a3), .val (.int (0 : Int32))] [(.int (1 : Int32))])) (fun t k => XS.iconst C8.here C8.hx rfl (C8.dec at_73) k) ?_
    refine Endw.st (T' := T8) (g' := (mkF m 78 #[.val (.int i0), .val (.int i1), .val (.int i2), .val (.int (i0 &&& (1 : Int32))), .val (.int (((i0.toUInt32 >>> ((1 : Int32) &&& 31).toUInt32).toInt32) &&& (1 : Int32))), .val u1, .val u2, .val (.ref a3), .val (.int (0 : Int32))] [(.int (1 : Int32))])) (fun t k => XS.goto C8.here C8.hx rfl (pc0 := 74) rfl (C8.dec at_74) (by decide) rfl k) ?_
    exact C8.retI (t := .boolean) rfl (by simp) rfl at_78 (by decide) (by decide) rfl
  · refine Endw.st (T' := T6) (g' := (mkF m 43 #[.val (.int i0), .val (.int i1), .val (.int i2), .val (.int (i0 &&& (1 : Int32))), .val (.int (((i0.toUInt32 >>> ((1 : Int32) &&& 31).toUInt32).toInt32) &&& (1 : Int32))), .val u1, .val u2, .val (.ref a3), .unset] [])) (fun t k => XS.ifNo C6.here C6.hx rfl (C6.dec at_40) rfl (XT.i0_eq_f c7) k) ?_
    refine Endw.st (T' := T6) (g' := (mkF m 45 #[.val (.int i0), .val (.int i1), .val (.int i2), .val (.int (i0 &&& (1 : Int32))), .val (.int (((i0.toUInt32 >>> ((1 : Int32) &&& 31).toUInt32).toInt32) &&& (1 : Int32))), .val u1, .val u2, .val (.ref a3), .unset] [(.int (((i0.toUInt32 >>> ((1 : Int32) &&& 31).toUInt32).toInt32) &&& (1 : Int32)))])) (fun t k => XS.iload C6.here C6.hx rfl (C6.dec at_43) rfl k) ?_
    by_cases c10 : (((i0.toUInt32 >>> ((1 : Int32) &&& 31).toUInt32).toInt32) &&& (1 : Int32)) = (0 : Int32)
    · refine Endw.st (T' := T6) (g' := (mkF m 54 #[.val (.int i0), .val (.int i1), .val (.int i2), .val (.int (i0 &&& (1 : Int32))), .val (.int (((i0.toUInt32 >>> ((1 : Int32) &&& 31).toUInt32).toInt32) &&& (1 : Int32))), .val u1, .val u2, .val (.ref a3), .unset] [])) (fun t k => XS.ifYes C6.here C6.hx rfl (pc0 := 45) rfl (C6.dec at_45) rfl (XT.i0_eq_t c10) (by decide) rfl k) ?_
      refine Endw.st (T' := T6) (g' := (mkF m 55 #[.val (.int i0), .val (.int i1), .val (.int i2), .val (.int (i0 &&& (1 : Int32))), .val (.int (((i0.toUInt32 >>> ((1 : Int32) &&& 31).toUInt32).toInt32) &&& (1 : Int32))), .val u1, .val u2, .val (.ref a3), .unset] [(.int (0 : Int32))])) (fun t k => XS.iconst C6.here C6.hx rfl (C6.dec at_54) k) ?_
      refine Endw.st (T' := T6) (g' := (mkF m 57 #[.val (.int i0), .val (.int i1), .val (.int i2), .val (.int (i0 &&& (1 : Int32))), .val (.int (((i0.toUInt32 >>> ((1 : Int32) &&& 31).toUInt32).toInt32) &&& (1 : Int32))), .val u1, .val u2, .val (.ref a3), .val (.int (0 : Int32))] [])) (fun t k => XS.istore C6.here C6.hx rfl (C6.dec at_55) rfl (l' := #[.val (.int i0), .val (.int i1), .val (.int i2), .val (.int (i0 &&& (1 : Int32))), .val (.int (((i0.toUInt32 >>> ((1 : Int32) &&& 31).toUInt32).toInt32) &&& (1 : Int32))), .val u1, .val u2, .val (.ref a3), .val (.int (0 : Int32))]) rfl k) ?_
      refine Endw.st (T' := T6) (g' := (mkF m 63 #[.val (.int i0), .val (.int i1), .val (.int i2), .val (.int (i0 &&& (1 : Int32))), .val (.int (((i0.toUInt32 >>> ((1 : Int32) &&& 31).toUInt32).toInt32) &&& (1 : Int32))), .val u1, .val u2, .val (.ref a3), .val (.int (0 : Int32))] [])) (fun t k => XS.goto C6.here C6.hx rfl (pc0 := 57) rfl (C6.dec at_57) (by decide) rfl k) ?_
      refine Endw.st (T' := T6) (g' := (mkF m 65 #[.val (.int i0), .val (.int i1), .val (.int i2), .val (.int (i0 &&& (1 : Int32))), .val (.int (((i0.toUInt32 >>> ((1 : Int32) &&& 31).toUInt32).toInt32) &&& (1 : Int32))), .val u1, .val u2, .val (.ref a3), .val (.int (0 : Int32))] [(.ref a3)])) (fun t k => XS.aload C6.here C6.hx rfl (C6.dec at_63) rfl rfl k) ?_
      refine C6.virtual (y := (⟨"com/example/zedwitness/zedwitness/SmtSet$Range", "bounded", "()Z"⟩ : MethodName)) (z := (⟨"com/example/zedwitness/zedwitness/SmtSet$Range", "bounded", "()Z"⟩ : MethodName)) (W := 0) (a := a3) (argsL := []) (rest := []) (W22 hw) (W23 hw) (fun _ q => notFace_of_selects (args := #[]) (mvT q (W25 hw))) (W25 hw) (W24 hw) (W26 hw) (W6 hw) (by decide) (rm_Bounded l Z a0 EL G a3 u1 u2 hu1 hu2 h6 C6.old F6 f6) rfl E6 all0 (by decide) (by decide) (by decide) (by decide) (lenOf pd_28295a rfl) rfl (Nat.le_of_ble_eq_true rfl) rfl at_65 (pc' := 68) rfl ?_
      intro vm11 T11 h11 v11 C11 A11 q11
      obtain ⟨rfl, rfl⟩ := q11
      show Endw p e below T11 (mkF m 68 #[.val (.int i0), .val (.int i1), .val (.int i2), .val (.int (i0 &&& (1 : Int32))), .val (.int (((i0.toUInt32 >>> ((1 : Int32) &&& 31).toUInt32).toInt32) &&& (1 : Int32))), .val u1, .val u2, .val (.ref a3), .val (.int (0 : Int32))] [(.int (if u1 = .null ∨ u2 = .null then 0 else 1))]) _
      refine Endw.st (T' := T11) (g' := (mkF m 70 #[.val (.int i0), .val (.int i1), .val (.int i2), .val (.int (i0 &&& (1 : Int32))), .val (.int (((i0.toUInt32 >>> ((1 : Int32) &&& 31).toUInt32).toInt32) &&& (1 : Int32))), .val u1, .val u2, .val (.ref a3), .val (.int (0 : Int32))] [(.int (0 : Int32)), (.int (if u1 = .null ∨ u2 = .null then 0 else 1))])) (fun t k => XS.iload C11.here C11.hx rfl (C11.dec at_68) rfl k) ?_
      have t12 : (if u1 = .null ∨ u2 = .null then 0 else 1) = (0 : Int32) := by
        rcases e1 with ⟨q1, q2⟩ | ⟨q1, q2⟩ <;> rcases e2 with ⟨q3, q4⟩ | ⟨q3, q4⟩ <;> simp_all
      refine Endw.st (T' := T11) (g' := (mkF m 73 #[.val (.int i0), .val (.int i1), .val (.int i2), .val (.int (i0 &&& (1 : Int32))), .val (.int (((i0.toUInt32 >>> ((1 : Int32) &&& 31).toUInt32).toInt32) &&& (1 : Int32))), .val u1, .val u2, .val (.ref a3), .val (.int (0 : Int32))] [])) (fun t k => XS.icmpNo C11.here C11.hx rfl (C11.dec at_70) rfl (XT.ii_ne_f t12) k) ?_
      refine Endw.st (T' := T11) (g' := (mkF m 74 #[.val (.int i0), .val (.int i1), .val (.int i2), .val (.int (i0 &&& (1 : Int32))), .val (.int (((i0.toUInt32 >>> ((1 : Int32) &&& 31).toUInt32).toInt32) &&& (1 : Int32))), .val u1, .val u2, .val (.ref a3), .val (.int (0 : Int32))] [(.int (1 : Int32))])) (fun t k => XS.iconst C11.here C11.hx rfl (C11.dec at_73) k) ?_
      refine Endw.st (T' := T11) (g' := (mkF m 78 #[.val (.int i0), .val (.int i1), .val (.int i2), .val (.int (i0 &&& (1 : Int32))), .val (.int (((i0.toUInt32 >>> ((1 : Int32) &&& 31).toUInt32).toInt32) &&& (1 : Int32))), .val u1, .val u2, .val (.ref a3), .val (.int (0 : Int32))] [(.int (1 : Int32))])) (fun t k => XS.goto C11.here C11.hx rfl (pc0 := 74) rfl (C11.dec at_74) (by decide) rfl k) ?_
      exact C11.retI (t := .boolean) rfl (by simp) rfl at_78 (by decide) (by decide) rfl
    · refine Endw.st (T' := T6) (g' := (mkF m 48 #[.val (.int i0), .val (.int i1), .val (.int i2), .val (.int (i0 &&& (1 : Int32))), .val (.int (((i0.toUInt32 >>> ((1 : Int32) &&& 31).toUInt32).toInt32) &&& (1 : Int32))), .val u1, .val u2, .val (.ref a3), .unset] [])) (fun t k => XS.ifNo C6.here C6.hx rfl (C6.dec at_45) rfl (XT.i0_eq_f c10) k) ?_
      refine Endw.st (T' := T6) (g' := (mkF m 49 #[.val (.int i0), .val (.int i1), .val (.int i2), .val (.int (i0 &&& (1 : Int32))), .val (.int (((i0.toUInt32 >>> ((1 : Int32) &&& 31).toUInt32).toInt32) &&& (1 : Int32))), .val u1, .val u2, .val (.ref a3), .unset] [(.int (1 : Int32))])) (fun t k => XS.iconst C6.here C6.hx rfl (C6.dec at_48) k) ?_
      refine Endw.st (T' := T6) (g' := (mkF m 51 #[.val (.int i0), .val (.int i1), .val (.int i2), .val (.int (i0 &&& (1 : Int32))), .val (.int (((i0.toUInt32 >>> ((1 : Int32) &&& 31).toUInt32).toInt32) &&& (1 : Int32))), .val u1, .val u2, .val (.ref a3), .val (.int (1 : Int32))] [])) (fun t k => XS.istore C6.here C6.hx rfl (C6.dec at_49) rfl (l' := #[.val (.int i0), .val (.int i1), .val (.int i2), .val (.int (i0 &&& (1 : Int32))), .val (.int (((i0.toUInt32 >>> ((1 : Int32) &&& 31).toUInt32).toInt32) &&& (1 : Int32))), .val u1, .val u2, .val (.ref a3), .val (.int (1 : Int32))]) rfl k) ?_
      refine Endw.st (T' := T6) (g' := (mkF m 63 #[.val (.int i0), .val (.int i1), .val (.int i2), .val (.int (i0 &&& (1 : Int32))), .val (.int (((i0.toUInt32 >>> ((1 : Int32) &&& 31).toUInt32).toInt32) &&& (1 : Int32))), .val u1, .val u2, .val (.ref a3), .val (.int (1 : Int32))] [])) (fun t k => XS.goto C6.here C6.hx rfl (pc0 := 51) rfl (C6.dec at_51) (by decide) rfl k) ?_
      refine Endw.st (T' := T6) (g' := (mkF m 65 #[.val (.int i0), .val (.int i1), .val (.int i2), .val (.int (i0 &&& (1 : Int32))), .val (.int (((i0.toUInt32 >>> ((1 : Int32) &&& 31).toUInt32).toInt32) &&& (1 : Int32))), .val u1, .val u2, .val (.ref a3), .val (.int (1 : Int32))] [(.ref a3)])) (fun t k => XS.aload C6.here C6.hx rfl (C6.dec at_63) rfl rfl k) ?_
      refine C6.virtual (y := (⟨"com/example/zedwitness/zedwitness/SmtSet$Range", "bounded", "()Z"⟩ : MethodName)) (z := (⟨"com/example/zedwitness/zedwitness/SmtSet$Range", "bounded", "()Z"⟩ : MethodName)) (W := 0) (a := a3) (argsL := []) (rest := []) (W22 hw) (W23 hw) (fun _ q => notFace_of_selects (args := #[]) (mvT q (W25 hw))) (W25 hw) (W24 hw) (W26 hw) (W6 hw) (by decide) (rm_Bounded l Z a0 EL G a3 u1 u2 hu1 hu2 h6 C6.old F6 f6) rfl E6 all0 (by decide) (by decide) (by decide) (by decide) (lenOf pd_28295a rfl) rfl (Nat.le_of_ble_eq_true rfl) rfl at_65 (pc' := 68) rfl ?_
      intro vm13 T13 h13 v13 C13 A13 q13
      obtain ⟨rfl, rfl⟩ := q13
      show Endw p e below T13 (mkF m 68 #[.val (.int i0), .val (.int i1), .val (.int i2), .val (.int (i0 &&& (1 : Int32))), .val (.int (((i0.toUInt32 >>> ((1 : Int32) &&& 31).toUInt32).toInt32) &&& (1 : Int32))), .val u1, .val u2, .val (.ref a3), .val (.int (1 : Int32))] [(.int (if u1 = .null ∨ u2 = .null then 0 else 1))]) _
      refine Endw.st (T' := T13) (g' := (mkF m 70 #[.val (.int i0), .val (.int i1), .val (.int i2), .val (.int (i0 &&& (1 : Int32))), .val (.int (((i0.toUInt32 >>> ((1 : Int32) &&& 31).toUInt32).toInt32) &&& (1 : Int32))), .val u1, .val u2, .val (.ref a3), .val (.int (1 : Int32))] [(.int (1 : Int32)), (.int (if u1 = .null ∨ u2 = .null then 0 else 1))])) (fun t k => XS.iload C13.here C13.hx rfl (C13.dec at_68) rfl k) ?_
      have t14 : (if u1 = .null ∨ u2 = .null then 0 else 1) = (1 : Int32) := by
        rcases e1 with ⟨q1, q2⟩ | ⟨q1, q2⟩ <;> rcases e2 with ⟨q3, q4⟩ | ⟨q3, q4⟩ <;> simp_all
      refine Endw.st (T' := T13) (g' := (mkF m 73 #[.val (.int i0), .val (.int i1), .val (.int i2), .val (.int (i0 &&& (1 : Int32))), .val (.int (((i0.toUInt32 >>> ((1 : Int32) &&& 31).toUInt32).toInt32) &&& (1 : Int32))), .val u1, .val u2, .val (.ref a3), .val (.int (1 : Int32))] [])) (fun t k => XS.icmpNo C13.here C13.hx rfl (C13.dec at_70) rfl (XT.ii_ne_f t14) k) ?_
      refine Endw.st (T' := T13) (g' := (mkF m 74 #[.val (.int i0), .val (.int i1), .val (.int i2), .val (.int (i0 &&& (1 : Int32))), .val (.int (((i0.toUInt32 >>> ((1 : Int32) &&& 31).toUInt32).toInt32) &&& (1 : Int32))), .val u1, .val u2, .val (.ref a3), .val (.int (1 : Int32))] [(.int (1 : Int32))])) (fun t k => XS.iconst C13.here C13.hx rfl (C13.dec at_73) k) ?_
      refine Endw.st (T' := T13) (g' := (mkF m 78 #[.val (.int i0), .val (.int i1), .val (.int i2), .val (.int (i0 &&& (1 : Int32))), .val (.int (((i0.toUInt32 >>> ((1 : Int32) &&& 31).toUInt32).toInt32) &&& (1 : Int32))), .val u1, .val u2, .val (.ref a3), .val (.int (1 : Int32))] [(.int (1 : Int32))])) (fun t k => XS.goto C13.here C13.hx rfl (pc0 := 74) rfl (C13.dec at_74) (by decide) rfl k) ?_
      exact C13.retI (t := .boolean) rfl (by simp) rfl at_78 (by decide) (by decide) rfl
set_option maxRecDepth 65536 in
set_option maxHeartbeats 40000000 in
theorem comes_1 {Post : Tables → Env → Array Value → State → Outcome → State → Prop} (hpost : ∀ tb e args s v u, (limb_1_1.after args s (.returned v) u = true ∧ limb_1_2.after args s (.returned v) u = true ∧ True) → FramedW s (.returned v) u (Jvm.fieldLocs frame_1_writes args s ++ Jvm.arrayLocs frame_1_arrays args s ++ Jvm.staticLocs frame_1_statics s) 24 1152 → Post tb e args s (.returned v) u) :
    ArmFor flags0 classFile x code maxLocals ret World_1 tables_1 room_1 Calls_1 rest_1 Pre_1 Post := by
  intro l hfl _ _ p e ha hc hk s m args below hf hA hF happ hP
  obtain ⟨hcalls, hrest, hpre⟩ := hP
  obtain ⟨-, -, -, hnamed, -, -, -, hat⟩ := (Spec.applies_iff hf).mp happ
  obtain ⟨hg, hn⟩ := and_e (Cond.before_iff.mp (show (Jvm.Cond.and given_1 narrow_1).before args s = true from hpre))
  obtain ⟨h1, g0⟩ := and_e hg
  obtain ⟨a0, g1⟩ := and_e g0
  obtain ⟨a1, g2⟩ := and_e g1
  have a2 := g2
  obtain ⟨w0, w1, w2, rfl⟩ : ∃ w0 w1 w2 : Value, args = #[w0, w1, w2] := by
    have hs : args.size = 3 := by simpa [Cond.value, given_1] using h1
    obtain ⟨L⟩ := args
    match L, hs with
    | [w0, w1, w2], _ => exact ⟨w0, w1, w2, rfl⟩
  have hw := fun d (hd : d ∈ tables_1) => atoms_spec (ws := Jvm.Cond.code x code maxLocals ret :: tables_1) hat d (List.mem_cons_of_mem _ hd)
  obtain ⟨hsets, hown0⟩ := atoms_of _ (rest_1_c_eq ▸ (show rest_1_c.before _ s = true from hrest))
  obtain ⟨i0, e0⟩ := is_v a0
  obtain rfl : w0 = (.int i0) := Option.some.inj e0
  obtain ⟨i1, e1⟩ := is_v a1
  obtain rfl : w1 = (.int i1) := Option.some.inj e1
  obtain ⟨i2, e2⟩ := is_v a2
  obtain rfl : w2 = (.int i2) := Option.some.inj e2
  have n5 := not_v (Cond.before_iff.mp (hsets _ (List.mem_of_getElem? (i := 2) rfl)))
  obtain ⟨zc, ec⟩ := is_v (Cond.before_iff.mp (hsets _ (List.mem_of_getElem? (i := 1) rfl)))
  have Sc : Sta s s.heap "java/lang/String" "COMPACT_STRINGS" "Z" (.int zc) := Sta.start ec (Or.inl (hsets _ (List.mem_of_getElem? (i := 0) rfl)))
  have hzc : ¬ (zc = (0 : Int32)) := gotF (Cond.eq_ints ec (Term.int_eval (0))) n5
  obtain ⟨vf, ef, rf⟩ := isR_v (Cond.before_iff.mp (hsets _ (List.mem_of_getElem? (i := 8) rfl)))
  have Sf : Sta s s.heap "jdk/internal/util/Preconditions" "SIOOBE_FORMATTER" "Ljava/util/function/BiFunction;" vf := Sta.start ef (Or.inl (hsets _ (List.mem_of_getElem? (i := 7) rfl)))
  have hEW : EW s #[(.int i0), (.int i1), (.int i2)] consts_1 := (EW.cons (W39 hw) (by decide) EW.nil)
  have hG : Glob s #[(.int i0), (.int i1), (.int i2)] consts_1 := ⟨hw, hEW, rfl, ⟨zc, Sc, hzc⟩, ⟨vf, Sf, rf⟩⟩
  have hCH : CHv s consts_1 s.vm s.heap := CHv.start hEW hcalls.1 (hsets _ (List.mem_of_getElem? (i := 2) rfl)) (W40 hw) (W28 hw)
  obtain ⟨n, o, h1, h2, h3, v, L, rfl, ⟨rfl, N, -⟩, ⟨-, hwm⟩, hq⟩ := rm_law l s _ consts_1 hG i0 i1 i2 s.heap ⟨Nat.le_refl _, fun _ _ q => q⟩ p e ha hc hk s m _ below hf ((Spec.applies_iff_loose hf).mp happ).1 ⟨rfl, State.Warmed39.refl s, rfl, hCH, all0⟩ trivial
  refine ⟨n, _, h1, h2, h3, hpost _ _ _ _ _ _ ⟨Cond.after_iff.mpr rfl, Cond.after_iff.mpr (eq_i res_at (Term.int_eval (1)) rfl), trivial⟩ ⟨hq.1, hq.2.1, hq.2.2.1, (hq.2.2.2.sift fun y hy => Or.inr (N y hy)).mono (by decide) (by decide)⟩⟩
theorem main_1_1 : Claimed_1_1 := comes_1 fun _ _ _ _ _ _ h hF => ⟨h.1, hF⟩
theorem main_1_2 : Claimed_1_2 := comes_1 fun _ _ _ _ _ _ h hF => ⟨h.2.1, hF⟩
end Jvm.Pilot.@@N@@
namespace Jvm.Pilot.@@N@@
open Jvm Jvm.ClassFile Sem Op Lib Jvm.Free Jvm.Stand Jvm.Pilot.@@N@@.Jvm.D
/-! MADE BY PROGRAM (witnessworld.py) out of the Statement's table words and the real class files: 24 classes; the members and pool entries that the words name. The judged class is class 1, her method 2. -/
namespace start1
open Jvm.ClassFile
def u (s : String) : CpInfo := .utf8 (stringToUtf16 s)
/-- a pool by its gaps: so many unusable entries, then the entry; so many at the end -/
def gap : Nat → List CpInfo → List CpInfo
  | 0, r => r
  | n + 1, r => .unusable :: gap n r
def poolList (es : List (Nat × CpInfo)) (last : Nat) : List CpInfo := es.foldr (fun e r => gap e.1 (e.2 :: r)) (gap last [])
def pool (es : List (Nat × CpInfo)) (last : Nat) : Array CpInfo := ⟨poolList es last⟩
def fileOf (pool : Array CpInfo) (this : Nat) (attrs : Array Attribute := #[]) (ms : Array MethodInfo := #[]) (fl : Nat := 33) (sup : Nat := 0) (ifs : Array Nat := #[]) (fds : Array FieldInfo := #[]) : ClassFile where
  minorVersion := 0
  majorVersion := 65
  constantPool := pool
  accessFlags := fl
  thisClass := this
  superClass := sup
  interfaces := ifs
  fields := fds
  methods := ms
  attributes := attrs
def plain (name : String) (sup : Option ClassId) : Class where
  name := name
  kind := .ordinary
  loader := none
  accessFlags := 33
  super := sup
  interfaces := #[]
  cf := none
  fields := #[]
  methods := #[]
  instanceTypes := #[]
  staticTypes := #[]
  resolved := #[]
  callSites := []
  init := .initialized
  statics := none
  mirror := none

def pool0 : Array CpInfo := pool [(5, u "<init>"), (0, u "()V"), (1, .class_ 10), (1, u "java/lang/Object")] 113

def k0c0 : Code := { maxStack := 0, maxLocals := 1, code := object_method_1_code, exceptionTable := #[], attributes := #[] }
def k0m0 : Method := { name := "<init>", desc := "()V", sig := { parameters := [], returnType := none }, accessFlags := 1, code := some k0c0 }
/-- java/lang/Object -/
def k0 : Class := { plain "java/lang/Object" none with
  accessFlags := 33
  interfaces := #[]
  cf := some (fileOf pool0 8 #[] #[{ accessFlags := 1, nameIndex := 5, descriptorIndex := 6, attributes := #[] }] 33 0 #[] #[])
  fields := #[]
  methods := #[k0m0]
  instanceTypes := #[]
  staticTypes := #[]
  resolved := Array.replicate 124 none
  statics := none }

def pool1 : Array CpInfo := pool [(2, .class_ 4), (1, u "java/lang/Object"), (0, u "<init>"), (0, u "()V"), (0, .class_ 8), (0, u "java/lang/String"), (0, .methodref 7 10), (0, .nameAndType 5 11), (0, u "([C)V"), (0, .methodref 13 14), (0, .class_ 15), (0, .nameAndType 16 17), (0, u "com/example/zedwitness/zedwitness/RangeBoundedPinLaw"), (0, u "drawn"), (0, u "(II)Ljava/lang/String;"), (0, .class_ 19), (0, u "com/example/zedwitness/zedwitness/SmtSet$Range"), (0, .methodref 18 21), (0, .nameAndType 5 22), (0, u "(Ljava/lang/String;Ljava/lang/String;)V"), (0, .methodref 18 24), (0, .nameAndType 25 26), (0, u "bounded"), (0, u "()Z"), (3, u "law"), (0, u "(III)Z")] 6

def k1m0 : Method := { name := "<init>", desc := "()V", sig := { parameters := [], returnType := none }, accessFlags := 2, code := none }
def k1c1 : Code := { maxStack := 4, maxLocals := 3, code := method_2_code, exceptionTable := #[], attributes := #[] }
def k1m1 : Method := { name := "drawn", desc := "(II)Ljava/lang/String;", sig := { parameters := [.int, .int], returnType := some (.object "java/lang/String") }, accessFlags := 10, code := some k1c1 }
def k1c2 : Code := { maxStack := 4, maxLocals := 9, code := code, exceptionTable := #[], attributes := #[] }
def k1m2 : Method := { name := "law", desc := "(III)Z", sig := { parameters := [.int, .int, .int], returnType := some .boolean }, accessFlags := 9, code := some k1c2 }
/-- com/example/zedwitness/zedwitness/RangeBoundedPinLaw -/
def k1 : Class := { plain "com/example/zedwitness/zedwitness/RangeBoundedPinLaw" (some 0) with
  accessFlags := 49
  interfaces := #[]
  cf := some (fileOf pool1 13 #[] #[{ accessFlags := 2, nameIndex := 5, descriptorIndex := 6, attributes := #[] }, { accessFlags := 10, nameIndex := 16, descriptorIndex := 17, attributes := #[] }, { accessFlags := 9, nameIndex := 30, descriptorIndex := 31, attributes := #[] }] 49 2 #[] #[])
  fields := #[]
  methods := #[k1m0, k1m1, k1m2]
  instanceTypes := #[]
  staticTypes := #[]
  resolved := Array.replicate 38 none
  statics := none }

def pool2 : Array CpInfo := pool [(1, .methodref 2 3), (0, .class_ 4), (0, .nameAndType 5 6), (0, u "java/lang/Object"), (0, u "<init>"), (0, u "()V"), (0, .class_ 8), (0, u "java/lang/Record")] 13

def k2c0 : Code := { maxStack := 1, maxLocals := 1, code := jdk_30_method_1_code, exceptionTable := #[], attributes := #[] }
def k2m0 : Method := { name := "<init>", desc := "()V", sig := { parameters := [], returnType := none }, accessFlags := 4, code := some k2c0 }
/-- java/lang/Record -/
def k2 : Class := { plain "java/lang/Record" (some 0) with
  accessFlags := 1057
  interfaces := #[]
  cf := some (fileOf pool2 7 #[] #[{ accessFlags := 4, nameIndex := 5, descriptorIndex := 6, attributes := #[] }] 1057 2 #[] #[])
  fields := #[]
  methods := #[k2m0]
  instanceTypes := #[]
  staticTypes := #[]
  resolved := Array.replicate 22 none
  statics := none }

def pool3 : Array CpInfo := pool [(1, .class_ 2), (0, u "com/example/zedwitness/zedwitness/SmtTerm$Scalar"), (24, .class_ 28), (0, u "com/example/zedwitness/zedwitness/SmtTerm$Tuple"), (20, .class_ 50), (0, u "com/example/zedwitness/zedwitness/SmtTerm"), (109, .class_ 161), (0, u "java/lang/Object")] 33

/-- com/example/zedwitness/zedwitness/SmtTerm -/
def k3 : Class := { plain "com/example/zedwitness/zedwitness/SmtTerm" (some 0) with
  accessFlags := 1536
  interfaces := #[]
  cf := some (fileOf pool3 49 #[.nestMembers #[27, 1]] #[] 1536 160 #[] #[])
  fields := #[]
  methods := #[]
  instanceTypes := #[]
  staticTypes := #[]
  resolved := Array.replicate 195 none
  statics := none }

def pool4 : Array CpInfo := pool [(15, .class_ 16), (0, u "com/example/zedwitness/zedwitness/SmtSet$Listed"), (0, .class_ 18), (0, u "com/example/zedwitness/zedwitness/SmtSet$Integers"), (1, .class_ 22), (1, u "com/example/zedwitness/zedwitness/SmtSet"), (2, .class_ 26), (0, u "com/example/zedwitness/zedwitness/SmtSet$Product"), (84, .class_ 112), (0, u "com/example/zedwitness/zedwitness/SmtSet$Member"), (1, .class_ 116), (1, u "com/example/zedwitness/zedwitness/SmtSet$Place"), (82, .class_ 200), (0, u "com/example/zedwitness/zedwitness/SmtSet$Range"), (76, .class_ 279), (1, u "com/example/zedwitness/zedwitness/SmtTerm"), (24, .class_ 305), (0, u "com/example/zedwitness/zedwitness/SmtSet$Described"), (26, .class_ 333), (0, u "com/example/zedwitness/zedwitness/SmtSet$Combined"), (119, .class_ 455), (1, u "com/example/zedwitness/zedwitness/SmtSet$Layout"), (17, .class_ 474), (0, u "java/lang/Object"), (0, u "LISTED_RANGE"), (0, u "I"), (2, u "COMBINATION_LIMIT"), (50, .class_ 531), (0, u "com/example/zedwitness/zedwitness/SmtSet$Membership"), (0, .class_ 533), (0, u "com/example/zedwitness/zedwitness/SmtSet$Place$Kind")] 88

/-- com/example/zedwitness/zedwitness/SmtSet -/
def k4 : Class := { plain "com/example/zedwitness/zedwitness/SmtSet" (some 0) with
  accessFlags := 1536
  interfaces := #[3]
  cf := some (fileOf pool4 20 #[.nestMembers #[530, 304, 25, 114, 532, 332, 199, 17, 15, 111, 453]] #[] 1536 473 #[277] #[{ accessFlags := 25, nameIndex := 475, descriptorIndex := 476, attributes := #[] }, { accessFlags := 25, nameIndex := 479, descriptorIndex := 476, attributes := #[] }])
  fields := #[{ name := "LISTED_RANGE", type := .int, accessFlags := 25, slot := 0, constantValue := 0 }, { name := "COMBINATION_LIMIT", type := .int, accessFlags := 25, slot := 1, constantValue := 0 }]
  methods := #[]
  instanceTypes := #[]
  staticTypes := #[.int, .int]
  resolved := Array.replicate 622 none
  statics := none }

def pool5 : Array CpInfo := pool [(14, .class_ 16), (1, u "com/example/zedwitness/zedwitness/SmtSet$Integers"), (2, .class_ 20), (0, u "java/lang/Object"), (0, .class_ 22), (0, u "com/example/zedwitness/zedwitness/SmtSet")] 24

/-- com/example/zedwitness/zedwitness/SmtSet$Integers -/
def k5 : Class := { plain "com/example/zedwitness/zedwitness/SmtSet$Integers" (some 0) with
  accessFlags := 1537
  interfaces := #[4]
  cf := some (fileOf pool5 14 #[.nestHost 21] #[] 1537 19 #[21] #[])
  fields := #[]
  methods := #[]
  instanceTypes := #[]
  staticTypes := #[]
  resolved := Array.replicate 47 none
  statics := none }

def pool6 : Array CpInfo := pool [(1, .methodref 2 3), (0, .class_ 4), (0, .nameAndType 5 6), (0, u "java/lang/Record"), (0, u "<init>"), (0, u "()V"), (0, .fieldref 8 9), (0, .class_ 10), (0, .nameAndType 11 12), (0, u "com/example/zedwitness/zedwitness/SmtSet$Range"), (0, u "low"), (0, u "Ljava/lang/String;"), (0, .fieldref 8 14), (0, .nameAndType 15 12), (0, u "high"), (10, .class_ 28), (1, u "com/example/zedwitness/zedwitness/SmtSet"), (49, .class_ 79), (0, u "com/example/zedwitness/zedwitness/SmtSet$Integers"), (0, u "(Ljava/lang/String;Ljava/lang/String;)V"), (10, u "bounded"), (0, u "()Z")] 28

def k6c0 : Code := { maxStack := 2, maxLocals := 3, code := prog_118_method_1_code, exceptionTable := #[], attributes := #[] }
def k6m0 : Method := { name := "<init>", desc := "(Ljava/lang/String;Ljava/lang/String;)V", sig := { parameters := [(.object "java/lang/String"), (.object "java/lang/String")], returnType := none }, accessFlags := 1, code := some k6c0 }
def k6c1 : Code := { maxStack := 1, maxLocals := 1, code := prog_118_method_4_code, exceptionTable := #[], attributes := #[] }
def k6m1 : Method := { name := "bounded", desc := "()Z", sig := { parameters := [], returnType := some .boolean }, accessFlags := 0, code := some k6c1 }
/-- com/example/zedwitness/zedwitness/SmtSet$Range -/
def k6 : Class := { plain "com/example/zedwitness/zedwitness/SmtSet$Range" (some 2) with
  accessFlags := 49
  interfaces := #[5]
  cf := some (fileOf pool6 8 #[.nestHost 26] #[{ accessFlags := 1, nameIndex := 5, descriptorIndex := 80, attributes := #[] }, { accessFlags := 0, nameIndex := 91, descriptorIndex := 92, attributes := #[] }] 49 2 #[78] #[{ accessFlags := 18, nameIndex := 11, descriptorIndex := 12, attributes := #[] }, { accessFlags := 18, nameIndex := 15, descriptorIndex := 12, attributes := #[] }])
  fields := #[{ name := "low", type := (.object "java/lang/String"), accessFlags := 18, slot := 0, constantValue := 0 }, { name := "high", type := (.object "java/lang/String"), accessFlags := 18, slot := 1, constantValue := 0 }]
  methods := #[k6m0, k6m1]
  instanceTypes := #[(.object "java/lang/String"), (.object "java/lang/String")]
  staticTypes := #[]
  resolved := Array.replicate 121 none
  statics := none }

def pool7 : Array CpInfo := pool [(1, .class_ 2), (0, u "java/io/Serializable"), (0, .class_ 4), (0, u "java/lang/Object")] 2

/-- java/io/Serializable -/
def k7 : Class := { plain "java/io/Serializable" (some 0) with
  accessFlags := 1537
  interfaces := #[]
  cf := some (fileOf pool7 1 #[] #[] 1537 3 #[] #[])
  fields := #[]
  methods := #[]
  instanceTypes := #[]
  staticTypes := #[]
  resolved := Array.replicate 7 none
  statics := none }

def pool8 : Array CpInfo := pool [(1, .class_ 2), (0, u "java/lang/Comparable"), (0, .class_ 4), (0, u "java/lang/Object")] 7

/-- java/lang/Comparable -/
def k8 : Class := { plain "java/lang/Comparable" (some 0) with
  accessFlags := 1537
  interfaces := #[]
  cf := some (fileOf pool8 1 #[] #[] 1537 3 #[] #[])
  fields := #[]
  methods := #[]
  instanceTypes := #[]
  staticTypes := #[]
  resolved := Array.replicate 12 none
  statics := none }

def pool9 : Array CpInfo := pool [(2, .class_ 4), (1, u "java/lang/CharSequence"), (42, .class_ 48), (0, u "java/lang/CharSequence$1CodePointIterator"), (10, .class_ 60), (0, u "java/lang/CharSequence$1CharIterator"), (5, .class_ 67), (0, u "java/lang/Object")] 63

/-- java/lang/CharSequence -/
def k9 : Class := { plain "java/lang/CharSequence" (some 0) with
  accessFlags := 1537
  interfaces := #[]
  cf := some (fileOf pool9 2 #[.nestMembers #[47, 59]] #[] 1537 66 #[] #[])
  fields := #[]
  methods := #[]
  instanceTypes := #[]
  staticTypes := #[]
  resolved := Array.replicate 131 none
  statics := none }

def pool10 : Array CpInfo := pool [(1, .class_ 2), (0, u "java/lang/constant/Constable"), (0, .class_ 4), (0, u "java/lang/Object")] 6

/-- java/lang/constant/Constable -/
def k10 : Class := { plain "java/lang/constant/Constable" (some 0) with
  accessFlags := 1537
  interfaces := #[]
  cf := some (fileOf pool10 1 #[] #[] 1537 3 #[] #[])
  fields := #[]
  methods := #[]
  instanceTypes := #[]
  staticTypes := #[]
  resolved := Array.replicate 11 none
  statics := none }

def pool11 : Array CpInfo := pool [(1, .class_ 2), (0, u "java/lang/constant/ConstantDesc"), (0, .class_ 4), (0, u "java/lang/Object")] 32

/-- java/lang/constant/ConstantDesc -/
def k11 : Class := { plain "java/lang/constant/ConstantDesc" (some 0) with
  accessFlags := 1537
  interfaces := #[]
  cf := some (fileOf pool11 1 #[] #[] 1537 3 #[] #[])
  fields := #[]
  methods := #[]
  instanceTypes := #[]
  staticTypes := #[]
  resolved := Array.replicate 37 none
  statics := none }

def pool12 : Array CpInfo := pool [(1, .methodref 2 3), (0, .class_ 4), (0, .nameAndType 5 6), (0, u "java/lang/Object"), (0, u "<init>"), (0, u "()V"), (0, .string 8), (0, u ""), (0, .fieldref 10 11), (0, .class_ 12), (0, .nameAndType 13 14), (0, u "java/lang/String"), (0, u "value"), (0, u "[B"), (0, .fieldref 10 16), (0, .nameAndType 17 18), (0, u "coder"), (0, u "B"), (2, u "hash"), (0, u "I"), (2, u "hashIsZero"), (0, u "Z"), (0, .methodref 10 28), (0, .nameAndType 5 29), (0, u "([CIILjava/lang/Void;)V"), (8, .fieldref 10 39), (0, .nameAndType 40 26), (0, u "COMPACT_STRINGS"), (1, .class_ 44), (1, u "java/lang/StringUTF16"), (0, u "compress"), (1, .methodref 42 48), (0, .nameAndType 49 50), (0, u "coderFromArrayLen"), (0, u "([BI)B"), (126, .methodref 42 178), (0, .nameAndType 45 179), (0, u "([CII)[B"), (395, .class_ 576), (0, u "java/lang/CharSequence"), (22, u "CASE_INSENSITIVE_ORDER"), (0, u "Ljava/util/Comparator;"), (409, u "([C)V"), (90, u "serialPersistentFields"), (0, u "[Ljava/io/ObjectStreamField;"), (0, .class_ 1104), (0, u "java/lang/String$CaseInsensitiveComparator"), (1, .class_ 1107), (0, u "java/io/Serializable"), (0, .class_ 1109), (0, u "java/lang/Comparable"), (0, .class_ 1111), (0, u "java/lang/constant/Constable"), (0, .class_ 1113), (0, u "java/lang/constant/ConstantDesc"), (2, u "serialVersionUID"), (0, u "J"), (3, u "REPL"), (0, u "C"), (2, u "LATIN1"), (1, u "UTF16")] 323

def k12m0 : Method := { name := "<init>", desc := "()V", sig := { parameters := [], returnType := none }, accessFlags := 1, code := none }
def k12c1 : Code := { maxStack := 5, maxLocals := 2, code := jdk_42_method_3_code, exceptionTable := #[], attributes := #[] }
def k12m1 : Method := { name := "<init>", desc := "([C)V", sig := { parameters := [(.array .char)], returnType := none }, accessFlags := 1, code := some k12c1 }
def k12c2 : Code := { maxStack := 4, maxLocals := 6, code := jdk_42_method_149_code, exceptionTable := #[], attributes := #[] }
def k12m2 : Method := { name := "<init>", desc := "([CIILjava/lang/Void;)V", sig := { parameters := [(.array .char), .int, .int, (.object "java/lang/Void")], returnType := none }, accessFlags := 2, code := some k12c2 }
/-- java/lang/String -/
def k12 : Class := { plain "java/lang/String" (some 0) with
  accessFlags := 49
  interfaces := #[7, 8, 9, 10, 11]
  cf := some (fileOf pool12 10 #[.nestMembers #[1103]] #[{ accessFlags := 1, nameIndex := 5, descriptorIndex := 6, attributes := #[] }, { accessFlags := 1, nameIndex := 5, descriptorIndex := 1010, attributes := #[] }, { accessFlags := 2, nameIndex := 5, descriptorIndex := 29, attributes := #[] }] 49 2 #[1106, 1108, 575, 1110, 1112] #[{ accessFlags := 18, nameIndex := 13, descriptorIndex := 14, attributes := #[] }, { accessFlags := 18, nameIndex := 17, descriptorIndex := 18, attributes := #[] }, { accessFlags := 2, nameIndex := 21, descriptorIndex := 22, attributes := #[] }, { accessFlags := 2, nameIndex := 25, descriptorIndex := 26, attributes := #[] }, { accessFlags := 26, nameIndex := 1116, descriptorIndex := 1117, attributes := #[] }, { accessFlags := 24, nameIndex := 40, descriptorIndex := 26, attributes := #[] }, { accessFlags := 26, nameIndex := 1101, descriptorIndex := 1102, attributes := #[] }, { accessFlags := 26, nameIndex := 1121, descriptorIndex := 1122, attributes := #[] }, { accessFlags := 25, nameIndex := 599, descriptorIndex := 600, attributes := #[] }, { accessFlags := 24, nameIndex := 1125, descriptorIndex := 18, attributes := #[] }, { accessFlags := 24, nameIndex := 1127, descriptorIndex := 18, attributes := #[] }])
  fields := #[{ name := "value", type := (.array .byte), accessFlags := 18, slot := 0, constantValue := 0 }, { name := "coder", type := .byte, accessFlags := 18, slot := 1, constantValue := 0 }, { name := "hash", type := .int, accessFlags := 2, slot := 2, constantValue := 0 }, { name := "hashIsZero", type := .boolean, accessFlags := 2, slot := 3, constantValue := 0 }, { name := "serialVersionUID", type := .long, accessFlags := 26, slot := 0, constantValue := 0 }, { name := "COMPACT_STRINGS", type := .boolean, accessFlags := 24, slot := 1, constantValue := 0 }, { name := "serialPersistentFields", type := (.array (.object "java/io/ObjectStreamField")), accessFlags := 26, slot := 2, constantValue := 0 }, { name := "REPL", type := .char, accessFlags := 26, slot := 3, constantValue := 0 }, { name := "CASE_INSENSITIVE_ORDER", type := (.object "java/util/Comparator"), accessFlags := 25, slot := 4, constantValue := 0 }, { name := "LATIN1", type := .byte, accessFlags := 24, slot := 5, constantValue := 0 }, { name := "UTF16", type := .byte, accessFlags := 24, slot := 6, constantValue := 0 }]
  methods := #[k12m0, k12m1, k12m2]
  instanceTypes := #[(.array .byte), .byte, .int, .boolean]
  staticTypes := #[.long, .boolean, (.array (.object "java/io/ObjectStreamField")), .char, (.object "java/util/Comparator"), .byte, .byte]
  resolved := Array.replicate 1451 none
  statics := some 0 }

def pool13 : Array CpInfo := pool [(6, .class_ 8), (1, u "java/lang/Object"), (0, u "<init>"), (0, u "()V"), (1, .class_ 14), (1, u "java/lang/StringUTF16"), (31, u "$assertionsDisabled"), (0, u "Z"), (13, u "HI_BYTE_SHIFT"), (0, u "I"), (2, u "LO_BYTE_SHIFT"), (49, .methodref 12 116), (0, .nameAndType 117 118), (0, u "compress"), (0, u "([CI[BII)I"), (3, u "([CII)[B"), (138, u "coderFromArrayLen"), (0, u "([BI)B"), (106, .class_ 371), (1, u "java/lang/StringUTF16$LinesSpliterator"), (58, u "MAX_LENGTH"), (196, .class_ 628), (0, u "java/lang/StringUTF16$CodePointsSpliterator"), (0, .class_ 630), (0, u "java/lang/StringUTF16$CharsSpliterator")] 4

def k13m0 : Method := { name := "<init>", desc := "()V", sig := { parameters := [], returnType := none }, accessFlags := 0, code := none }
def k13c1 : Code := { maxStack := 2, maxLocals := 2, code := jdk_52_method_15_code, exceptionTable := #[], attributes := #[] }
def k13m1 : Method := { name := "coderFromArrayLen", desc := "([BI)B", sig := { parameters := [(.array .byte), .int], returnType := some .byte }, accessFlags := 8, code := some k13c1 }
def k13c2 : Code := { maxStack := 5, maxLocals := 6, code := jdk_52_method_16_code, exceptionTable := #[], attributes := #[] }
def k13m2 : Method := { name := "compress", desc := "([CII)[B", sig := { parameters := [(.array .char), .int, .int], returnType := some (.array .byte) }, accessFlags := 9, code := some k13c2 }
def k13c3 : Code := { maxStack := 3, maxLocals := 7, code := jdk_52_method_21_code, exceptionTable := #[], attributes := #[] }
def k13m3 : Method := { name := "compress", desc := "([CI[BII)I", sig := { parameters := [(.array .char), .int, (.array .byte), .int, .int], returnType := some .int }, accessFlags := 9, code := some k13c3 }
/-- java/lang/StringUTF16 -/
def k13 : Class := { plain "java/lang/StringUTF16" (some 0) with
  accessFlags := 48
  interfaces := #[]
  cf := some (fileOf pool13 12 #[.nestMembers #[627, 629, 369]] #[{ accessFlags := 0, nameIndex := 9, descriptorIndex := 10, attributes := #[] }, { accessFlags := 8, nameIndex := 261, descriptorIndex := 262, attributes := #[] }, { accessFlags := 9, nameIndex := 117, descriptorIndex := 122, attributes := #[] }, { accessFlags := 9, nameIndex := 117, descriptorIndex := 118, attributes := #[] }] 48 6 #[] #[{ accessFlags := 26, nameIndex := 61, descriptorIndex := 62, attributes := #[] }, { accessFlags := 26, nameIndex := 65, descriptorIndex := 62, attributes := #[] }, { accessFlags := 24, nameIndex := 430, descriptorIndex := 62, attributes := #[] }, { accessFlags := 4120, nameIndex := 46, descriptorIndex := 47, attributes := #[] }])
  fields := #[{ name := "HI_BYTE_SHIFT", type := .int, accessFlags := 26, slot := 0, constantValue := 0 }, { name := "LO_BYTE_SHIFT", type := .int, accessFlags := 26, slot := 1, constantValue := 0 }, { name := "MAX_LENGTH", type := .int, accessFlags := 24, slot := 2, constantValue := 0 }, { name := "$assertionsDisabled", type := .boolean, accessFlags := 4120, slot := 3, constantValue := 0 }]
  methods := #[k13m0, k13m1, k13m2, k13m3]
  instanceTypes := #[]
  staticTypes := #[.int, .int, .int, .boolean]
  resolved := Array.replicate 635 none
  statics := none }

def pool14 : Array CpInfo := pool [(4, .class_ 6), (1, u "java/lang/Object"), (0, u "<init>"), (0, u "()V"), (5, .class_ 16), (1, u "java/lang/StringLatin1"), (104, u "$assertionsDisabled"), (0, u "Z"), (98, .class_ 223), (1, u "java/lang/StringLatin1$LinesSpliterator"), (166, .class_ 391), (0, u "java/lang/StringLatin1$CharsSpliterator")] 3

def k14m0 : Method := { name := "<init>", desc := "()V", sig := { parameters := [], returnType := none }, accessFlags := 0, code := none }
/-- java/lang/StringLatin1 -/
def k14 : Class := { plain "java/lang/StringLatin1" (some 0) with
  accessFlags := 48
  interfaces := #[]
  cf := some (fileOf pool14 14 #[.nestMembers #[390, 221]] #[{ accessFlags := 0, nameIndex := 7, descriptorIndex := 8, attributes := #[] }] 48 4 #[] #[{ accessFlags := 4120, nameIndex := 121, descriptorIndex := 122, attributes := #[] }])
  fields := #[{ name := "$assertionsDisabled", type := .boolean, accessFlags := 4120, slot := 0, constantValue := 0 }]
  methods := #[k14m0]
  instanceTypes := #[]
  staticTypes := #[.boolean]
  resolved := Array.replicate 395 none
  statics := none }

def pool15 : Array CpInfo := pool [(2, .class_ 4), (1, u "java/lang/Object"), (0, u "<init>"), (0, u "()V"), (17, .class_ 26), (1, u "jdk/internal/util/Preconditions"), (28, .class_ 56), (0, u "jdk/internal/util/Preconditions$4"), (57, .class_ 115), (0, u "jdk/internal/util/Preconditions$1"), (7, u "SIOOBE_FORMATTER"), (0, u "Ljava/util/function/BiFunction;"), (0, .class_ 126), (0, u "jdk/internal/util/Preconditions$2"), (3, u "AIOOBE_FORMATTER"), (0, .class_ 132), (0, u "jdk/internal/util/Preconditions$3"), (3, u "IOOBE_FORMATTER")] 57

def k15m0 : Method := { name := "<init>", desc := "()V", sig := { parameters := [], returnType := none }, accessFlags := 1, code := none }
/-- jdk/internal/util/Preconditions -/
def k15 : Class := { plain "jdk/internal/util/Preconditions" (some 0) with
  accessFlags := 33
  interfaces := #[]
  cf := some (fileOf pool15 24 #[.nestMembers #[55, 131, 125, 114]] #[{ accessFlags := 1, nameIndex := 5, descriptorIndex := 6, attributes := #[] }] 33 2 #[] #[{ accessFlags := 25, nameIndex := 123, descriptorIndex := 124, attributes := #[] }, { accessFlags := 25, nameIndex := 130, descriptorIndex := 124, attributes := #[] }, { accessFlags := 25, nameIndex := 136, descriptorIndex := 124, attributes := #[] }])
  fields := #[{ name := "SIOOBE_FORMATTER", type := (.object "java/util/function/BiFunction"), accessFlags := 25, slot := 0, constantValue := 0 }, { name := "AIOOBE_FORMATTER", type := (.object "java/util/function/BiFunction"), accessFlags := 25, slot := 1, constantValue := 0 }, { name := "IOOBE_FORMATTER", type := (.object "java/util/function/BiFunction"), accessFlags := 25, slot := 2, constantValue := 0 }]
  methods := #[k15m0]
  instanceTypes := #[]
  staticTypes := #[(.object "java/util/function/BiFunction"), (.object "java/util/function/BiFunction"), (.object "java/util/function/BiFunction")]
  resolved := Array.replicate 194 none
  statics := some 1 }

def pool16 : Array CpInfo := pool [(9, u "<init>"), (6, .class_ 18), (1, u "java/lang/Object"), (0, u "()V"), (1, .class_ 23), (1, u "jdk/internal/util/ArraysSupport"), (0, u "LOG2_ARRAY_LONG_INDEX_SCALE"), (0, u "I"), (2, u "U"), (0, u "Ljdk/internal/misc/Unsafe;"), (8, u "BIG_ENDIAN"), (0, u "Z"), (8, u "LOG2_BYTE_BIT_SIZE"), (4, u "LOG2_ARRAY_INT_INDEX_SCALE"), (54, u "JLA"), (0, u "Ljdk/internal/access/JavaLangAccess;"), (11, u "LOG2_ARRAY_BOOLEAN_INDEX_SCALE"), (9, u "LOG2_ARRAY_BYTE_INDEX_SCALE"), (5, u "LOG2_ARRAY_CHAR_INDEX_SCALE"), (5, u "LOG2_ARRAY_SHORT_INDEX_SCALE"), (18, u "LOG2_ARRAY_FLOAT_INDEX_SCALE"), (24, u "LOG2_ARRAY_DOUBLE_INDEX_SCALE"), (89, u "T_BOOLEAN"), (2, u "T_CHAR"), (1, u "T_FLOAT"), (1, u "T_DOUBLE"), (1, u "T_BYTE"), (1, u "T_SHORT"), (1, u "T_INT"), (1, u "T_LONG"), (1, u "SOFT_MAX_ARRAY_LENGTH")] 83

def k16m0 : Method := { name := "<init>", desc := "()V", sig := { parameters := [], returnType := none }, accessFlags := 2, code := none }
/-- jdk/internal/util/ArraysSupport -/
def k16 : Class := { plain "jdk/internal/util/ArraysSupport" (some 0) with
  accessFlags := 33
  interfaces := #[]
  cf := some (fileOf pool16 21 #[] #[{ accessFlags := 2, nameIndex := 9, descriptorIndex := 19, attributes := #[] }] 33 16 #[] #[{ accessFlags := 24, nameIndex := 28, descriptorIndex := 29, attributes := #[] }, { accessFlags := 26, nameIndex := 38, descriptorIndex := 39, attributes := #[] }, { accessFlags := 25, nameIndex := 121, descriptorIndex := 25, attributes := #[] }, { accessFlags := 25, nameIndex := 131, descriptorIndex := 25, attributes := #[] }, { accessFlags := 25, nameIndex := 137, descriptorIndex := 25, attributes := #[] }, { accessFlags := 25, nameIndex := 143, descriptorIndex := 25, attributes := #[] }, { accessFlags := 25, nameIndex := 53, descriptorIndex := 25, attributes := #[] }, { accessFlags := 25, nameIndex := 24, descriptorIndex := 25, attributes := #[] }, { accessFlags := 25, nameIndex := 162, descriptorIndex := 25, attributes := #[] }, { accessFlags := 25, nameIndex := 187, descriptorIndex := 25, attributes := #[] }, { accessFlags := 26, nameIndex := 48, descriptorIndex := 25, attributes := #[] }, { accessFlags := 25, nameIndex := 277, descriptorIndex := 25, attributes := #[] }, { accessFlags := 25, nameIndex := 280, descriptorIndex := 25, attributes := #[] }, { accessFlags := 25, nameIndex := 282, descriptorIndex := 25, attributes := #[] }, { accessFlags := 25, nameIndex := 284, descriptorIndex := 25, attributes := #[] }, { accessFlags := 25, nameIndex := 286, descriptorIndex := 25, attributes := #[] }, { accessFlags := 25, nameIndex := 288, descriptorIndex := 25, attributes := #[] }, { accessFlags := 25, nameIndex := 290, descriptorIndex := 25, attributes := #[] }, { accessFlags := 25, nameIndex := 292, descriptorIndex := 25, attributes := #[] }, { accessFlags := 26, nameIndex := 108, descriptorIndex := 109, attributes := #[] }, { accessFlags := 25, nameIndex := 294, descriptorIndex := 25, attributes := #[] }])
  fields := #[{ name := "U", type := (.object "jdk/internal/misc/Unsafe"), accessFlags := 24, slot := 0, constantValue := 0 }, { name := "BIG_ENDIAN", type := .boolean, accessFlags := 26, slot := 1, constantValue := 0 }, { name := "LOG2_ARRAY_BOOLEAN_INDEX_SCALE", type := .int, accessFlags := 25, slot := 2, constantValue := 0 }, { name := "LOG2_ARRAY_BYTE_INDEX_SCALE", type := .int, accessFlags := 25, slot := 3, constantValue := 0 }, { name := "LOG2_ARRAY_CHAR_INDEX_SCALE", type := .int, accessFlags := 25, slot := 4, constantValue := 0 }, { name := "LOG2_ARRAY_SHORT_INDEX_SCALE", type := .int, accessFlags := 25, slot := 5, constantValue := 0 }, { name := "LOG2_ARRAY_INT_INDEX_SCALE", type := .int, accessFlags := 25, slot := 6, constantValue := 0 }, { name := "LOG2_ARRAY_LONG_INDEX_SCALE", type := .int, accessFlags := 25, slot := 7, constantValue := 0 }, { name := "LOG2_ARRAY_FLOAT_INDEX_SCALE", type := .int, accessFlags := 25, slot := 8, constantValue := 0 }, { name := "LOG2_ARRAY_DOUBLE_INDEX_SCALE", type := .int, accessFlags := 25, slot := 9, constantValue := 0 }, { name := "LOG2_BYTE_BIT_SIZE", type := .int, accessFlags := 26, slot := 10, constantValue := 0 }, { name := "T_BOOLEAN", type := .int, accessFlags := 25, slot := 11, constantValue := 0 }, { name := "T_CHAR", type := .int, accessFlags := 25, slot := 12, constantValue := 0 }, { name := "T_FLOAT", type := .int, accessFlags := 25, slot := 13, constantValue := 0 }, { name := "T_DOUBLE", type := .int, accessFlags := 25, slot := 14, constantValue := 0 }, { name := "T_BYTE", type := .int, accessFlags := 25, slot := 15, constantValue := 0 }, { name := "T_SHORT", type := .int, accessFlags := 25, slot := 16, constantValue := 0 }, { name := "T_INT", type := .int, accessFlags := 25, slot := 17, constantValue := 0 }, { name := "T_LONG", type := .int, accessFlags := 25, slot := 18, constantValue := 0 }, { name := "JLA", type := (.object "jdk/internal/access/JavaLangAccess"), accessFlags := 26, slot := 19, constantValue := 0 }, { name := "SOFT_MAX_ARRAY_LENGTH", type := .int, accessFlags := 25, slot := 20, constantValue := 0 }]
  methods := #[k16m0]
  instanceTypes := #[]
  staticTypes := #[(.object "jdk/internal/misc/Unsafe"), .boolean, .int, .int, .int, .int, .int, .int, .int, .int, .int, .int, .int, .int, .int, .int, .int, .int, .int, (.object "jdk/internal/access/JavaLangAccess"), .int]
  resolved := Array.replicate 378 none
  statics := none }

def pool17 : Array CpInfo := pool [(1, u "java/lang/Cloneable"), (0, .class_ 1), (0, u "java/lang/Object"), (0, .class_ 3)] 3

/-- java/lang/Cloneable -/
def k17 : Class := { plain "java/lang/Cloneable" (some 0) with
  accessFlags := 1537
  interfaces := #[]
  cf := some (fileOf pool17 2 #[] #[] 1537 4 #[] #[])
  fields := #[]
  methods := #[]
  instanceTypes := #[]
  staticTypes := #[]
  resolved := Array.replicate 8 none
  statics := none }

/-- the primitive byte -/
def k18 : Class := { plain "byte" none with kind := .primitive 'B', accessFlags := 0x411 }
/-- [B -/
def k19 : Class := { plain "[B" (some 0) with kind := .array 18 .byte, interfaces := #[17, 7], accessFlags := 1041 }

/-- the primitive char -/
def k20 : Class := { plain "char" none with kind := .primitive 'C', accessFlags := 0x411 }
/-- [C -/
def k21 : Class := { plain "[C" (some 0) with kind := .array 20 .char, interfaces := #[17, 7], accessFlags := 1041 }

/-- the primitive int -/
def k22 : Class := { plain "int" none with kind := .primitive 'I', accessFlags := 0x411 }
/-- [I -/
def k23 : Class := { plain "[I" (some 0) with kind := .array 22 .int, interfaces := #[17, 7], accessFlags := 1041 }

def heap : Heap := #[{ cls := 12, slots := #[.long 0, .int 1, .null, .int 0, .null, .int 0, .int 0], vm := .statics 12 },
  { cls := 15, slots := #[.null, .null, .null], vm := .statics 15 }]
def classes : Array Class := #[k0, k1, k2, k3, k4, k5, k6, k7, k8, k9, k10, k11, k12, k13, k14, k15, k16, k17, k18, k19, k20, k21, k22, k23]
def interned : List (Array UInt16 × Addr) := []
def slotsUsed : Nat := 10
def theMethod : MethodId := ⟨1, 2⟩
def args0 : Array Value := #[.int 5, .int 5, .int 5]
def aboutOver (below : List Frame) : State where
  vm := { classes := classes, interned := interned.toArray }
  heap := heap
  slotsUsed := slotsUsed
  threads := #[{ frames := .invoking theMethod args0 :: below }]
def below0 : List Frame := [.native { method := ⟨0, 0⟩, args := #[] }]
def about1 : State := aboutOver below0
def p0 : Program := .bare "" "" ""
def e0 : Env := launch0.env 0 0 0
theorem w_frames : about1.frames = Frame.invoking theMethod args0 :: below0 := rfl
set_option maxRecDepth 65536 in
theorem w_args : argsFit about1.vm theMethod args0 = true := by decide +kernel
set_option maxRecDepth 65536 in
theorem w_heap : heapFits about1 = true := by decide +kernel
set_option maxRecDepth 65536 in
theorem w_runnable : about1.curStatus? = some .runnable := by decide +kernel
set_option maxRecDepth 65536 in
theorem w_alone : about1.alone = true := by decide +kernel
set_option maxRecDepth 65536 in
theorem w_named : about1.methodNamed? x = some theMethod := by decide +kernel
set_option maxRecDepth 65536 in
theorem w_hears : about1.hears theMethod below0 = true := by decide +kernel
set_option maxRecDepth 65536 in
theorem w_ripe : about1.ripe theMethod args0 below0 = true := by decide +kernel
theorem w_running : about1.status = .running := rfl
set_option maxRecDepth 65536 in
theorem w_room : about1.hasRoom e0.platform room_1 = true :=
  launch0.hasRoom_least _ room_1 (by decide +kernel) (by decide +kernel) (by decide +kernel) (by decide +kernel) (by decide +kernel) (by decide +kernel)
theorem allAtoms_all (ts : List Jvm.Cond) (a : Array Jvm.Value) (st : Jvm.State) : (allAtoms ts).before a st = ts.all (fun c => c.before a st) := by
  induction ts with
  | nil => rfl
  | cons c t ih =>
    show (Jvm.Cond.and c (allAtoms t)).before a st = _
    rw [Jvm.Cond.before_and, ih, List.all_cons]
def words1 : List Jvm.Cond := Jvm.Cond.code x code maxLocals ret :: tables_1
/-- a 'code' word, met by the world's own term for the bytes: nothing is compared byte by byte -/
theorem code_word {y : MethodName} {bytes : ByteArray} {mx : Nat} {rt : Option FieldType} {a : Array Value} {s : State} {m : MethodId} {meth : Method} {c : Code} (h1 : s.methodNamed? y = some m) (h2 : s.vm.method? m = some meth) (h3 : meth.code = some c) (h4 : c.code = bytes)
    (h5 : (c.maxLocals == mx && c.exceptionTable.isEmpty && decide (c.maxStack ≤ mostOperands) && decide (meth.sig.returnType = rt) && !meth.locks && decide (parseMethodDescriptor y.desc = some meth.sig)) = true) : (Jvm.Cond.code y bytes mx rt).before a s = true := by
  simp only [Bool.and_eq_true, beq_iff_eq, Bool.not_eq_true', decide_eq_true_eq] at h5
  obtain ⟨⟨⟨⟨⟨g1, g2⟩, g3⟩, g4⟩, g5⟩, g6⟩ := h5
  simp [Cond.before, Cond.holds, Cond.value, h1, h2, h3, h4, g1, g2, g3, g4, g5, g6]
def isCode : Jvm.Cond → Bool
  | .code _ _ _ _ => true
  | _ => false
theorem all_split {L : List Jvm.Cond} {P : Jvm.Cond → Bool} (h1 : L.all (fun c => isCode c || P c) = true) (h2 : ∀ c ∈ L.filter isCode, P c = true) : L.all P = true := by
  refine List.all_eq_true.mpr fun c hc => ?_
  have h := List.all_eq_true.mp h1 c hc
  rcases Bool.eq_false_or_eq_true (isCode c) with hi | hi
  · exact h2 c (List.mem_filter.mpr ⟨hc, hi⟩)
  · simpa [hi] using h
set_option maxRecDepth 65536 in
theorem w_c0 : (Jvm.Cond.code x code maxLocals ret).before args0 about1 = true := code_word (m := ⟨1, 2⟩) (meth := k1m2) (c := k1c2) (by decide +kernel) rfl rfl rfl (by decide +kernel)
set_option maxRecDepth 65536 in
theorem w_c1 : (Jvm.Cond.code ({ cls := "com/example/zedwitness/zedwitness/RangeBoundedPinLaw", name := "drawn", desc := "(II)Ljava/lang/String;" } : Jvm.MethodName) method_2_code (3 : Nat) (Option.some (Jvm.ClassFile.FieldType.object "java/lang/String"))).before args0 about1 = true := code_word (m := ⟨1, 1⟩) (meth := k1m1) (c := k1c1) (by decide +kernel) rfl rfl rfl (by decide +kernel)
set_option maxRecDepth 65536 in
theorem w_c2 : (Jvm.Cond.code ({ cls := "com/example/zedwitness/zedwitness/SmtSet$Range", name := "<init>", desc := "(Ljava/lang/String;Ljava/lang/String;)V" } : Jvm.MethodName) prog_118_method_1_code (3 : Nat) (Option.none : Option Jvm.ClassFile.FieldType)).before args0 about1 = true := code_word (m := ⟨6, 0⟩) (meth := k6m0) (c := k6c0) (by decide +kernel) rfl rfl rfl (by decide +kernel)
set_option maxRecDepth 65536 in
theorem w_c3 : (Jvm.Cond.code ({ cls := "java/lang/Record", name := "<init>", desc := "()V" } : Jvm.MethodName) jdk_30_method_1_code (1 : Nat) (Option.none : Option Jvm.ClassFile.FieldType)).before args0 about1 = true := code_word (m := ⟨2, 0⟩) (meth := k2m0) (c := k2c0) (by decide +kernel) rfl rfl rfl (by decide +kernel)
set_option maxRecDepth 65536 in
theorem w_c4 : (Jvm.Cond.code ({ cls := "java/lang/Object", name := "<init>", desc := "()V" } : Jvm.MethodName) object_method_1_code (1 : Nat) (Option.none : Option Jvm.ClassFile.FieldType)).before args0 about1 = true := code_word (m := ⟨0, 0⟩) (meth := k0m0) (c := k0c0) (by decide +kernel) rfl rfl rfl (by decide +kernel)
set_option maxRecDepth 65536 in
theorem w_c5 : (Jvm.Cond.code ({ cls := "com/example/zedwitness/zedwitness/SmtSet$Range", name := "bounded", desc := "()Z" } : Jvm.MethodName) prog_118_method_4_code (1 : Nat) (Option.some Jvm.ClassFile.FieldType.boolean)).before args0 about1 = true := code_word (m := ⟨6, 1⟩) (meth := k6m1) (c := k6c1) (by decide +kernel) rfl rfl rfl (by decide +kernel)
set_option maxRecDepth 65536 in
theorem w_c6 : (Jvm.Cond.code ({ cls := "java/lang/String", name := "<init>", desc := "([C)V" } : Jvm.MethodName) jdk_42_method_3_code (2 : Nat) (Option.none : Option Jvm.ClassFile.FieldType)).before args0 about1 = true := code_word (m := ⟨12, 1⟩) (meth := k12m1) (c := k12c1) (by decide +kernel) rfl rfl rfl (by decide +kernel)
set_option maxRecDepth 65536 in
theorem w_c7 : (Jvm.Cond.code ({ cls := "java/lang/String", name := "<init>", desc := "([CIILjava/lang/Void;)V" } : Jvm.MethodName) jdk_42_method_149_code (6 : Nat) (Option.none : Option Jvm.ClassFile.FieldType)).before args0 about1 = true := code_word (m := ⟨12, 2⟩) (meth := k12m2) (c := k12c2) (by decide +kernel) rfl rfl rfl (by decide +kernel)
set_option maxRecDepth 65536 in
theorem w_c8 : (Jvm.Cond.code ({ cls := "java/lang/StringUTF16", name := "compress", desc := "([CII)[B" } : Jvm.MethodName) jdk_52_method_16_code (6 : Nat) (Option.some (Jvm.ClassFile.FieldType.array Jvm.ClassFile.FieldType.byte))).before args0 about1 = true := code_word (m := ⟨13, 2⟩) (meth := k13m2) (c := k13c2) (by decide +kernel) rfl rfl rfl (by decide +kernel)
set_option maxRecDepth 65536 in
theorem w_c9 : (Jvm.Cond.code ({ cls := "java/lang/StringUTF16", name := "compress", desc := "([CI[BII)I" } : Jvm.MethodName) jdk_52_method_21_code (7 : Nat) (Option.some Jvm.ClassFile.FieldType.int)).before args0 about1 = true := code_word (m := ⟨13, 3⟩) (meth := k13m3) (c := k13c3) (by decide +kernel) rfl rfl rfl (by decide +kernel)
set_option maxRecDepth 65536 in
theorem w_c10 : (Jvm.Cond.code ({ cls := "java/lang/StringUTF16", name := "coderFromArrayLen", desc := "([BI)B" } : Jvm.MethodName) jdk_52_method_15_code (2 : Nat) (Option.some Jvm.ClassFile.FieldType.byte)).before args0 about1 = true := code_word (m := ⟨13, 1⟩) (meth := k13m1) (c := k13c1) (by decide +kernel) rfl rfl rfl (by decide +kernel)
def codes1 : List Jvm.Cond := [Jvm.Cond.code x code maxLocals ret, Jvm.Cond.code ({ cls := "com/example/zedwitness/zedwitness/RangeBoundedPinLaw", name := "drawn", desc := "(II)Ljava/lang/String;" } : Jvm.MethodName) method_2_code (3 : Nat) (Option.some (Jvm.ClassFile.FieldType.object "java/lang/String")), Jvm.Cond.code ({ cls := "com/example/zedwitness/zedwitness/SmtSet$Range", name := "<init>", desc := "(Ljava/lang/String;Ljava/lang/String;)V" } : Jvm.MethodName) prog_118_method_1_code (3 : Nat) (Option.none : Option Jvm.ClassFile.FieldType), Jvm.Cond.code ({ cls := "java/lang/Record", name := "<init>", desc := "()V" } : Jvm.MethodName) jdk_30_method_1_code (1 : Nat) (Option.none : Option Jvm.ClassFile.FieldType), Jvm.Cond.code ({ cls := "java/lang/Object", name := "<init>", desc := "()V" } : Jvm.MethodName) object_method_1_code (1 : Nat) (Option.none : Option Jvm.ClassFile.FieldType), Jvm.Cond.code ({ cls := "com/example/zedwitness/zedwitness/SmtSet$Range", name := "bounded", desc := "()Z" } : Jvm.MethodName) prog_118_method_4_code (1 : Nat) (Option.some Jvm.ClassFile.FieldType.boolean), Jvm.Cond.code ({ cls := "java/lang/String", name := "<init>", desc := "([C)V" } : Jvm.MethodName) jdk_42_method_3_code (2 : Nat) (Option.none : Option Jvm.ClassFile.FieldType), Jvm.Cond.code ({ cls := "java/lang/String", name := "<init>", desc := "([CIILjava/lang/Void;)V" } : Jvm.MethodName) jdk_42_method_149_code (6 : Nat) (Option.none : Option Jvm.ClassFile.FieldType), Jvm.Cond.code ({ cls := "java/lang/StringUTF16", name := "compress", desc := "([CII)[B" } : Jvm.MethodName) jdk_52_method_16_code (6 : Nat) (Option.some (Jvm.ClassFile.FieldType.array Jvm.ClassFile.FieldType.byte)), Jvm.Cond.code ({ cls := "java/lang/StringUTF16", name := "compress", desc := "([CI[BII)I" } : Jvm.MethodName) jdk_52_method_21_code (7 : Nat) (Option.some Jvm.ClassFile.FieldType.int), Jvm.Cond.code ({ cls := "java/lang/StringUTF16", name := "coderFromArrayLen", desc := "([BI)B" } : Jvm.MethodName) jdk_52_method_15_code (2 : Nat) (Option.some Jvm.ClassFile.FieldType.byte)]
set_option maxRecDepth 65536 in
theorem codes_eq : words1.filter isCode = codes1 := rfl
theorem w_codes : ∀ c ∈ words1.filter isCode, c.before args0 about1 = true := by
  rw [codes_eq]
  intro c hc
  simp only [codes1, List.mem_cons, List.not_mem_nil, or_false] at hc
  rcases hc with rfl | rfl | rfl | rfl | rfl | rfl | rfl | rfl | rfl | rfl | rfl
  · exact w_c0
  · exact w_c1
  · exact w_c2
  · exact w_c3
  · exact w_c4
  · exact w_c5
  · exact w_c6
  · exact w_c7
  · exact w_c8
  · exact w_c9
  · exact w_c10
set_option maxRecDepth 65536 in
theorem w_t1 : (words1.take 24).all (fun c => isCode c || c.before args0 about1) = true := by decide +kernel
set_option maxRecDepth 65536 in
theorem w_t2 : ((words1.drop 24).take 24).all (fun c => isCode c || c.before args0 about1) = true := by decide +kernel
set_option maxRecDepth 65536 in
theorem w_t3 : ((words1.drop 24).drop 24).all (fun c => isCode c || c.before args0 about1) = true := by decide +kernel
theorem w_tables : (allAtoms (Jvm.Cond.code x code maxLocals ret :: tables_1)).before args0 about1 = true := by
  rw [allAtoms_all]
  show words1.all (fun c => c.before args0 about1) = true
  refine all_split ?_ w_codes
  rw [← List.take_append_drop 24 words1, List.all_append, w_t1, ← List.take_append_drop 24 (words1.drop 24), List.all_append, w_t2, w_t3]
  rfl
set_option maxRecDepth 65536 in
theorem w_rest : rest_1_c.before args0 about1 = true := by decide +kernel
set_option maxRecDepth 65536 in
theorem w_case : (Jvm.Cond.and given_1 narrow_1).before args0 about1 = true := by decide +kernel
set_option maxRecDepth 65536 in
theorem w_consts : constsHeld consts_1 about1 := Jvm.Lit.constsHeldB_iff.mp (by decide +kernel)
theorem w_applies : (headSpec (Jvm.Cond.code x code maxLocals ret :: tables_1) room_1).applies x e0.platform about1 = true :=
  (Spec.applies_iff w_frames).mpr ⟨w_running, w_runnable, w_alone, w_named, w_hears, w_ripe, w_room, w_tables⟩
theorem atStart : AtStart classFile x code maxLocals ret World_1 tables_1 room_1 Calls_1 rest_1 Pre_1 launch0 p0 e0 about1 theMethod args0 below0 :=
  ⟨lists_1, trivial, launch0.admits_env _ _ _, launch0.least_env, fairChoices_fair.cas, fairChoices_fair.clock, w_frames, w_args, w_heap, w_applies, ⟨w_consts, trivial⟩, w_rest, w_case⟩
end start1
theorem witness_1 : WitnessClaimed_1 := ⟨start1.p0, start1.e0, start1.about1, start1.theMethod, start1.args0, start1.below0, start1.atStart⟩
end Jvm.Pilot.@@N@@
