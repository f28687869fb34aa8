import JvmDerived
import JvmDerived.Pilot.@@N@@Statement
import JvmDerived.Pilot.@@N@@Code
set_option linter.unusedVariables false
set_option linter.unusedSimpArgs false
namespace Jvm.Own
open Jvm Jvm.ClassFile Sem Op Lib Jvm.Free Jvm.Stand Jvm.LawKit Jvm.RoadKit Bundle
section Walk
/-- from this frame the body comes to its end, and the end is as F says -/
def Endw (p : Program) (e : Env) (below : List Frame) (T : State) (g : JFrame) (F : Outcome → State → Prop) : Prop :=
  ∃ s₂ o, Steps p.tables e below (T.setTop g) s₂ ∧ s₂.status = .running ∧ Ended s₂ below o ∧ F o s₂
/-- where a walk stands: its surroundings, its state, the heap at hand, what it has spent -/
def Core (p : Program) (l : Launch) (e : Env) (R : Room) (s : State) (m : MethodId) (args : Array Value) (below : List Frame) (meth : Method) (c : Code) (bs : ByteArray) (ml : Nat) (ret : Option FieldType) (nm own : String) (Z : State) (a0 : Array Value) (EL : List (String × Nat)) (nw : Bool) (vm : Vm) (T : State) (h : Heap) (k n : Nat) : Prop :=
  (p.tables.exec = Jvm.exec ∧ c.code = bs ∧ c.maxLocals = ml ∧ meth.sig.returnType = ret ∧ meth.locks = false ∧ meth.name = nm ∧ EW Z a0 EL) ∧
  (∃ L, Stand p l e R (s.setVm vm) m args below meth c T L k n ∧ Fr Z.heap.size L) ∧ T.heap = h ∧ Z.Warmed39 vm ∧ vm.findClass own = some m.cls ∧ (∃ k0, s.Since vm k0 ∧ k0 ≤ h.size) ∧ CHr Z EL s.vm s.heap vm h ∧ Ext Z.heap h ∧ (nw = true → s.WarmedH vm ∧ ∀ y, Bk Z EL vm h y → Bk Z EL s.vm s.heap y)
/-- what a body leaves behind -/
def Fin (s : State) (Z : State) (EL : List (String × Nat)) (nw : Bool) (Q : Option Value → Heap → Prop) (K N : Nat) (o : Outcome) (U : State) : Prop :=
  ∃ v L, o = .returned v ∧ (Q v U.heap ∧ Fr Z.heap.size L ∧ Ext Z.heap U.heap) ∧ (CHr Z EL s.vm s.heap U.vm U.heap ∧ (nw = true → s.WarmedH U.vm ∧ ∀ y, Bk Z EL U.vm U.heap y → Bk Z EL s.vm s.heap y)) ∧ ReturnedEndW s o U L K N
/-- the contract of a body: the arguments, the heap at the call, the places that it may write though they be Strings or byte arrays, what comes back -/
def Met (l : Launch) (Z : State) (EL : List (String × Nat)) (nw : Bool) (y : MethodName) (bs : ByteArray) (ml : Nat) (ret : Option FieldType) (ws : List Jvm.Cond) (rm : Room) (as' : Array Value) (h : Heap) (xs : List Addr) (Q : Option Value → Heap → Prop) : Prop :=
  MetFree l y (head1 (Jvm.Cond.code y bs ml ret :: ws) rm) (fun a U => a = as' ∧ Z.Warmed39 U.vm ∧ U.heap = h ∧ CHv Z EL U.vm h ∧ ∀ x ∈ xs, Safe Z EL U.vm h x) (fun _ _ _ _ _ => True)
    (fun _ U o U' => Fin U Z EL nw Q rm.cells rm.slots o U')
variable {p : Program} {l : Launch} {e : Env} {R : Room} {s : State} {m : MethodId} {args : Array Value} {below : List Frame} {meth : Method} {c : Code}
variable {bs : ByteArray} {ml : Nat} {ret : Option FieldType} {nm own : String} {Z : State} {a0 : Array Value} {EL : List (String × Nat)} {nw : Bool} {vm : Vm} {T T' : State} {h h' : Heap} {k n k' n' : Nat} {F : Outcome → State → Prop} {pc pc' : Nat} {Ls : Array Slot} {rest : List Value} {g g' : JFrame} {Q : Option Value → Heap → Prop}
theorem Endw.st (q : ∀ t, Steps p.tables e below (T'.setTop g') t → Steps p.tables e below (T.setTop g) t) (E : Endw p e below T' g' F) : Endw p e below T g F := by
  obtain ⟨s₂, o, h1, h2⟩ := E; exact ⟨s₂, o, q _ h1, h2⟩
theorem Endw.ste (q : Steps p.tables e below (T.setTop g) (T'.setTop g')) (E : Endw p e below T' g' F) : Endw p e below T g F := Endw.st (fun _ r => q.trans r) E
theorem Endw.eq (q : g = g') (E : Endw p e below T g' F) : Endw p e below T g F := q ▸ E
section Reads
theorem Core.hx (C : Core p l e R s m args below meth c bs ml ret nm own Z a0 EL nw vm T h k n) : p.tables.exec = Jvm.exec := C.1.1
theorem Core.dec (C : Core p l e R s m args below meth c bs ml ret nm own Z a0 EL nw vm T h k n) {r : Except DecodeError (Instr × Nat)} (hd : decode bs pc = r) : decode c.code pc = r := hb C.1.2.1 hd
theorem Core.mlq (C : Core p l e R s m args below meth c bs ml ret nm own Z a0 EL nw vm T h k n) : c.maxLocals = ml := C.1.2.2.1
theorem Core.rtq (C : Core p l e R s m args below meth c bs ml ret nm own Z a0 EL nw vm T h k n) : meth.sig.returnType = ret := C.1.2.2.2.1
theorem Core.locks (C : Core p l e R s m args below meth c bs ml ret nm own Z a0 EL nw vm T h k n) : meth.locks = false := C.1.2.2.2.2.1
theorem Core.nam (C : Core p l e R s m args below meth c bs ml ret nm own Z a0 EL nw vm T h k n) : meth.name = nm := C.1.2.2.2.2.2.1
theorem Core.ew (C : Core p l e R s m args below meth c bs ml ret nm own Z a0 EL nw vm T h k n) : EW Z a0 EL := C.1.2.2.2.2.2.2
theorem Core.here (C : Core p l e R s m args below meth c bs ml ret nm own Z a0 EL nw vm T h k n) : At T m c below := by obtain ⟨-, ⟨_, X, -⟩, -⟩ := C; exact X.here
theorem Core.heq (C : Core p l e R s m args below meth c bs ml ret nm own Z a0 EL nw vm T h k n) : T.heap = h := C.2.2.1
theorem Core.warm (C : Core p l e R s m args below meth c bs ml ret nm own Z a0 EL nw vm T h k n) : Z.Warmed39 vm := C.2.2.2.1
theorem Core.hown (C : Core p l e R s m args below meth c bs ml ret nm own Z a0 EL nw vm T h k n) : vm.findClass own = some m.cls := C.2.2.2.2.1
theorem Core.since (C : Core p l e R s m args below meth c bs ml ret nm own Z a0 EL nw vm T h k n) : ∃ k0, s.Since vm k0 ∧ k0 ≤ h.size := C.2.2.2.2.2.1
theorem Core.chr (C : Core p l e R s m args below meth c bs ml ret nm own Z a0 EL nw vm T h k n) : CHr Z EL s.vm s.heap vm h := C.2.2.2.2.2.2.1
theorem Core.chv (C : Core p l e R s m args below meth c bs ml ret nm own Z a0 EL nw vm T h k n) : CHv Z EL vm h := C.chr.1
theorem Core.old (C : Core p l e R s m args below meth c bs ml ret nm own Z a0 EL nw vm T h k n) : Ext Z.heap h := C.2.2.2.2.2.2.2.1
theorem Core.nwm (C : Core p l e R s m args below meth c bs ml ret nm own Z a0 EL nw vm T h k n) : nw = true → s.WarmedH vm ∧ ∀ y, Bk Z EL vm h y → Bk Z EL s.vm s.heap y := C.2.2.2.2.2.2.2.2
theorem Core.le (C : Core p l e R s m args below meth c bs ml ret nm own Z a0 EL nw vm T h k n) : Z.heap.size ≤ h.size := C.old.1
end Reads
theorem CHr.step (A : CHr Z EL s.vm s.heap vm h) (B : CHr Z EL vm h vm h') : CHr Z EL s.vm s.heap vm h' := A.trans B
theorem old_keep {ws : List Addr} (O : Ext Z.heap h) (K : Keep h h' ws) (q : ∀ x ∈ ws, Z.heap.size ≤ x) : Ext Z.heap h' :=
  ⟨Nat.le_trans O.1 K.1, fun x c r => K.2.1 x c (O.2 x c r) fun z => absurd (Array.getElem?_eq_some_iff.mp r).1 (Nat.not_lt.mpr (q x z))⟩
theorem keep_of_ext (E : Ext h h') : Keep h h' [] := (Keep.refl h []).ext E
/-- the walk goes on with the same tables behind a step that keeps all but ws -/
theorem Core.on (C : Core p l e R s m args below meth c bs ml ret nm own Z a0 EL nw vm T h k n) {ws : List Addr} {L' : List Loc} (X' : Stand p l e R (s.setVm vm) m args below meth c T' L' k' n') (N : Fr Z.heap.size L') (e' : T'.heap = h') (K : Keep h h' ws) (q : ∀ x ∈ ws, Z.heap.size ≤ x) (S : ∀ x ∈ ws, Safe Z EL vm h x) :
    Core p l e R s m args below meth c bs ml ret nm own Z a0 EL nw vm T' h' k' n' :=
  ⟨C.1, ⟨L', X', N⟩, e', C.warm, C.hown, by obtain ⟨k0, h1, h2⟩ := C.since; exact ⟨k0, h1, Nat.le_trans h2 K.1⟩, CHr.step C.chr (CHr.keep K S C.chv), old_keep C.old K q, fun z => ⟨(C.nwm z).1, fun y b => (C.nwm z).2 y ((CHv.keepStep K S C.chv).2 y b)⟩⟩
theorem Core.same (C : Core p l e R s m args below meth c bs ml ret nm own Z a0 EL nw vm T h k n) {L' : List Loc} (X' : Stand p l e R (s.setVm vm) m args below meth c T' L' k' n') (N : Fr Z.heap.size L') (e' : T'.heap = h) :
    Core p l e R s m args below meth c bs ml ret nm own Z a0 EL nw vm T' h k' n' :=
  C.on (ws := []) X' N e' (Keep.refl _ _) all0 sf0
theorem Core.more (C : Core p l e R s m args below meth c bs ml ret nm own Z a0 EL nw vm T h k n) (hk : k ≤ k') (hn : n ≤ n') : Core p l e R s m args below meth c bs ml ret nm own Z a0 EL nw vm T h k' n' := by
  obtain ⟨h1, ⟨L, X, N⟩, r⟩ := C; exact ⟨h1, ⟨L, X.more hk hn, N⟩, r⟩
/-! ## steps -/
theorem Core.getF (C : Core p l e R s m args below meth c bs ml ret nm own Z a0 EL nw vm T h k n) {O nm' d : String} {ix : Nat} {a : Addr} {v : Value} (w : (Jvm.Cond.fieldLink own ix O nm' d).before a0 Z = true) (f : Fld Z h a O nm' d v) (hd : decode bs pc = .ok (.getfield ix, 3)) (hp : pc + 3 = pc')
    (K : ∀ T', Core p l e R s m args below meth c bs ml ret nm own Z a0 EL nw vm T' h k n → Endw p e below T' (mkF m pc' Ls (v :: rest)) F) : Endw p e below T (mkF m pc Ls (.ref a :: rest)) F := by
  subst hp
  obtain ⟨-, ⟨L, X, N⟩, -⟩ := id C
  obtain ⟨T', X', e', st⟩ := RoadKit.getF X C.hx C.warm C.hown (host := "") (Or.inl w) Via.refl C.heq f (g := mkF m pc Ls (.ref a :: rest)) rfl rfl (C.dec hd)
  exact Endw.st st (K T' (C.same X' N e'))
theorem Core.getFN (C : Core p l e R s m args below meth c bs ml ret nm own Z a0 EL nw vm T h k n) {O nm' d host : String} {ix : Nat} {a : Addr} {v : Value} (w : (Jvm.Cond.fieldLinkNest own ix O nm' d host).before a0 Z = true) (f : Fld Z h a O nm' d v) (hd : decode bs pc = .ok (.getfield ix, 3)) (hp : pc + 3 = pc')
    (K : ∀ T', Core p l e R s m args below meth c bs ml ret nm own Z a0 EL nw vm T' h k n → Endw p e below T' (mkF m pc' Ls (v :: rest)) F) : Endw p e below T (mkF m pc Ls (.ref a :: rest)) F := by
  subst hp
  obtain ⟨-, ⟨L, X, N⟩, -⟩ := id C
  obtain ⟨T', X', e', st⟩ := RoadKit.getF X C.hx C.warm C.hown (Or.inr w) Via.refl C.heq f (g := mkF m pc Ls (.ref a :: rest)) rfl rfl (C.dec hd)
  exact Endw.st st (K T' (C.same X' N e'))
theorem Core.getFV (C : Core p l e R s m args below meth c bs ml ret nm own Z a0 EL nw vm T h k n) {R0 O nm' d : String} {ix : Nat} {a : Addr} {v : Value} (w : (Jvm.Cond.fieldLink own ix R0 nm' d).before a0 Z = true) (via : Via Z R0 O nm' d) (f : Fld Z h a O nm' d v) (hd : decode bs pc = .ok (.getfield ix, 3)) (hp : pc + 3 = pc')
    (K : ∀ T', Core p l e R s m args below meth c bs ml ret nm own Z a0 EL nw vm T' h k n → Endw p e below T' (mkF m pc' Ls (v :: rest)) F) : Endw p e below T (mkF m pc Ls (.ref a :: rest)) F := by
  subst hp
  obtain ⟨-, ⟨L, X, N⟩, -⟩ := id C
  obtain ⟨T', X', e', st⟩ := RoadKit.getF X C.hx C.warm C.hown (host := "") (Or.inl w) via C.heq f (g := mkF m pc Ls (.ref a :: rest)) rfl rfl (C.dec hd)
  exact Endw.st st (K T' (C.same X' N e'))
theorem Core.getS (C : Core p l e R s m args below meth c bs ml ret nm own Z a0 EL nw vm T h k n) {O nm' d : String} {ix : Nat} {v : Value} (w : (Jvm.Cond.fieldLink own ix O nm' d).before a0 Z = true) (f : Sta Z Z.heap O nm' d v) (hd : decode bs pc = .ok (.getstatic ix, 3)) (hp : pc + 3 = pc')
    (K : ∀ T', Core p l e R s m args below meth c bs ml ret nm own Z a0 EL nw vm T' h k n → Endw p e below T' (mkF m pc' Ls (v :: rest)) F) : Endw p e below T (mkF m pc Ls rest) F := by
  subst hp
  obtain ⟨-, ⟨L, X, N⟩, -⟩ := id C
  obtain ⟨T', X', e', st⟩ := RoadKit.getS X C.hx C.warm C.hown (host := "") w Via.refl C.heq (f.ext C.old) (g := mkF m pc Ls rest) rfl (C.dec hd)
  exact Endw.st st (K T' (C.same X' N e'))
theorem Core.putF (C : Core p l e R s m args below meth c bs ml ret nm own Z a0 EL nw vm T h k n) {O nm' d Cl : String} {ix kk : Nat} {a : Addr} {v old : Value} {ty : FieldType} (w : (Jvm.Cond.fieldLink own ix O nm' d).before a0 Z = true) (f : Fld Z h a O nm' d old) (E : Exa Z h a Cl) (la : (Jvm.Cond.lays Cl O nm' d).before a0 Z = true ∨ ((Jvm.Cond.laysFinal Cl O nm' d).before a0 Z = true ∧ own = O ∧ nm = "<init>")) (wi : (Jvm.Cond.instantiable Cl kk).before a0 Z = true)
    (hty : parseFieldDescriptor d = some ty) (hn : narrow ty v = v) (hf : fits ty v = true) (ge : Z.heap.size ≤ a) (sf : Safe Z EL vm h a) (hd : decode bs pc = .ok (.putfield ix, 3)) (hp : pc + 3 = pc')
    (K : ∀ T' h', Core p l e R s m args below meth c bs ml ret nm own Z a0 EL nw vm T' h' k n → Keep h h' [a] → CHr Z EL vm h vm h' → Wr h h' a (RoadKit.slotOf Z O nm' d) v → Endw p e below T' (mkF m pc' Ls rest) F) : Endw p e below T (mkF m pc Ls (v :: .ref a :: rest)) F := by
  subst hp
  obtain ⟨-, ⟨L, X, N⟩, -⟩ := id C
  obtain ⟨T', h', X', e', W, st⟩ := RoadKit.putF X C.hx C.warm C.hown (host := "") (Or.inl w) Via.refl C.heq f E (la.imp id fun q => ⟨q.1, q.2.1, C.nam.trans q.2.2⟩) wi hty hn hf (g := mkF m pc Ls (v :: .ref a :: rest)) rfl rfl (C.dec hd)
  exact Endw.st st (K T' h' (C.on (ws := [a]) X' (N.app fun y hy => by cases List.mem_singleton.mp hy; exact ge) e' (Keep.of_wr W) (allS ge all0) (sfS sf sf0)) (Keep.of_wr W) (CHr.keep (Keep.of_wr W) (sfS sf sf0) C.chv) W)
theorem Core.new (C : Core p l e R s m args below meth c bs ml ret nm own Z a0 EL nw vm T h k n) {Cl : String} {ix nn : Nat} (w : (Jvm.Cond.classLink own ix Cl).before a0 Z = true) (wi : (Jvm.Cond.instantiable Cl nn).before a0 Z = true) (wz : (Jvm.Cond.initialized Cl).before a0 Z = true) (hd : decode bs pc = .ok (.new ix, 3)) (hp : pc + 3 = pc') (hk : k + 1 ≤ R.cells) (hn : n + nn ≤ R.slots)
    (K : ∀ T' h' x, Core p l e R s m args below meth c bs ml ret nm own Z a0 EL nw vm T' h' (k + 1) (n + nn) → Keep h h' [] → CHr Z EL vm h vm h' → h.size ≤ x → Z.heap.size ≤ x → Exa Z h' x Cl → (∀ {O nm d : String} {ty : FieldType}, Laid Z a0 Cl O nm d → parseFieldDescriptor d = some ty → Fld Z h' x O nm d (defaultValue ty)) → Safe Z EL vm h' x → Endw p e below T' (mkF m pc' Ls (.ref x :: rest)) F) : Endw p e below T (mkF m pc Ls rest) F := by
  subst hp
  obtain ⟨-, ⟨L, X, N⟩, -⟩ := id C
  obtain ⟨T', h', X', e', E, A, D, -, st⟩ := RoadKit.newO X C.hx C.warm C.hown w wi wz C.heq (g := mkF m pc Ls rest) rfl (C.dec hd) hk hn
  exact Endw.st st (K T' h' h.size (C.on (ws := []) X' N e' (keep_of_ext E) all0 sf0) (keep_of_ext E) (CHr.keep (keep_of_ext E) sf0 C.chv) (Nat.le_refl _) C.le A D (Safe.ext E C.chv (Safe.new (Nat.le_refl _))))
theorem Core.newA (C : Core p l e R s m args below meth c bs ml ret nm own Z a0 EL nw vm T h k n) {aty : ArrayType} {z : Int32} {cap : Nat} {vs : List Value} (w : (Jvm.Cond.arrayClass (newarray.typeOf aty)).before a0 Z = true) (hd : decode bs pc = .ok (.newarray aty, 2)) (hp : pc + 2 = pc') (hz : ¬ z < 0) (hcap : z.toNatClampNeg ≤ cap) (hb : cap * 8 ≤ 536870912) (hk : k + 1 ≤ R.cells) (hn : n + cap ≤ R.slots) (hvs : vs = List.replicate vs.length (defaultValue (newarray.typeOf aty)))
    (K : ∀ T' h' x kA, Core p l e R s m args below meth c bs ml ret nm own Z a0 EL nw vm T' h' (k + 1) (n + cap) → Keep h h' [] → CHr Z EL vm h vm h' → h.size ≤ x → Z.heap.size ≤ x → Arv Z h' x kA (newarray.typeOf aty) z vs (defaultValue (newarray.typeOf aty)) → Safe Z EL vm h' x → Endw p e below T' (mkF m pc' Ls (.ref x :: rest)) F) : Endw p e below T (mkF m pc Ls (.int z :: rest)) F := by
  subst hp
  obtain ⟨-, ⟨L, X, N⟩, -⟩ := id C
  obtain ⟨T', h', cA, X', e', E, A, st⟩ := RoadKit.newP X C.hx C.warm w C.heq (g := mkF m pc Ls (.int z :: rest)) rfl (C.dec hd) rfl hz hcap hb hk hn
  have q := (Arv.new A hz).pad (vs' := [] ++ List.replicate vs.length (defaultValue (newarray.typeOf aty))) (pad_rep _ _ _)
  rw [List.nil_append, ← hvs] at q
  exact Endw.st st (K T' h' h.size cA (C.on (ws := []) X' N e' (keep_of_ext E) all0 sf0) (keep_of_ext E) (CHr.keep (keep_of_ext E) sf0 C.chv) (Nat.le_refl _) C.le q (Safe.ext E C.chv (Safe.new (Nat.le_refl _))))
theorem Core.len (C : Core p l e R s m args below meth c bs ml ret nm own Z a0 EL nw vm T h k n) {a : Addr} {kA : ClassId} {ty : FieldType} {z : Int32} {vs : List Value} {dv : Value} (A : Arv Z h a kA ty z vs dv) (hd : decode bs pc = .ok (.arraylength, 1)) (hp : pc + 1 = pc')
    (K : Endw p e below T (mkF m pc' Ls (.int z :: rest)) F) : Endw p e below T (mkF m pc Ls (.ref a :: rest)) F := by
  subst hp
  obtain ⟨-, ⟨L, X, N⟩, -⟩ := id C
  obtain ⟨cl, Ar, -, S, hz, -⟩ := A
  refine Endw.st (fun t r => X.arraylength C.hx (by rw [C.heq]; exact Ar.1) (State.isArrayOf_alike C.warm.alike Ar.2.1) (g := mkF m pc Ls (.ref a :: rest)) rfl rfl (C.dec hd) t r) ?_
  rw [len_of S hz]; exact K
theorem Core.caload (C : Core p l e R s m args below meth c bs ml ret nm own Z a0 EL nw vm T h k n) {a : Addr} {kA : ClassId} {z j : Int32} {vs : List Value} {dv v : Value} (A : Arv Z h a kA .char z vs dv) (hj : ¬ j < 0 ∧ j < z) (hv : vs.getD j.toNatClampNeg dv = v) (hd : decode bs pc = .ok (.caload, 1)) (hp : pc + 1 = pc')
    (K : Endw p e below T (mkF m pc' Ls (v :: rest)) F) : Endw p e below T (mkF m pc Ls (.int j :: .ref a :: rest)) F := by
  subst hp
  obtain ⟨-, ⟨L, X, N⟩, -⟩ := id C
  obtain ⟨cl, Ar, -, S, hz, H, -⟩ := A
  exact Endw.st (fun t r => X.caload C.hx (by rw [C.heq]; exact Ar.1) (State.isArrayOf_alike C.warm.alike Ar.2.1) Ar.2.2 (inb_of S hj) (H.at (inb_of S hj) hv) (g := mkF m pc Ls (.int j :: .ref a :: rest)) rfl rfl (C.dec hd) t r) K
theorem Core.baload (C : Core p l e R s m args below meth c bs ml ret nm own Z a0 EL nw vm T h k n) {a : Addr} {kA : ClassId} {z j : Int32} {vs : List Value} {dv v : Value} (A : Arv Z h a kA .byte z vs dv) (hj : ¬ j < 0 ∧ j < z) (hv : vs.getD j.toNatClampNeg dv = v) (hd : decode bs pc = .ok (.baload, 1)) (hp : pc + 1 = pc')
    (K : Endw p e below T (mkF m pc' Ls (v :: rest)) F) : Endw p e below T (mkF m pc Ls (.int j :: .ref a :: rest)) F := by
  subst hp
  obtain ⟨-, ⟨L, X, N⟩, -⟩ := id C
  obtain ⟨cl, Ar, -, S, hz, H, -⟩ := A
  exact Endw.st (fun t r => X.baloadBytes C.hx (by rw [C.heq]; exact Ar.1) (State.isArrayOf_alike C.warm.alike Ar.2.1) Ar.2.2 (inb_of S hj) (H.at (inb_of S hj) hv) (g := mkF m pc Ls (.int j :: .ref a :: rest)) rfl rfl (C.dec hd) t r) K
theorem Core.aaload (C : Core p l e R s m args below meth c bs ml ret nm own Z a0 EL nw vm T h k n) {a : Addr} {kA : ClassId} {ty : FieldType} {z j : Int32} {vs : List Value} {dv v : Value} (A : Arv Z h a kA ty z vs dv) (hty : ty.isReference = true) (hj : ¬ j < 0 ∧ j < z) (hv : vs.getD j.toNatClampNeg dv = v) (hd : decode bs pc = .ok (.aaload, 1)) (hp : pc + 1 = pc')
    (K : Endw p e below T (mkF m pc' Ls (v :: rest)) F) : Endw p e below T (mkF m pc Ls (.int j :: .ref a :: rest)) F := by
  subst hp
  obtain ⟨-, ⟨L, X, N⟩, -⟩ := id C
  obtain ⟨cl, Ar, -, S, hz, H, -⟩ := A
  exact Endw.st (fun t r => X.aaload C.hx (by rw [C.heq]; exact Ar.1) (State.isArrayOf_alike C.warm.alike Ar.2.1) hty Ar.2.2 (inb_of S hj) (H.at (inb_of S hj) hv) (g := mkF m pc Ls (.int j :: .ref a :: rest)) rfl rfl (C.dec hd) t r) K
theorem Core.castore (C : Core p l e R s m args below meth c bs ml ret nm own Z a0 EL nw vm T h k n) {a : Addr} {kA : ClassId} {z j x x' : Int32} {vs vs' : List Value} {dv : Value} (A : Arv Z h a kA .char z vs dv) (hj : ¬ j < 0 ∧ j < z) (i : Nat) (hi : j.toNatClampNeg = i) (hl : i < vs.length) (hx' : nar .char x = x') (ge : Z.heap.size ≤ a) (hvs : vs.set i (.int x') = vs') (hd : decode bs pc = .ok (.castore, 1)) (hp : pc + 1 = pc')
    (K : ∀ T' h', Core p l e R s m args below meth c bs ml ret nm own Z a0 EL nw vm T' h' k n → Keep h h' [a] → CHr Z EL vm h vm h' → Arv Z h' a kA .char z vs' dv → Endw p e below T' (mkF m pc' Ls rest) F) : Endw p e below T (mkF m pc Ls (.int x :: .int j :: .ref a :: rest)) F := by
  subst hp hx' hvs
  obtain ⟨-, ⟨L, X, N⟩, -⟩ := id C
  have sf : Safe Z EL vm h a := Safe.arv C.warm.alike A (by decide)
  obtain ⟨cl, Ar, q1, S, hz, H, G⟩ := A
  obtain ⟨T', h', X', e', W, st⟩ := RoadKit.stC X C.hx C.warm C.heq Ar (inb_of S hj) (g := mkF m pc Ls (.int x :: .int j :: .ref a :: rest)) rfl rfl (C.dec hd)
  exact Endw.st st (K T' h' (C.on (ws := [a]) X' (N.app fun y hy => by cases List.mem_singleton.mp hy; exact ge) e' (Keep.of_wr W) (allS ge all0) (sfS sf sf0)) (Keep.of_wr W) (CHr.keep (Keep.of_wr W) (sfS sf sf0) C.chv) (Arv.set Ar q1 S hz H G (fits_nar_char _) W i hi hl))
theorem Core.bastore (C : Core p l e R s m args below meth c bs ml ret nm own Z a0 EL nw vm T h k n) {a : Addr} {kA : ClassId} {z j x x' : Int32} {vs vs' : List Value} {dv : Value} (A : Arv Z h a kA .byte z vs dv) (hj : ¬ j < 0 ∧ j < z) (i : Nat) (hi : j.toNatClampNeg = i) (hl : i < vs.length) (hx' : nar .byte x = x') (ge : Z.heap.size ≤ a) (sf : Safe Z EL vm h a) (hvs : vs.set i (.int x') = vs') (hd : decode bs pc = .ok (.bastore, 1)) (hp : pc + 1 = pc')
    (K : ∀ T' h', Core p l e R s m args below meth c bs ml ret nm own Z a0 EL nw vm T' h' k n → Keep h h' [a] → CHr Z EL vm h vm h' → Arv Z h' a kA .byte z vs' dv → Endw p e below T' (mkF m pc' Ls rest) F) : Endw p e below T (mkF m pc Ls (.int x :: .int j :: .ref a :: rest)) F := by
  subst hp hx' hvs
  obtain ⟨-, ⟨L, X, N⟩, -⟩ := id C
  obtain ⟨cl, Ar, q1, S, hz, H, G⟩ := A
  obtain ⟨T', h', X', e', W, st⟩ := RoadKit.stB X C.hx C.warm C.heq Ar (inb_of S hj) (g := mkF m pc Ls (.int x :: .int j :: .ref a :: rest)) rfl rfl (C.dec hd)
  exact Endw.st st (K T' h' (C.on (ws := [a]) X' (N.app fun y hy => by cases List.mem_singleton.mp hy; exact ge) e' (Keep.of_wr W) (allS ge all0) (sfS sf sf0)) (Keep.of_wr W) (CHr.keep (Keep.of_wr W) (sfS sf sf0) C.chv) (Arv.set Ar q1 S hz H G (fits_nar_byte _) W i hi hl))
/-- Object.<init> -/
theorem Core.initO (C : Core p l e R s m args below meth c bs ml ret nm own Z a0 EL nw vm T h k n) {ix : Nat} {a : Addr} (w1 : (Jvm.Cond.methodLink own ix Lib.objectInit).before a0 Z = true) (w2 : (Jvm.Cond.instanceMethod Lib.objectInit).before a0 Z = true) (w3 : (Jvm.Cond.code Lib.objectInit ⟨#[0xb1]⟩ 1 none).before a0 Z = true) (hsz : Ls.size = ml) (hd : decode bs pc = .ok (.invokespecial ix, 3)) (hp : pc + 3 = pc') (hf : 1 ≤ R.frames) {W : Nat} (hW : (rest.map fun v => v.category).sum ≤ W) (hl : W + 12 ≤ R.locals)
    (K : ∀ T', Core p l e R s m args below meth c bs ml ret nm own Z a0 EL nw vm T' h k n → Endw p e below T' (mkF m pc' Ls rest) F) : Endw p e below T (mkF m pc Ls (.ref a :: rest)) F := by
  subst hp
  obtain ⟨-, ⟨L, X, N⟩, -⟩ := id C
  obtain ⟨T', X', e', st⟩ := RoadKit.initO X C.hx C.warm C.hown w1 w2 w3 C.heq (g := mkF m pc Ls (.ref a :: rest)) rfl (hsz.trans C.mlq.symm) rfl (C.dec hd) hf (W := W) (by show 2 * 0 + _ ≤ _; omega) hl
  exact Endw.st st (K T' (C.same X' N e'))
/-! ## calls by a contract of ours -/
theorem backOwn {nw' : Bool} {y : MethodName} {bytes : ByteArray} {mx : Nat} {rt : Option FieldType} {rm : Room} {len W : Nat} {as' : Array Value} {xs : List Addr} (hM : Met l Z EL nw' y bytes mx rt [] rm as' h xs Q) (hZ : Z.Warmed39 vm) (wc : (Jvm.Cond.code y bytes mx rt).before a0 Z = true) (wz : (Jvm.Cond.initialized y.cls).before a0 Z = true) (hf : rm.frames + 1 ≤ R.frames) (hl : W + (mx + 11) + rm.locals ≤ R.locals) (hEL : EW Z a0 EL) (H : CHv Z EL vm h) (hs : ∀ x ∈ xs, x < h.size ∧ Safe Z EL vm h x) :
    BackS l R p e below (s.setVm vm) args y len W (fun A a => a = as' ∧ A.U.heap = h ∧ A.cells + rm.cells ≤ R.cells ∧ A.slots + rm.slots ≤ R.slots)
      (fun A _ v B => ∃ L, (Q v B.U.heap ∧ Fr Z.heap.size L ∧ Ext Z.heap B.U.heap) ∧ B.locs = A.locs ++ L ∧ B.cells = A.cells + rm.cells ∧ B.slots = A.slots + rm.slots ∧ CHr Z EL vm h B.U.vm B.U.heap ∧ (nw' = true → (s.setVm vm).WarmedH B.U.vm ∧ ∀ y, Bk Z EL B.U.vm B.U.heap y → Bk Z EL vm h y)) := by
  refine BackS.of_freeW (bytes := bytes) (maxL := mx) (ret := rt) (E := fun _ f o t L i j => i = rm.cells ∧ j = rm.slots ∧ (∃ v, o = .returned v ∧ Q v t.heap ∧ Fr Z.heap.size L ∧ Ext Z.heap t.heap) ∧ CHr Z EL f.vm f.heap t.vm t.heap ∧ (nw' = true → f.WarmedH t.vm ∧ ∀ y, Bk Z EL t.vm t.heap y → Bk Z EL f.vm f.heap y)) hM hf hl ?_ ?_ (fun _ _ _ _ _ _ _ _ _ => trivial) ?_ ?_
  · intro m' meth' c' A a Y hp
    have hU : Z.Warmed39 A.U.vm := wtrans (s := s.setVm vm) hZ Y.warmed
    refine ⟨?_, mv hU wc, mv hU wz, hp.2.2.1, hp.2.2.2⟩
    show (Jvm.Cond.and _ .tt).before a A.U = true
    rw [Cond.before_and, mv hU wc]; rfl
  · intro m' meth' c' A a g' mk Y hp
    have q := CHv.at Y hZ hEL H
    exact ⟨hp.1, wtrans (s := s.setVm vm) hZ Y.warmed, hp.2.1, q.1, fun x hx => q.safe (hs x hx).1 (hs x hx).2⟩
  · intro a f o t ⟨v, L, h1, h2, h3, h4⟩
    exact ⟨L, _, _, h4, rfl, rfl, ⟨v, h1, h2⟩, h3.1, h3.2⟩
  · intro m' meth' c' A a g' mk v t L i j Y hp _ _ q
    obtain ⟨rfl, rfl, ⟨v', e1, e2⟩, e3, e5⟩ := q
    cases e1
    refine ⟨L, e2, rfl, rfl, rfl, (CHv.at Y hZ hEL H).trans ?_, fun z => ⟨State.WarmedH.trans Y.warmed (e5 z).1, fun y' b => ?_⟩⟩
    · have e4 : CHr Z EL A.U.vm A.U.heap t.vm t.heap := e3
      rw [hp.2.1] at e4; exact e4
    · have b1 : Bk Z EL A.U.vm A.U.heap y' := (e5 z).2 y' b
      rw [hp.2.1] at b1
      rcases (CHv.at Y hZ hEL H).2.2 y' b1 with q | q
      · exact q
      · obtain ⟨c0, hc0⟩ := Bk.there b1; exact absurd (Array.getElem?_eq_some_iff.mp hc0).1 (Nat.not_lt.mpr q)
/-- behind a call by such a contract -/
theorem Core.behind (C : Core p l e R s m args below meth c bs ml ret nm own Z a0 EL nw vm T h k n) {B : Pt} {L L' : List Loc} (X' : Stand p l e R ((s.setVm vm).setVm B.U.vm) m args below meth c B.U B.locs B.cells B.slots) (h2 : (s.setVm vm).Since B.U.vm B.U.heap.size) (N : Fr Z.heap.size L) (N' : Fr Z.heap.size L') (O : Ext Z.heap B.U.heap) (e1 : B.locs = L ++ L') (e2 : B.cells = k') (e3 : B.slots = n') (A : CHr Z EL vm h B.U.vm B.U.heap) (M : nw = true → (s.setVm vm).WarmedH B.U.vm ∧ ∀ y, Bk Z EL B.U.vm B.U.heap y → Bk Z EL vm h y) :
    Core p l e R s m args below meth c bs ml ret nm own Z a0 EL nw B.U.vm B.U B.U.heap k' n' := by
  subst e2 e3
  obtain ⟨k0, hS, hk⟩ := C.since
  obtain ⟨r1, r2, r3, r4⟩ := rebS hS hk X' h2 A.2.1 C.warm C.hown
  exact ⟨C.1, ⟨_, r1, e1 ▸ N.app N'⟩, rfl, r3, r4, ⟨_, r2, Nat.le_refl _⟩, C.chr.trans A, O, fun z => ⟨State.WarmedH.trans (C.nwm z).1 (M z).1, fun y b => (C.nwm z).2 y ((M z).2 y b)⟩⟩
theorem Core.special (C : Core p l e R s m args below meth c bs ml ret nm own Z a0 EL nw vm T h k n) {nw' : Bool} {y : MethodName} {ix : Nat} {bytes : ByteArray} {mx : Nat} {rm : Room} {xs : List Addr} {W : Nat} {a : Addr} {argsL st : List Value} {as' : Array Value} (hy1 : y.name = "<init>")
    (w1 : (Jvm.Cond.methodLink own ix y).before a0 Z = true) (w2 : (Jvm.Cond.instanceMethod y).before a0 Z = true) (w3 : (Jvm.Cond.code y bytes mx none).before a0 Z = true) (w4 : (Jvm.Cond.initialized y.cls).before a0 Z = true) (hy : y.cls ≠ "java/lang/invoke/MethodHandle" ∧ y.cls ≠ "java/lang/invoke/VarHandle")
    (hM : Met l Z EL nw' y bytes mx none [] rm as' h xs Q) (hnn : nw = true → nw' = true) (has : as' = (.ref a :: argsL).toArray) (hs : ∀ x ∈ xs, x < h.size ∧ Safe Z EL vm h x) (hf : rm.frames + 1 ≤ R.frames) (hl : W + (mx + 11) + rm.locals ≤ R.locals) (hk : k + rm.cells ≤ R.cells) (hn : n + rm.slots ≤ R.slots)
    (hlen : ∀ sig, parseMethodDescriptor y.desc = some sig → argsL.length = sig.parameters.length) (hst : st = argsL.reverse ++ .ref a :: rest) (hW : (rest.map fun v => v.category).sum ≤ W) (hsz : Ls.size = ml) (hd : decode bs pc = .ok (.invokespecial ix, 3)) (hp : pc + 3 = pc')
    (K : ∀ vm' T' h' v, Core p l e R s m args below meth c bs ml ret nm own Z a0 EL nw vm' T' h' (k + rm.cells) (n + rm.slots) → CHr Z EL vm h vm' h' → (nw' = true → ∀ y, Bk Z EL vm' h' y → Bk Z EL vm h y) → Q v h' → Endw p e below T' (mkF m pc' Ls (v.toList ++ rest)) F) : Endw p e below T (mkF m pc Ls st) F := by
  subst hp has
  obtain ⟨-, ⟨L, X, N⟩, -⟩ := id C
  obtain ⟨v, vm₁, B, -, X', h2, -, ⟨L', ⟨q1, q2, q3⟩, e1, e2, e3, A, M⟩, st'⟩ := X.specialBackS C.hx (y := y) hy1 C.hown (mvT C.warm w1) (mvT C.warm w2) (mvT C.warm w3) hy (backOwn (W := W) hM C.warm w3 w4 hf hl C.ew C.chv hs) (g := mkF m pc Ls st) rfl (hsz.trans C.mlq.symm) (Steps.refl _) (a := a) (argsL := argsL) (rest := rest) hlen hst (by show 2 * 0 + _ ≤ _; omega) (C.dec hd) (fun _ _ => ⟨rfl, C.heq, hk, hn⟩)
  exact Endw.ste st' (K _ _ _ v (C.behind X' h2 N q2 q3 e1 e2 e3 A (fun z => M (hnn z))) A (fun z => (M z).2) q1)
theorem Core.static (C : Core p l e R s m args below meth c bs ml ret nm own Z a0 EL nw vm T h k n) {nw' : Bool} {y : MethodName} {ix : Nat} {bytes : ByteArray} {mx : Nat} {rt : Option FieldType} {rm : Room} {xs : List Addr} {W : Nat} {argsL st : List Value} {as' : Array Value}
    (w1 : (Jvm.Cond.methodLink own ix y).before a0 Z = true) (w2 : (Jvm.Cond.static y).before a0 Z = true) (w3 : (Jvm.Cond.code y bytes mx rt).before a0 Z = true) (w4 : (Jvm.Cond.initialized y.cls).before a0 Z = true) (hy : y.cls ≠ "java/lang/invoke/MethodHandle" ∧ y.cls ≠ "java/lang/invoke/VarHandle")
    (hM : Met l Z EL nw' y bytes mx rt [] rm as' h xs Q) (hnn : nw = true → nw' = true) (has : as' = argsL.toArray) (hs : ∀ x ∈ xs, x < h.size ∧ Safe Z EL vm h x) (hf : rm.frames + 1 ≤ R.frames) (hl : W + (mx + 11) + rm.locals ≤ R.locals) (hk : k + rm.cells ≤ R.cells) (hn : n + rm.slots ≤ R.slots)
    (hlen : ∀ sig, parseMethodDescriptor y.desc = some sig → argsL.length = sig.parameters.length) (hst : st = argsL.reverse ++ rest) (hW : (rest.map fun v => v.category).sum ≤ W) (hsz : Ls.size = ml) (hd : decode bs pc = .ok (.invokestatic ix, 3)) (hp : pc + 3 = pc')
    (K : ∀ vm' T' h' v, Core p l e R s m args below meth c bs ml ret nm own Z a0 EL nw vm' T' h' (k + rm.cells) (n + rm.slots) → CHr Z EL vm h vm' h' → (nw' = true → ∀ y, Bk Z EL vm' h' y → Bk Z EL vm h y) → Q v h' → Endw p e below T' (mkF m pc' Ls (v.toList ++ rest)) F) : Endw p e below T (mkF m pc Ls st) F := by
  subst hp has
  obtain ⟨-, ⟨L, X, N⟩, -⟩ := id C
  obtain ⟨v, vm₁, B, -, X', h2, -, ⟨L', ⟨q1, q2, q3⟩, e1, e2, e3, A, M⟩, st'⟩ := RoadKit.callSS X C.hx (y := y) C.hown (mvT C.warm w1) (mvT C.warm w2) (mvT C.warm w4) (mvT C.warm w3) hy (backOwn (W := W) hM C.warm w3 w4 hf hl C.ew C.chv hs) (g := mkF m pc Ls st) rfl (hsz.trans C.mlq.symm) (argsL := argsL) (rest := rest) hlen hst (by show 2 * 0 + _ ≤ _; omega) (C.dec hd) (fun _ _ => ⟨rfl, C.heq, hk, hn⟩)
  exact Endw.ste st' (K _ _ _ v (C.behind X' h2 N q2 q3 e1 e2 e3 A (fun z => M (hnn z))) A (fun z => (M z).2) q1)
theorem Core.virtual (C : Core p l e R s m args below meth c bs ml ret nm own Z a0 EL nw vm T h k n) {nw' : Bool} {y z : MethodName} {Cl : String} {ix : Nat} {bytes : ByteArray} {mx : Nat} {rt : Option FieldType} {rm : Room} {xs : List Addr} {W : Nat} {a : Addr} {argsL st : List Value} {as' : Array Value}
    (w1 : (Jvm.Cond.methodLink own ix y).before a0 Z = true) (w2 : (Jvm.Cond.declares y).before a0 Z = true) (hnf : ∀ U : State, Z.Warmed39 U.vm → NotFace U y) (w5 : (Jvm.Cond.selects Cl y z).before a0 Z = true) (w6 : (Jvm.Cond.instanceMethod z).before a0 Z = true) (w3 : (Jvm.Cond.code z bytes mx rt).before a0 Z = true) (w4 : (Jvm.Cond.initialized z.cls).before a0 Z = true) (hy : y.cls ≠ "java/lang/invoke/MethodHandle" ∧ y.cls ≠ "java/lang/invoke/VarHandle")
    (hM : Met l Z EL nw' z bytes mx rt [] rm as' h xs Q) (hnn : nw = true → nw' = true) (has : as' = (.ref a :: argsL).toArray) (E : Exa Z h a Cl) (hs : ∀ x ∈ xs, x < h.size ∧ Safe Z EL vm h x) (hf : rm.frames + 1 ≤ R.frames) (hl : W + (mx + 11) + rm.locals ≤ R.locals) (hk : k + rm.cells ≤ R.cells) (hn : n + rm.slots ≤ R.slots)
    (hlen : ∀ sig, parseMethodDescriptor y.desc = some sig → argsL.length = sig.parameters.length) (hst : st = argsL.reverse ++ .ref a :: rest) (hW : (rest.map fun v => v.category).sum ≤ W) (hsz : Ls.size = ml) (hd : decode bs pc = .ok (.invokevirtual ix, 3)) (hp : pc + 3 = pc')
    (K : ∀ vm' T' h' v, Core p l e R s m args below meth c bs ml ret nm own Z a0 EL nw vm' T' h' (k + rm.cells) (n + rm.slots) → CHr Z EL vm h vm' h' → (nw' = true → ∀ y, Bk Z EL vm' h' y → Bk Z EL vm h y) → Q v h' → Endw p e below T' (mkF m pc' Ls (v.toList ++ rest)) F) : Endw p e below T (mkF m pc Ls st) F := by
  subst hp has
  obtain ⟨-, ⟨L, X, N⟩, -⟩ := id C
  obtain ⟨cq, kq, qa, qb, qc⟩ := isOf (s := s.setVm vm) C.warm C.heq E
  obtain ⟨v, vm₁, B, -, X', h2, -, ⟨L', ⟨q1, q2, q3⟩, e1, e2, e3, A, M⟩, st'⟩ := X.virtualBackS C.hx (y := y) (z := z) C.hown (mvT C.warm w1) (mvT C.warm w2) (hnf _ (show Z.Warmed39 (s.setVm vm).vm from C.warm)) (mvT C.warm w5) (mvT C.warm w6) hy (backOwn (W := W) hM C.warm w3 w4 hf hl C.ew C.chv hs) qa qc (g := mkF m pc Ls st) rfl (hsz.trans C.mlq.symm) (Steps.refl _) (argsL := argsL) (rest := rest) hlen hst (by show 2 * 0 + _ ≤ _; omega) (C.dec hd) (fun _ _ => ⟨rfl, C.heq, hk, hn⟩)
  exact Endw.ste st' (K _ _ _ v (C.behind X' h2 N q2 q3 e1 e2 e3 A (fun z => M (hnn z))) A (fun z => (M z).2) q1)
/-! ## calls by a law of the library's (it interns nothing) -/
theorem Core.behindF (C : Core p l e R s m args below meth c bs ml ret nm own Z a0 EL nw vm T h k n) {B : Pt} {L L' : List Loc} {ws : List Addr} (X' : Stand p l e R (s.setVm vm) m args below meth c B.U B.locs B.cells B.slots) (N : Fr Z.heap.size L) (N' : Fr Z.heap.size L') (K : Keep h B.U.heap ws) (ge : ∀ x ∈ ws, Z.heap.size ≤ x) (S : ∀ x ∈ ws, Safe Z EL vm h x) (e1 : B.locs = L ++ L') (e2 : B.cells = k') (e3 : B.slots = n') :
    Core p l e R s m args below meth c bs ml ret nm own Z a0 EL nw vm B.U B.U.heap k' n' := by
  subst e2 e3
  exact C.on X' (e1 ▸ N.app N') rfl K ge S
theorem Core.specialF (C : Core p l e R s m args below meth c bs ml ret nm own Z a0 EL nw vm T h k n) {y : MethodName} {ix : Nat} {bytes : ByteArray} {mx ck cn : Nat} {ws : List Addr} {W : Nat} {a : Addr} {argsL st : List Value} {as' : Array Value} {Qf : Option Value → Heap → List Loc → Prop} (hy1 : y.name = "<init>")
    (w1 : (Jvm.Cond.methodLink own ix y).before a0 Z = true) (w2 : (Jvm.Cond.instanceMethod y).before a0 Z = true) (w3 : (Jvm.Cond.code y bytes mx none).before a0 Z = true) (hy : y.cls ≠ "java/lang/invoke/MethodHandle" ∧ y.cls ≠ "java/lang/invoke/VarHandle")
    (hK : Back l R p e below (s.setVm vm) args y 3 W (fun P a => a = as' ∧ P.U.heap = h ∧ P.cells + ck ≤ R.cells ∧ P.slots + cn ≤ R.slots) (fun P _ v B => ∃ L, Qf v B.U.heap L ∧ B.locs = P.locs ++ L ∧ B.cells = P.cells + ck ∧ B.slots = P.slots + cn))
    (hQ : ∀ v h' L, Qf v h' L → Fr Z.heap.size L ∧ Keep h h' ws) (ge : ∀ x ∈ ws, Z.heap.size ≤ x) (S : ∀ x ∈ ws, Safe Z EL vm h x) (has : as' = (.ref a :: argsL).toArray) (hk : k + ck ≤ R.cells) (hn : n + cn ≤ R.slots)
    (hlen : ∀ sig, parseMethodDescriptor y.desc = some sig → argsL.length = sig.parameters.length) (hst : st = argsL.reverse ++ .ref a :: rest) (hW : (rest.map fun v => v.category).sum ≤ W) (hsz : Ls.size = ml) (hd : decode bs pc = .ok (.invokespecial ix, 3)) (hp : pc + 3 = pc')
    (K : ∀ T' h' v, Core p l e R s m args below meth c bs ml ret nm own Z a0 EL nw vm T' h' (k + ck) (n + cn) → Keep h h' ws → CHr Z EL vm h vm h' → (∃ L, Qf v h' L) → Endw p e below T' (mkF m pc' Ls (v.toList ++ rest)) F) : Endw p e below T (mkF m pc Ls st) F := by
  subst hp has
  obtain ⟨-, ⟨L, X, N⟩, -⟩ := id C
  obtain ⟨v, vm₁, B, -, X', ⟨L', q1, e1, e2, e3⟩, st'⟩ := X.specialBack C.hx (y := y) hy1 C.hown (mvT C.warm w1) (mvT C.warm w2) (mvT C.warm w3) hy hK (g := mkF m pc Ls st) rfl (hsz.trans C.mlq.symm) (Steps.refl _) (a := a) (argsL := argsL) (rest := rest) hlen hst (by show 2 * 0 + _ ≤ _; omega) (C.dec hd) (fun _ _ => ⟨rfl, C.heq, hk, hn⟩)
  obtain ⟨r1, r2⟩ := hQ _ _ _ q1
  exact Endw.ste st' (K _ _ v (C.behindF X' N r1 r2 ge S e1 e2 e3) r2 (CHr.keep r2 S C.chv) ⟨_, q1⟩)
theorem Core.staticF (C : Core p l e R s m args below meth c bs ml ret nm own Z a0 EL nw vm T h k n) {y : MethodName} {ix : Nat} {bytes : ByteArray} {mx ck cn : Nat} {rt : Option FieldType} {ws : List Addr} {W : Nat} {argsL st : List Value} {as' : Array Value} {Qf : Option Value → Heap → List Loc → Prop}
    (w1 : (Jvm.Cond.methodLink own ix y).before a0 Z = true) (w2 : (Jvm.Cond.static y).before a0 Z = true) (w3 : (Jvm.Cond.code y bytes mx rt).before a0 Z = true) (w4 : (Jvm.Cond.initialized y.cls).before a0 Z = true) (hy : y.cls ≠ "java/lang/invoke/MethodHandle" ∧ y.cls ≠ "java/lang/invoke/VarHandle")
    (hK : Back l R p e below (s.setVm vm) args y 3 W (fun P a => a = as' ∧ P.U.heap = h ∧ P.cells + ck ≤ R.cells ∧ P.slots + cn ≤ R.slots) (fun P _ v B => ∃ L, Qf v B.U.heap L ∧ B.locs = P.locs ++ L ∧ B.cells = P.cells + ck ∧ B.slots = P.slots + cn))
    (hQ : ∀ v h' L, Qf v h' L → Fr Z.heap.size L ∧ Keep h h' ws) (ge : ∀ x ∈ ws, Z.heap.size ≤ x) (S : ∀ x ∈ ws, Safe Z EL vm h x) (has : as' = argsL.toArray) (hk : k + ck ≤ R.cells) (hn : n + cn ≤ R.slots)
    (hlen : ∀ sig, parseMethodDescriptor y.desc = some sig → argsL.length = sig.parameters.length) (hst : st = argsL.reverse ++ rest) (hW : (rest.map fun v => v.category).sum ≤ W) (hsz : Ls.size = ml) (hd : decode bs pc = .ok (.invokestatic ix, 3)) (hp : pc + 3 = pc')
    (K : ∀ T' h' v, Core p l e R s m args below meth c bs ml ret nm own Z a0 EL nw vm T' h' (k + ck) (n + cn) → Keep h h' ws → CHr Z EL vm h vm h' → (∃ L, Qf v h' L) → Endw p e below T' (mkF m pc' Ls (v.toList ++ rest)) F) : Endw p e below T (mkF m pc Ls st) F := by
  subst hp has
  obtain ⟨-, ⟨L, X, N⟩, -⟩ := id C
  obtain ⟨v, vm₁, B, -, X', ⟨L', q1, e1, e2, e3⟩, st'⟩ := Jvm.LawKit.callS X C.hx (y := y) C.hown (mvT C.warm w1) (mvT C.warm w2) (mvT C.warm w4) (mvT C.warm w3) hy hK (g := mkF m pc Ls st) rfl (hsz.trans C.mlq.symm) (argsL := argsL) (rest := rest) hlen hst (by show 2 * 0 + _ ≤ _; omega) (C.dec hd) (fun _ _ => ⟨rfl, C.heq, hk, hn⟩)
  obtain ⟨r1, r2⟩ := hQ _ _ _ q1
  exact Endw.st st' (K _ _ v (C.behindF X' N r1 r2 ge S e1 e2 e3) r2 (CHr.keep r2 S C.chv) ⟨_, q1⟩)
theorem Core.virtualF (C : Core p l e R s m args below meth c bs ml ret nm own Z a0 EL nw vm T h k n) {y z : MethodName} {Cl : String} {ix ck cn : Nat} {ws : List Addr} {W : Nat} {a : Addr} {argsL st : List Value} {as' : Array Value} {Qf : Option Value → Heap → List Loc → Prop}
    (w1 : (Jvm.Cond.methodLink own ix y).before a0 Z = true) (w2 : (Jvm.Cond.declares y).before a0 Z = true) (hnf : ∀ U : State, Z.Warmed39 U.vm → NotFace U y) (w5 : (Jvm.Cond.selects Cl y z).before a0 Z = true) (w6 : (Jvm.Cond.instanceMethod z).before a0 Z = true) (hy : y.cls ≠ "java/lang/invoke/MethodHandle" ∧ y.cls ≠ "java/lang/invoke/VarHandle")
    (hK : Back l R p e below (s.setVm vm) args z 3 W (fun P a => a = as' ∧ P.U.heap = h ∧ P.cells + ck ≤ R.cells ∧ P.slots + cn ≤ R.slots) (fun P _ v B => ∃ L, Qf v B.U.heap L ∧ B.locs = P.locs ++ L ∧ B.cells = P.cells + ck ∧ B.slots = P.slots + cn))
    (hQ : ∀ v h' L, Qf v h' L → Fr Z.heap.size L ∧ Keep h h' ws) (ge : ∀ x ∈ ws, Z.heap.size ≤ x) (S : ∀ x ∈ ws, Safe Z EL vm h x) (has : as' = (.ref a :: argsL).toArray) (E : Exa Z h a Cl) (hk : k + ck ≤ R.cells) (hn : n + cn ≤ R.slots)
    (hlen : ∀ sig, parseMethodDescriptor y.desc = some sig → argsL.length = sig.parameters.length) (hst : st = argsL.reverse ++ .ref a :: rest) (hW : (rest.map fun v => v.category).sum ≤ W) (hsz : Ls.size = ml) (hd : decode bs pc = .ok (.invokevirtual ix, 3)) (hp : pc + 3 = pc')
    (K : ∀ T' h' v, Core p l e R s m args below meth c bs ml ret nm own Z a0 EL nw vm T' h' (k + ck) (n + cn) → Keep h h' ws → CHr Z EL vm h vm h' → (∃ L, Qf v h' L) → Endw p e below T' (mkF m pc' Ls (v.toList ++ rest)) F) : Endw p e below T (mkF m pc Ls st) F := by
  subst hp has
  obtain ⟨-, ⟨L, X, N⟩, -⟩ := id C
  obtain ⟨cq, kq, qa, qb, qc⟩ := isOf (s := s.setVm vm) C.warm C.heq E
  obtain ⟨v, vm₁, B, -, X', ⟨L', q1, e1, e2, e3⟩, st'⟩ := X.virtualBack C.hx (y := y) (z := z) C.hown (mvT C.warm w1) (mvT C.warm w2) (hnf _ (show Z.Warmed39 (s.setVm vm).vm from C.warm)) (mvT C.warm w5) (mvT C.warm w6) hy hK qa qc (g := mkF m pc Ls st) rfl (hsz.trans C.mlq.symm) (Steps.refl _) (argsL := argsL) (rest := rest) hlen hst (by show 2 * 0 + _ ≤ _; omega) (C.dec hd) (fun _ _ => ⟨rfl, C.heq, hk, hn⟩)
  obtain ⟨r1, r2⟩ := hQ _ _ _ q1
  exact Endw.ste st' (K _ _ v (C.behindF X' N r1 r2 ge S e1 e2 e3) r2 (CHr.keep r2 S C.chv) ⟨_, q1⟩)
/-! ## the head and the end of a body -/
theorem Met.of {y : MethodName} {bytes : ByteArray} {mx : Nat} {rt : Option FieldType} {ws : List Jvm.Cond} {rm : Room} {as' : Array Value} {xs : List Addr} (hy : plainFor y = true) (hEL : EW Z a0 EL) (O : Ext Z.heap h)
    (body : ∀ p e s m below meth c T, Core p l e rm s m as' below meth c bytes mx rt y.name y.cls Z a0 EL nw s.vm T h 0 0 → (∀ x ∈ xs, Safe Z EL s.vm h x) → Endw p e below T (entryFrame m as' mx) (Fin s Z EL nw Q rm.cells rm.slots)) :
    Met l Z EL nw y bytes mx rt ws rm as' h xs Q := by
  refine MetFree.of_bodySF hy hisR ?_
  intro p e s m args below meth c s₁ Bd hml hP hK
  obtain ⟨rfl, hZ, hh, hC, hS⟩ := hP
  have X0 : Stand p l e rm s m args below meth c s₁ [] 0 0 := Stand.of_body Bd
  have e0 : s₁.heap = h := by rw [← hh, Bd.state]; rfl
  have hC' : CHv Z EL s.vm s.heap := by rw [hh]; exact hC
  refine body p e s m below meth c s₁ ⟨⟨Bd.exec, Bd.bytes, hml, Bd.returns, BodyLoose.notSynchronized Bd, (name_of_methodNamed Bd.named Bd.method).1, hEL⟩, ⟨[], X0, Fr.nil _⟩, e0, hZ, findClass_of_methodNamed Bd.named, ⟨s.heap.size, (State.WarmedH.refl s).since _, by rw [hh]; exact Nat.le_refl _⟩, ?_, O, fun _ => ⟨State.WarmedH.refl s, fun y b => by rw [hh]; exact b⟩⟩ hS
  rw [← hh]; exact CHr.refl hC'
theorem Core.leave (C : Core p l e R s m args below meth c bs ml ret nm own Z a0 EL nw vm T h k n) {K N : Nat} {v : Option Value} (hv : ret = none → v = none) (hk : k ≤ K) (hn : n ≤ N) (q : Q v h) (st : ∀ {L : List Loc} {vm' : Vm}, Stand p l e R (s.setVm vm') m args below meth c T L k n → ∀ fs, (∀ (f : JFrame) (acts : List Action), f.method = m → f.locked = none → f.entered = [] → (doReturn e (T.setTop f) acts v).1 = T.setFrames fs) → Steps p.tables e below (T.setTop g) (T.setFrames fs)) :
    Endw p e below T g (Fin s Z EL nw Q K N) := by
  obtain ⟨-, ⟨L, X, NL⟩, -⟩ := id C
  obtain ⟨k0, hS, hk0⟩ := C.since
  have hk1 : k0 ≤ T.heap.size := by rw [C.heq]; exact hk0
  obtain ⟨fs, h1, h2, h3, h4, h5, h6, h7⟩ := X.leaveW hS hk1 (v := v) (fun hr => hv (C.rtq.symm.trans hr)) C.locks
  have e1 : (T.setFrames fs).heap = h := C.heq
  refine ⟨_, _, st X fs h1, h2, h3, v, L, rfl, ⟨by rw [e1]; exact q, NL, by rw [e1]; exact C.old⟩, ⟨?_, fun z => ⟨State.WarmedH.trans (C.nwm z).1 X.warmed, fun y b => ?_⟩⟩, h4, h5, h6, h7.mono hk hn⟩
  · have A := C.chr.trans (CHv.at X C.warm C.ew C.chv)
    rw [e1]; exact A
  · rw [e1] at b
    have b1 : Bk Z EL T.vm h y := b
    rcases (CHv.at X C.warm C.ew C.chv).2.2 y b1 with q1 | q1
    · exact (C.nwm z).2 y q1
    · obtain ⟨c0, hc0⟩ := Bk.there b1; exact absurd (Array.getElem?_eq_some_iff.mp hc0).1 (Nat.not_lt.mpr q1)
theorem Core.retV (C : Core p l e R s m args below meth c bs ml none nm own Z a0 EL nw vm T h k n) {K N : Nat} (hd : decode bs pc = .ok (.return_, 1)) (hk : k ≤ K) (hn : n ≤ N) (q : Q none h) : Endw p e below T (mkF m pc Ls []) (Fin s Z EL nw Q K N) :=
  C.leave (fun _ => rfl) hk hn q fun X fs hl => X.returnOut C.hx C.rtq (C.dec hd) hl
theorem Core.retX (C : Core p l e R s m args below meth c bs ml ret nm own Z a0 EL nw vm T h k n) {K N : Nat} {t : FieldType} {w : Value} {i : Instr} (hr : ret = some t) (hn' : narrow t w = w) (hi : (i = .ireturn ∧ (t = .int ∨ t = .boolean ∨ t = .byte ∨ t = .char ∨ t = .short) ∧ ∃ z, w = .int z) ∨ (i = .lreturn ∧ t = .long ∧ ∃ z, w = .long z) ∨ (i = .dreturn ∧ t = .double ∧ ∃ z, w = .double z) ∨ (i = .freturn ∧ t = .float ∧ ∃ z, w = .float z) ∨ (i = .areturn ∧ t.isReference = true ∧ w.isRef = true))
    (hd : decode bs pc = .ok (i, 1)) (hk : k ≤ K) (hn : n ≤ N) (q : Q (some w) h) : Endw p e below T (mkF m pc Ls (w :: rest)) (Fin s Z EL nw Q K N) :=
  C.leave (fun z => by subst hr; cases z) hk hn q fun X fs hl => RoadKit.retOut X C.hx (C.rtq.trans hr) hn' hi (C.dec hd) hl
theorem Core.retI (C : Core p l e R s m args below meth c bs ml ret nm own Z a0 EL nw vm T h k n) {K N : Nat} {t : FieldType} {z : Int32} (hr : ret = some t) (ht : t = .int ∨ t = .boolean ∨ t = .byte ∨ t = .char ∨ t = .short) (hn' : narrow t (.int z) = .int z) (hd : decode bs pc = .ok (.ireturn, 1)) (hk : k ≤ K) (hn : n ≤ N) (q : Q (some (.int z)) h) : Endw p e below T (mkF m pc Ls (.int z :: rest)) (Fin s Z EL nw Q K N) :=
  C.retX hr hn' (Or.inl ⟨rfl, ht, _, rfl⟩) hd hk hn q
theorem Core.retA (C : Core p l e R s m args below meth c bs ml ret nm own Z a0 EL nw vm T h k n) {K N : Nat} {t : FieldType} {w : Value} (hr : ret = some t) (ht : t.isReference = true) (hw : w.isRef = true) (hn' : narrow t w = w) (hd : decode bs pc = .ok (.areturn, 1)) (hk : k ≤ K) (hn : n ≤ N) (q : Q (some w) h) : Endw p e below T (mkF m pc Ls (w :: rest)) (Fin s Z EL nw Q K N) :=
  C.retX hr hn' (Or.inr (Or.inr (Or.inr (Or.inr ⟨rfl, ht, hw⟩)))) hd hk hn q
/-! ## String constants -/
theorem Core.ldcC (C : Core p l e R s m args below meth c bs ml ret nm own Z a0 EL nw vm T h k n) {text : String} {ix N : Nat} {vs : List Value} {z : Int32} (w : (Jvm.Cond.stringLink own ix text).before a0 Z = true) (wS : ∀ a ∈ Bundle.stringAtoms, a.before a0 Z = true) (hmem : (own, ix) ∈ EL) (ht : (∀ c ∈ text.toList, c.toNat < 256) ∧ text.toList.map (fun c => Value.int (Jvm.Lit.byteI c.toNat.toUInt16)) = vs) (hz : ¬ z < 0) (hl : z.toNatClampNeg = vs.length)
    (hN : 4 * text.toList.length ≤ N) (hbig : N ≤ 536870912) (hk : k + 2 ≤ R.cells) (hn : n + (N + 4) ≤ R.slots) (hd : decode bs pc = .ok (.ldc ix, 2)) (hp : pc + 2 = pc') (hnw : nw = false)
    (K : ∀ vm' T' h' a b kA, Core p l e R s m args below meth c bs ml ret nm own Z a0 EL nw vm' T' h' (k + 2) (n + (N + 4)) → Keep h h' [] → CHr Z EL vm h vm' h' → Exa Z h' a "java/lang/String" → Fld Z h' a "java/lang/String" "coder" "B" (.int 0) → Fld Z h' a "java/lang/String" "value" "[B" (.ref b) → Arv Z h' b kA .byte z vs (.int 0) → (∀ x, Safe Z EL vm' h' x → x ≠ a ∧ x ≠ b) → Endw p e below T' (mkF m pc' Ls (.ref a :: rest)) F) : Endw p e below T (mkF m pc Ls rest) F := by
  subst hp
  obtain ⟨-, ⟨L, X, NL⟩, -⟩ := id C
  obtain ⟨k0, hS, hk0⟩ := C.since
  obtain ⟨a, T', h', k1, b, kA, X', e', E, hS', hk1, hZ', hown', r1, r2, r3, r4, -, -, A, -, r5, st⟩ := RoadKit.ldcCH X C.hx C.warm C.hown w wS C.heq hS hk0 C.ew hmem C.chv ht hz hl (g := mkF m pc Ls rest) rfl (C.dec hd) hN hbig hk hn
  exact Endw.st st (K T'.vm T' h' a b kA ⟨C.1, ⟨L, X', NL⟩, e', hZ', hown', ⟨k1, hS', hk1⟩, C.chr.trans A, old_keep C.old (keep_of_ext E) all0, fun z => by rw [hnw] at z; cases z⟩ (keep_of_ext E) A r1 r2 r3 r4 r5)
theorem Core.ldcO (C : Core p l e R s m args below meth c bs ml ret nm own Z a0 EL nw vm T h k n) {text : String} {ix N : Nat} (w : (Jvm.Cond.stringLink own ix text).before a0 Z = true) (wS : ∀ a ∈ Bundle.stringAtoms, a.before a0 Z = true)
    (hN : 4 * text.toList.length ≤ N) (hbig : N ≤ 536870912) (hk : k + 2 ≤ R.cells) (hn : n + (N + 4) ≤ R.slots) (hd : decode bs pc = .ok (.ldc ix, 2)) (hp : pc + 2 = pc') (hnw : nw = false)
    (K : ∀ vm' T' h' a, Core p l e R s m args below meth c bs ml ret nm own Z a0 EL nw vm' T' h' (k + 2) (n + (N + 4)) → Keep h h' [] → CHr Z EL vm h vm' h' → Endw p e below T' (mkF m pc' Ls (.ref a :: rest)) F) : Endw p e below T (mkF m pc Ls rest) F := by
  subst hp
  obtain ⟨-, ⟨L, X, NL⟩, -⟩ := id C
  obtain ⟨k0, hS, hk0⟩ := C.since
  obtain ⟨a, T', h', k1, X', e', E, hS', hk1, hZ', hown', A, -, st⟩ := RoadKit.ldcOH X C.hx C.warm C.hown w wS C.heq hS hk0 C.ew C.chv (g := mkF m pc Ls rest) rfl (C.dec hd) hN hbig hk hn
  exact Endw.st st (K T'.vm T' h' a ⟨C.1, ⟨L, X', NL⟩, e', hZ', hown', ⟨k1, hS', hk1⟩, C.chr.trans A, old_keep C.old (keep_of_ext E) all0, fun z => by rw [hnw] at z; cases z⟩ (keep_of_ext E) A)
end Walk
end Jvm.Own
namespace Jvm.Own
open Jvm Jvm.ClassFile Sem Op Lib Jvm.Free Jvm.Stand Jvm.LawKit Jvm.RoadKit Bundle
section Help
variable {p : Program} {l : Launch} {e : Env} {R : Room} {s : State} {m : MethodId} {args : Array Value} {below : List Frame} {meth : Method} {c : Code}
variable {bs : ByteArray} {ml : Nat} {ret : Option FieldType} {nm own : String} {Z : State} {a0 : Array Value} {EL : List (String × Nat)} {nw : Bool} {vm : Vm} {T T' : State} {h h' : Heap} {k n : Nat} {g : JFrame} {rest : List Value}
theorem own_irem (C : Core p l e R s m args below meth c bs ml ret nm own Z a0 EL nw vm T h k n) {x y : Int32} {target : State} (hg : g.method = m) (hd : decode bs g.pc = .ok (.irem, 1)) (hs : g.stack = .int y :: .int x :: rest) (hy : y ≠ 0) (hr : Steps p.tables e below (T.setTop { g with pc := g.pc + 1, stack := .int (x % y) :: rest }) target) : Steps p.tables e below (T.setTop g) target := by
  obtain ⟨-, ⟨L, X, -⟩, -⟩ := id C
  exact iremM X C.hx hg (C.dec hd) hs hy hr
theorem own_ldcI (C : Core p l e R s m args below meth c bs ml ret nm own Z a0 EL nw vm T h k n) {ix : Nat} {v : Int32} {target : State} (w : (Jvm.Cond.constant own ix v).before a0 Z = true) (hg : g.method = m) (hd : decode bs g.pc = .ok (.ldc ix, 2)) (hr : Steps p.tables e below (T.setTop { g with pc := g.pc + 2, stack := .int v :: g.stack }) target) : Steps p.tables e below (T.setTop g) target := by
  obtain ⟨-, ⟨L, X, -⟩, -⟩ := id C
  exact X.ldcI C.hx C.hown (mvT C.warm w) hg (C.dec hd) hr
theorem own_nar_mask {x : Int32} : nar .char ((x &&& 255).toUInt32.toUInt16.toUInt32.toInt32) = x &&& 255 := by
  show ((x &&& 255).toUInt32.toUInt16.toUInt32.toInt32).toUInt32.toUInt16.toUInt32.toInt32 = _
  rw [i2c_mask, i2c_mask]
theorem own_toInt {y : Int32} (h : y.toBitVec.toNat < 2147483648) : y.toInt = (y.toBitVec.toNat : Int) := by
  have : y.toInt = y.toBitVec.toInt := rfl
  rw [this, BitVec.toInt_eq_toNat_cond, if_pos (by omega)]
theorem own_and_nat (x m : Int32) : (x &&& m).toBitVec.toNat = x.toBitVec.toNat &&& m.toBitVec.toNat := by simp [Int32.toBitVec_and, BitVec.toNat_and]
theorem own_cI (x : Int32) : (Value.int x).category = 1 := rfl
theorem own_cR (x : Addr) : (Value.ref x).category = 1 := rfl
theorem own_cN : Value.null.category = 1 := rfl
theorem own_cJ (x : Int64) : (Value.long x).category = 2 := rfl
theorem own_cD (x : UInt64) : (Value.double x).category = 2 := rfl
/-- a char of one byte -/
def B8 (c : Int32) : Prop := ¬ c < 0 ∧ ¬ (255 : Int32) < c
theorem own_mask255 (x : Int32) : B8 (x &&& 255) := by
  have e : (x &&& 255).toBitVec.toNat ≤ 255 := by rw [own_and_nat]; exact Nat.and_le_right
  have q := own_toInt (y := x &&& 255) (by omega)
  refine ⟨?_, ?_⟩ <;> rw [Int32.lt_iff_toInt_lt, q]
  · show ¬ (_ < (0 : Int)); omega
  · show ¬ ((255 : Int) < _); omega
theorem own_b16 {c : Int32} (h : B8 c) : ¬ c < 0 ∧ ¬ (65535 : Int32) < c := by
  refine ⟨h.1, fun q => h.2 ?_⟩
  rw [Int32.lt_iff_toInt_lt] at q ⊢
  have e1 : (65535 : Int32).toInt = 65535 := rfl
  have e2 : (255 : Int32).toInt = 255 := rfl
  omega
theorem own_c0 {P : Int32 → Prop} : ∀ c ∈ ([] : List Int32), P c := fun _ q => nomatch q
theorem own_cS {P : Int32 → Prop} {y : Int32} {L : List Int32} (q : P y) (r : ∀ c ∈ L, P c) : ∀ c ∈ y :: L, P c := fun x z => (List.mem_cons.mp z).elim (fun u => u ▸ q) (r x)
theorem own_nar_ref {v : Value} {t : FieldType} (h : v.isRef = true) (ht : t.isReference = true := by rfl) : narrow t v = v := by
  cases v <;> cases t <;> first | rfl | (cases h; done) | (cases ht; done)
theorem own_fits_ref {v : Value} {t : FieldType} (h : v.isRef = true) (ht : t.isReference = true := by rfl) : fits t v = true := by
  cases v <;> cases t <;> first | rfl | (cases h; done) | (cases ht; done)
theorem own_nar_byte {x : Int32} : nar .byte (x.toInt8.toInt32) = x.toInt8.toInt32 := by
  show (x.toInt8.toInt32).toInt8.toInt32 = _
  simp
theorem own_eqInt {args : Array Value} {first s : State} {o : Option Outcome} {idx : List Nat} {t : Term} {n : Int32} (h : (Jvm.Cond.eq t (Term.int n)).value args first o s idx = some true) : t.eval args first o idx s = some (.int n) := by
  simp only [Cond.value, Term.eval] at h
  cases ht : t.eval args first o idx s with
  | none => simp [ht] at h
  | some x => cases x <;> simp_all
/-- the bytes of a Latin-1 text -/
def bys (cs : List Int32) : List Value := (cs.map fun c => c.toInt8.toInt32).map Value.int
/-- the String at a: Latin-1, its byte[] at b, its chars cs -/
def Str (Z : State) (h : Heap) (a b : Addr) (kb : ClassId) (cs : List Int32) : Prop :=
  Exa Z h a "java/lang/String" ∧ Fld Z h a "java/lang/String" "coder" "B" (.int 0) ∧ Fld Z h a "java/lang/String" "value" "[B" (.ref b) ∧
    Arv Z h b kb .byte (Int32.ofNat cs.length) (bys cs) (.int 0) ∧ (∀ c ∈ cs, B8 c) ∧ cs.length ≤ 4000
theorem Str.keep {a b : Addr} {kb : ClassId} {cs : List Int32} {ws : List Addr} (S : Str Z h a b kb cs) (K : Keep h h' ws) (q1 : a ∉ ws) (q2 : b ∉ ws) : Str Z h' a b kb cs :=
  ⟨S.1.keep K, S.2.1.keep K q1, S.2.2.1.keep K q1, S.2.2.2.1.keep K q2, S.2.2.2.2⟩
theorem own_instanceofNull (C : Core p l e R s m args below meth c bs ml ret nm own Z a0 EL nw vm T h k n) {ix : Nat} {target : State} (hg : g.method = m) (hs : g.stack = .null :: rest) (hd : decode bs g.pc = .ok (.instanceof ix, 3)) (hr : Steps p.tables e below (T.setTop { g with pc := g.pc + 3, stack := .int 0 :: rest }) target) : Steps p.tables e below (T.setTop g) target := by
  obtain ⟨-, ⟨L, X, -⟩, -⟩ := id C
  exact X.instanceofNull C.hx hg hs (C.dec hd) _ hr
theorem own_checkcastNull (C : Core p l e R s m args below meth c bs ml ret nm own Z a0 EL nw vm T h k n) {ix : Nat} {target : State} (hg : g.method = m) (hs : g.stack = .null :: rest) (hd : decode bs g.pc = .ok (.checkcast ix, 3)) (hr : Steps p.tables e below (T.setTop { g with pc := g.pc + 3 }) target) : Steps p.tables e below (T.setTop g) target := by
  obtain ⟨-, ⟨L, X, -⟩, -⟩ := id C
  exact X.checkcastNull C.hx hg hs (C.dec hd) _ hr
theorem own_ldc2J (C : Core p l e R s m args below meth c bs ml ret nm own Z a0 EL nw vm T h k n) {ix : Nat} {v : Int64} {target : State} (w : (Jvm.Cond.constantLong own ix v).before a0 Z = true) (hg : g.method = m) (hd : decode bs g.pc = .ok (.ldc2_w ix, 3)) (hr : Steps p.tables e below (T.setTop { g with pc := g.pc + 3, stack := .long v :: g.stack }) target) : Steps p.tables e below (T.setTop g) target := by
  obtain ⟨-, ⟨L, X, -⟩, -⟩ := id C
  exact X.ldc2J C.hx C.hown (mvT C.warm w) hg (C.dec hd) hr
variable {F : Outcome → State → Prop} {pc pc' : Nat} {Ls : Array Slot}
theorem Core.instY (C : Core p l e R s m args below meth c bs ml ret nm own Z a0 EL nw vm T h k n) {K : String} {ix : Nat} {a : Addr} (w : (Jvm.Cond.classLink own ix K).before a0 Z = true) (f : Ins Z h a K true) (hd : decode bs pc = .ok (.instanceof ix, 3)) (hp : pc + 3 = pc')
    (Kk : ∀ T', Core p l e R s m args below meth c bs ml ret nm own Z a0 EL nw vm T' h k n → Endw p e below T' (mkF m pc' Ls (.int 1 :: rest)) F) : Endw p e below T (mkF m pc Ls (.ref a :: rest)) F := by
  subst hp
  obtain ⟨-, ⟨L, X, N⟩, -⟩ := id C
  obtain ⟨T', X', e', st⟩ := RoadKit.instY X C.hx C.warm C.hown w C.heq f (g := mkF m pc Ls (.ref a :: rest)) rfl rfl (C.dec hd)
  exact Endw.st st (Kk T' (C.same X' N e'))
theorem Core.castY (C : Core p l e R s m args below meth c bs ml ret nm own Z a0 EL nw vm T h k n) {K : String} {ix : Nat} {a : Addr} (w : (Jvm.Cond.classLink own ix K).before a0 Z = true) (f : Ins Z h a K true) (hd : decode bs pc = .ok (.checkcast ix, 3)) (hp : pc + 3 = pc')
    (Kk : ∀ T', Core p l e R s m args below meth c bs ml ret nm own Z a0 EL nw vm T' h k n → Endw p e below T' (mkF m pc' Ls (.ref a :: rest)) F) : Endw p e below T (mkF m pc Ls (.ref a :: rest)) F := by
  subst hp
  obtain ⟨-, ⟨L, X, N⟩, -⟩ := id C
  obtain ⟨T', X', e', st⟩ := RoadKit.castY X C.hx C.warm C.hown w C.heq f (g := mkF m pc Ls (.ref a :: rest)) rfl rfl (C.dec hd)
  exact Endw.st st (Kk T' (C.same X' N e'))
theorem Core.instNo (C : Core p l e R s m args below meth c bs ml ret nm own Z a0 EL nw vm T h k n) {K Cl : String} {ix : Nat} {a : Addr} (w : (Jvm.Cond.classLink own ix K).before a0 Z = true) (E : Exa Z h a Cl) (f : ∃ c t, Z.vm.findClass Cl = some c ∧ Z.vm.findClass K = some t ∧ Z.vm.assignable c t = false) (hd : decode bs pc = .ok (.instanceof ix, 3)) (hp : pc + 3 = pc')
    (Kk : ∀ T', Core p l e R s m args below meth c bs ml ret nm own Z a0 EL nw vm T' h k n → Endw p e below T' (mkF m pc' Ls (.int 0 :: rest)) F) : Endw p e below T (mkF m pc Ls (.ref a :: rest)) F := by
  subst hp
  obtain ⟨-, ⟨L, X, N⟩, -⟩ := id C
  obtain ⟨T', X', e', st⟩ := RoadKit.instNo X C.hx C.warm C.hown w C.heq E f (g := mkF m pc Ls (.ref a :: rest)) rfl rfl (C.dec hd)
  exact Endw.st st (Kk T' (C.same X' N e'))
theorem own_found {K : String} {i : Nat} (wk : (Jvm.Cond.instantiable K i).before a0 Z = true) : ∃ t kt, Z.vm.findClass K = some t ∧ Z.vm.classes[t]? = some kt ∧ kt.kind = .ordinary ∧ kt.isInterface = false := by
  obtain ⟨t, kt, h1, h2, h3, h4, -⟩ := Cond.instantiable_spec wk
  exact ⟨t, kt, h1, h2, h3, (Bool.or_eq_false_iff.mp h4).1⟩
theorem own_NSroot {O K : String} {i : Nat} (w : (Jvm.Cond.noSuperclass O).before a0 Z = true) (wk : (Jvm.Cond.instantiable K i).before a0 Z = true) (hn : O ≠ K) : NS Z O K := by
  obtain ⟨c, k, h1, h2, h3, -, -⟩ := Cond.noSuperclass_spec w
  obtain ⟨t, -, g1, -⟩ := own_found wk
  have ne := ids_ne h1 g1 hn
  refine ⟨c, t, h1, g1, fun fuel => ?_⟩
  cases fuel with
  | zero => rfl
  | succ f => simp [Vm.isSubclassAux, ne, h2, h3]
theorem own_NSno {Cl S K : String} {i : Nat} (w : (Jvm.Cond.superclass Cl S).before a0 Z = true) (wk : (Jvm.Cond.instantiable K i).before a0 Z = true) (n : NS Z Cl K) (hn : Cl ≠ K) : ∃ c t, Z.vm.findClass Cl = some c ∧ Z.vm.findClass K = some t ∧ Z.vm.assignable c t = false := by
  obtain ⟨c, t, h0, g0, n3⟩ := n
  obtain ⟨p, k, kp, h1, h2, h3, h4, h5, -, h7⟩ := Cond.superclass_spec h0 w
  obtain ⟨t', kt, g1, g2, g3, g4⟩ := own_found wk
  cases g0.symm.trans g1
  have ne := ids_ne h0 g0 hn
  refine ⟨c, t, h0, g0, ?_⟩
  show Z.vm.assignableAux (255 + 1) c t = false
  simp [Vm.assignableAux, ne, h2, g2, h5, g3, g4, Vm.isSubclass, n3]
end Help
end Jvm.Own
namespace Jvm.Own
open Jvm Jvm.ClassFile Sem Op Lib Jvm.Free Jvm.Stand Jvm.LawKit Jvm.RoadKit Bundle
section Calls
variable {p : Program} {l : Launch} {e : Env} {R : Room} {s : State} {m : MethodId} {args : Array Value} {below : List Frame} {meth : Method} {c : Code}
variable {bs : ByteArray} {ml : Nat} {ret : Option FieldType} {nm own : String} {Z : State} {a0 : Array Value} {EL : List (String × Nat)} {nw nw' : Bool} {vm vm' : Vm} {T T' : State} {h h' : Heap} {k n k' n' : Nat} {F : Outcome → State → Prop} {pc pc' : Nat} {Ls : Array Slot} {rest : List Value} {g g' : JFrame} {Q : Option Value → Heap → Prop}
/-- what a callee that interns nothing has made is safe -/
theorem own_safe_new {t : Addr} (M : ∀ y, Bk Z EL vm' h' y → Bk Z EL vm h y) (ge : h.size ≤ t) : Safe Z EL vm' h' t := fun b => Safe.new ge (M t b)
/-- the class of y is no interface -/
def Plain (Z : State) (C : String) : Prop := ∃ c k, Z.vm.findClass C = some c ∧ Z.vm.classes[c]? = some k ∧ k.isInterface = false
theorem own_plain {C : String} {y : MethodName} (w : (Jvm.Cond.selects C y y).before a0 Z = true) (wi : (Jvm.Cond.instanceMethod y).before a0 Z = true) : Plain Z y.cls := by
  obtain ⟨mk, methM, hn, -, -, -⟩ := Cond.instanceMethod_spec wi
  obtain ⟨kr, h1, h2⟩ := notFace_of_selects w _ hn
  exact ⟨_, kr, findClass_of_methodNamed hn, h1, h2⟩
theorem own_nf {y : MethodName} (P : Plain Z y.cls) : NotFace Z y := fun r0 h0 => by
  obtain ⟨cc, kc, h1, h2, h3⟩ := P
  cases h1.symm.trans (findClass_of_methodNamed h0)
  exact ⟨kc, h2, h3⟩
theorem own_same {y : MethodName} (w : (Jvm.Cond.declares y).before a0 Z = true) (P : Plain Z y.cls) (hy : y.cls ≠ "java/lang/invoke/MethodHandle" ∧ y.cls ≠ "java/lang/invoke/VarHandle") : (Jvm.Cond.sameMethod y.cls y.cls y.name y.desc).before a0 Z = true := by
  obtain ⟨r0, r, hn, -, -, -⟩ := Cond.declares_spec w
  obtain ⟨c, kc, h1, h2, h3⟩ := P
  have hf := State.methodFound?_of_named hn hy
  have hn' : Z.methodNamed? ⟨y.cls, y.name, y.desc⟩ = some r0 := hn
  simp [Cond.before, Cond.holds, Cond.value, h1, hf, hn', h2, h3]
theorem Core.super (C : Core p l e R s m args below meth c bs ml ret nm own Z a0 EL nw vm T h k n) {y : MethodName} {Cl : String} {ix : Nat} {bytes : ByteArray} {mx : Nat} {rt : Option FieldType} {rm : Room} {xs : List Addr} {W : Nat} {a : Addr} {argsL st : List Value} {as' : Array Value} (hne : y.name ≠ "<init>")
    (w1 : (Jvm.Cond.methodLink own ix y).before a0 Z = true) (w2 : (Jvm.Cond.sameMethod y.cls y.cls y.name y.desc).before a0 Z = true) (w6 : (Jvm.Cond.instanceMethod y).before a0 Z = true) (w5 : (Jvm.Cond.superclass own y.cls).before a0 Z = true) (w3 : (Jvm.Cond.code y bytes mx rt).before a0 Z = true) (w4 : (Jvm.Cond.initialized y.cls).before a0 Z = true)
    (hM : Met l Z EL nw' y bytes mx rt [] rm as' h xs Q) (hnn : nw = true → nw' = true) (has : as' = (.ref a :: argsL).toArray) (E : Exa Z h a Cl) (hs : ∀ x ∈ xs, x < h.size ∧ Safe Z EL vm h x) (hf : rm.frames + 1 ≤ R.frames) (hl : W + (mx + 11) + rm.locals ≤ R.locals) (hk : k + rm.cells ≤ R.cells) (hn : n + rm.slots ≤ R.slots)
    (hlen : ∀ sig, parseMethodDescriptor y.desc = some sig → argsL.length = sig.parameters.length) (hst : st = argsL.reverse ++ .ref a :: rest) (hW : (rest.map fun v => v.category).sum ≤ W) (hsz : Ls.size = ml) (hd : decode bs pc = .ok (.invokespecial ix, 3)) (hp : pc + 3 = pc')
    (K : ∀ vm' T' h' v, Core p l e R s m args below meth c bs ml ret nm own Z a0 EL nw vm' T' h' (k + rm.cells) (n + rm.slots) → CHr Z EL vm h vm' h' → (nw' = true → ∀ y, Bk Z EL vm' h' y → Bk Z EL vm h y) → Q v h' → Endw p e below T' (mkF m pc' Ls (v.toList ++ rest)) F) : Endw p e below T (mkF m pc Ls st) F := by
  subst hp has
  obtain ⟨-, ⟨L, X, N⟩, -⟩ := id C
  obtain ⟨v, vm₁, B, -, X', h2, -, ⟨L', ⟨q1, q2, q3⟩, e1, e2, e3, A, M⟩, st'⟩ := RoadKit.superBackS (a0 := a0) (s := s.setVm vm) (K := Cl) X C.hx C.warm (y := y) C.hown w1 w2 w6 w5 hne (backOwn (W := W) hM C.warm w3 w4 hf hl C.ew C.chv hs) C.heq (Ins.self E) (g := mkF m pc Ls st) rfl (hsz.trans C.mlq.symm) w3 (argsL := argsL) (rest := rest) hlen hst (by show 2 * 0 + _ ≤ _; omega) (C.dec hd) (fun _ _ => ⟨rfl, C.heq, hk, hn⟩)
  exact Endw.ste st' (K _ _ _ v (C.behind X' h2 N q2 q3 e1 e2 e3 A (fun z => M (hnn z))) A (fun z => (M z).2) q1)
theorem Core.priv (C : Core p l e R s m args below meth c bs ml ret nm own Z a0 EL nw vm T h k n) {y : MethodName} {Cl : String} {ix : Nat} {bytes : ByteArray} {mx : Nat} {rt : Option FieldType} {rm : Room} {xs : List Addr} {W : Nat} {a : Addr} {argsL st : List Value} {as' : Array Value}
    (w1 : (Jvm.Cond.methodLink own ix y).before a0 Z = true) (w6 : (Jvm.Cond.instanceMethod y).before a0 Z = true) (P : Plain Z y.cls) (w7 : (Jvm.Cond.privateMethod y).before a0 Z = true) (w3 : (Jvm.Cond.code y bytes mx rt).before a0 Z = true) (w4 : (Jvm.Cond.initialized y.cls).before a0 Z = true) (hy : y.cls ≠ "java/lang/invoke/MethodHandle" ∧ y.cls ≠ "java/lang/invoke/VarHandle")
    (hM : Met l Z EL nw' y bytes mx rt [] rm as' h xs Q) (hnn : nw = true → nw' = true) (has : as' = (.ref a :: argsL).toArray) (E : Exa Z h a Cl) (hs : ∀ x ∈ xs, x < h.size ∧ Safe Z EL vm h x) (hf : rm.frames + 1 ≤ R.frames) (hl : W + (mx + 11) + rm.locals ≤ R.locals) (hk : k + rm.cells ≤ R.cells) (hn : n + rm.slots ≤ R.slots)
    (hlen : ∀ sig, parseMethodDescriptor y.desc = some sig → argsL.length = sig.parameters.length) (hst : st = argsL.reverse ++ .ref a :: rest) (hW : (rest.map fun v => v.category).sum ≤ W) (hsz : Ls.size = ml) (hd : decode bs pc = .ok (.invokevirtual ix, 3)) (hp : pc + 3 = pc')
    (K : ∀ vm' T' h' v, Core p l e R s m args below meth c bs ml ret nm own Z a0 EL nw vm' T' h' (k + rm.cells) (n + rm.slots) → CHr Z EL vm h vm' h' → (nw' = true → ∀ y, Bk Z EL vm' h' y → Bk Z EL vm h y) → Q v h' → Endw p e below T' (mkF m pc' Ls (v.toList ++ rest)) F) : Endw p e below T (mkF m pc Ls st) F := by
  subst hp has
  obtain ⟨-, ⟨L, X, N⟩, -⟩ := id C
  obtain ⟨cell, c1, c2⟩ := Exa.cell E
  obtain ⟨cP, kP, p1, p2, p3⟩ := P
  have w5 : (Jvm.Cond.selects y.cls y y).before a0 Z = true := selects_self_of_private p1 p2 p3 (Cond.privateMethod_at w7) w6 hy
  obtain ⟨v, vm₁, B, -, X', h2, -, ⟨L', ⟨q1, q2, q3⟩, e1, e2, e3, A, M⟩, st'⟩ := X.privateBackS C.hx (y := y) C.hown (mvT C.warm w1) (mvT C.warm w6) (mvT C.warm w5) (Cond.privateMethod_at (mvP (s := s.setVm vm) C.warm w7 (args := #[]))) (mvT C.warm w3) hy (backOwn (W := W) hM C.warm w3 w4 hf hl C.ew C.chv hs) (g := mkF m pc Ls st) rfl (hsz.trans C.mlq.symm) (Steps.refl _) (a := a) (by rw [C.heq]; exact c1) c2 (argsL := argsL) (rest := rest) hlen hst (by show 2 * 0 + _ ≤ _; omega) (C.dec hd) (fun _ _ => ⟨rfl, C.heq, hk, hn⟩)
  exact Endw.ste st' (K _ _ _ v (C.behind X' h2 N q2 q3 e1 e2 e3 A (fun z => M (hnn z))) A (fun z => (M z).2) q1)
/-- System.arraycopy between two primitive arrays of one kind -/
theorem Core.acopy (C : Core p l e R s m args below meth c bs ml ret nm own Z a0 EL nw vm T h k n) {ix : Nat} {a b : Addr} {k1 k2 : ClassId} {ty : FieldType} {z1 z2 sp dp nn : Int32} {vs vd vr : List Value} {d1 d2 : Value} {W : Nat}
    (w1 : (Jvm.Cond.methodLink own ix Jvm.Stand.acN).before a0 Z = true) (w2 : (Jvm.Cond.native Jvm.Stand.acN).before a0 Z = true) (w3 : (Jvm.Cond.static Jvm.Stand.acN).before a0 Z = true) (w4 : (Jvm.Cond.initialized "java/lang/System").before a0 Z = true)
    (A : Arv Z h a k1 ty z1 vs d1) (B : Arv Z h b k2 ty z2 vd d2) (hty : refKind ty = false) (h1 : ¬ sp < 0) (h2 : ¬ dp < 0) (h3 : ¬ nn < 0) (h4 : sp.toNatClampNeg + nn.toNatClampNeg ≤ z1.toNatClampNeg) (h5 : dp.toNatClampNeg + nn.toNatClampNeg ≤ z2.toNatClampNeg) (hl : dp.toNatClampNeg + nn.toNatClampNeg ≤ vd.length)
    (hr : vd.take dp.toNatClampNeg ++ ((List.range nn.toNatClampNeg).map fun i => vs.getD (sp.toNatClampNeg + i) d1) ++ vd.drop (dp.toNatClampNeg + nn.toNatClampNeg) = vr) (ge : Z.heap.size ≤ b) (sf : Safe Z EL vm h b) (hsz : Ls.size = ml) (hd : decode bs pc = .ok (.invokestatic ix, 3)) (hp : pc + 3 = pc')
    (hf : 1 ≤ R.frames) (hW : (rest.map fun v => v.category).sum ≤ W) (hlo : W + (nativeFrameWords "java/lang/System" "arraycopy" 5 + 11) ≤ R.locals)
    (K : ∀ T' h', Core p l e R s m args below meth c bs ml ret nm own Z a0 EL nw vm T' h' k n → Keep h h' [b] → CHr Z EL vm h vm h' → Arv Z h' b k2 ty z2 vr d2 → Endw p e below T' (mkF m pc' Ls rest) F) : Endw p e below T (mkF m pc Ls (.int nn :: .int dp :: .ref b :: .int sp :: .ref a :: rest)) F := by
  subst hp hr
  obtain ⟨-, ⟨L, X, N⟩, -⟩ := id C
  obtain ⟨T', h', L', X', e', N', Kp, V, st⟩ := RoadKit.cpA X C.hx C.warm C.hown w1 w2 w3 w4 C.heq A B (Or.inl ⟨rfl, hty⟩) h1 h2 h3 h4 h5 rfl hl N ge (g := mkF m pc Ls (.int nn :: .int dp :: .ref b :: .int sp :: .ref a :: rest)) rfl (hsz.trans C.mlq.symm) rfl (C.dec hd) hf (W := W) (by show 2 * 0 + _ ≤ _; omega) hlo
  exact Endw.st st (K T' h' (C.on (ws := [b]) X' N' e' Kp (allS ge all0) (sfS sf sf0)) Kp (CHr.keep Kp (sfS sf sf0) C.chv) V)
end Calls
end Jvm.Own
namespace Jvm.Own
open Jvm Jvm.ClassFile Sem Op Lib Jvm.Free Jvm.Stand Jvm.LawKit Jvm.RoadKit Bundle
section Num
theorem own_ti {n : Nat} (h : n < 2147483648) : (Int32.ofNat n).toInt = (n : Int) := Int32.toInt_ofNat_small (by omega)
theorem own_nn {n : Nat} (h : n < 2147483648) : ¬ Int32.ofNat n < 0 := by
  rw [Int32.lt_iff_toInt_lt, own_ti h]; show ¬ ((n : Int) < 0); omega
theorem own_nc {n : Nat} (h : n < 2147483648) : (Int32.ofNat n).toNatClampNeg = n := by
  simp only [Int32.toNatClampNeg, own_ti h]; omega
theorem own_lt {a b : Nat} (ha : a < 2147483648) (hb : b < 2147483648) : Int32.ofNat a < Int32.ofNat b ↔ a < b := by
  rw [Int32.lt_iff_toInt_lt, own_ti ha, own_ti hb]; omega
theorem own_ieq {a b : Nat} (ha : a < 2147483648) (hb : b < 2147483648) : Int32.ofNat a = Int32.ofNat b ↔ a = b := by
  constructor
  · intro e; have := congrArg Int32.toInt e; rw [own_ti ha, own_ti hb] at this; omega
  · rintro rfl; rfl
theorem own_add (a b : Nat) : Int32.ofNat a + Int32.ofNat b = Int32.ofNat (a + b) := (Int32.ofNat_add a b).symm
theorem own_sub {a b : Nat} (h : b ≤ a) : Int32.ofNat a - Int32.ofNat b = Int32.ofNat (a - b) := by
  have e : Int32.ofNat a = Int32.ofNat (a - b) + Int32.ofNat b := by rw [own_add]; congr 1; omega
  rw [e]; exact Int32.add_sub_cancel _ _
theorem own_shr0 (x : Int32) : x >>> ((0 : Int32) &&& 31) = x := by
  rw [show ((0 : Int32) &&& 31) = 0 from by decide]
  apply Int32.toBitVec_inj.mp; rw [Int32.toBitVec_shiftRight, show (0 : Int32).toBitVec.smod 32 = 0#32 from by decide]; simp
theorem own_shl0 (x : Int32) : x <<< ((0 : Int32) &&& 31) = x := by
  rw [show ((0 : Int32) &&& 31) = 0 from by decide]
  apply Int32.toBitVec_inj.mp; rw [Int32.toBitVec_shiftLeft, show (0 : Int32).toBitVec.smod 32 = 0#32 from by decide]; simp
theorem bys_len (cs : List Int32) : (bys cs).length = cs.length := by simp [bys]
theorem bys_app (cs ds : List Int32) : bys (cs ++ ds) = bys cs ++ bys ds := by simp [bys]
/-- what a copy of all of ds to the end of cs leaves, the places behind being 0 -/
theorem own_cat (cs ds : List Int32) : ((bys cs ++ List.replicate ds.length (Value.int 0)).take cs.length) ++ ((List.range ds.length).map fun i => (bys ds).getD (0 + i) (Value.int 0)) ++ ((bys cs ++ List.replicate ds.length (Value.int 0)).drop (cs.length + ds.length)) = bys (cs ++ ds) := by
  have h1 : (bys cs ++ List.replicate ds.length (Value.int 0)).take cs.length = bys cs := by rw [← bys_len cs]; exact List.take_left
  have h2 : (bys cs ++ List.replicate ds.length (Value.int 0)).drop (cs.length + ds.length) = [] := by
    apply List.drop_eq_nil_of_le; simp [bys_len]
  have h3 : ((List.range ds.length).map fun i => (bys ds).getD (0 + i) (Value.int 0)) = bys ds := by
    apply List.ext_getElem
    · simp [bys_len]
    · intro i q1 q2
      simp only [List.getElem_map, List.getElem_range, Nat.zero_add]
      rw [List.getD_eq_getElem?_getD, List.getElem?_eq_getElem q2]; rfl
  rw [h1, h2, h3, List.append_nil, bys_app]
/-- .. what a copy of the first n of a buffer into a new array of n leaves -/
theorem own_cut (cs : List Int32) : ((List.replicate cs.length (Value.int 0)).take 0) ++ ((List.range cs.length).map fun i => (bys cs).getD (0 + i) (Value.int 0)) ++ ((List.replicate cs.length (Value.int 0)).drop (0 + cs.length)) = bys cs := by
  have q := own_cat [] cs
  simpa [bys] using q
end Num
end Jvm.Own
namespace Jvm.Own
open Jvm Jvm.ClassFile Sem Op Lib Jvm.Free Jvm.Stand Jvm.LawKit Jvm.RoadKit Bundle
section Sb
variable {p : Program} {l : Launch} {e : Env} {R : Room} {s : State} {m : MethodId} {args : Array Value} {below : List Frame} {meth : Method} {c : Code}
variable {bs : ByteArray} {ml : Nat} {ret : Option FieldType} {nm own : String} {Z : State} {a0 : Array Value} {EL : List (String × Nat)} {nw : Bool} {vm : Vm} {T T' : State} {h h' : Heap} {k n : Nat} {F : Outcome → State → Prop} {pc pc' : Nat} {Ls : Array Slot} {rest : List Value}
/-- the StringBuilder at b: Latin-1, its buffer at t with room for cap, its chars cs -/
def Sb (Z : State) (h : Heap) (b t : Addr) (kb : ClassId) (cs : List Int32) (cap : Nat) : Prop :=
  Exa Z h b "java/lang/StringBuilder" ∧ (Fld Z h b "java/lang/AbstractStringBuilder" "coder" "B" (.int 0) ∧ Fld Z h b "java/lang/AbstractStringBuilder" "count" "I" (.int (Int32.ofNat cs.length))) ∧ Fld Z h b "java/lang/AbstractStringBuilder" "value" "[B" (.ref t) ∧
    Arv Z h t kb .byte (Int32.ofNat cap) (bys cs) (.int 0) ∧ (∀ c ∈ cs, B8 c) ∧ cs.length ≤ cap ∧ cap ≤ 4000
theorem Sb.keep {b t : Addr} {kb : ClassId} {cs : List Int32} {cap : Nat} {ws : List Addr} (S : Sb Z h b t kb cs cap) (K : Keep h h' ws) (q1 : b ∉ ws) (q2 : t ∉ ws) : Sb Z h' b t kb cs cap :=
  ⟨S.1.keep K, ⟨S.2.1.1.keep K q1, S.2.1.2.keep K q1⟩, S.2.2.1.keep K q1, S.2.2.2.1.keep K q2, S.2.2.2.2⟩
theorem Sb.le {b t : Addr} {kb : ClassId} {cs : List Int32} {cap : Nat} (S : Sb Z h b t kb cs cap) : cs.length ≤ cap := S.2.2.2.2.2.1
theorem Sb.le4 {b t : Addr} {kb : ClassId} {cs : List Int32} {cap : Nat} (S : Sb Z h b t kb cs cap) : cap ≤ 4000 := S.2.2.2.2.2.2
theorem Str.le4 {b t : Addr} {kb : ClassId} {cs : List Int32} (S : Str Z h b t kb cs) : cs.length ≤ 4000 := S.2.2.2.2.2
theorem own_all_app {P : Int32 → Prop} {cs ds : List Int32} (h1 : ∀ c ∈ cs, P c) (h2 : ∀ c ∈ ds, P c) : ∀ c ∈ cs ++ ds, P c := fun c q => (List.mem_append.mp q).elim (h1 c) (h2 c)
/-- all of ds is copied to the end of cs -/
theorem Core.acopyCat (C : Core p l e R s m args below meth c bs ml ret nm own Z a0 EL nw vm T h k n) {ix : Nat} {a b : Addr} {k1 k2 : ClassId} {cs ds : List Int32} {cap W : Nat}
    (w1 : (Jvm.Cond.methodLink own ix Jvm.Stand.acN).before a0 Z = true) (w2 : (Jvm.Cond.native Jvm.Stand.acN).before a0 Z = true) (w3 : (Jvm.Cond.static Jvm.Stand.acN).before a0 Z = true) (w4 : (Jvm.Cond.initialized "java/lang/System").before a0 Z = true)
    (A : Arv Z h a k1 .byte (Int32.ofNat ds.length) (bys ds) (.int 0)) (B : Arv Z h b k2 .byte (Int32.ofNat cap) (bys cs) (.int 0)) (hle : cs.length + ds.length ≤ cap) (hc : cap ≤ 4000) (ge : Z.heap.size ≤ b) (sf : Safe Z EL vm h b) (hsz : Ls.size = ml) (hd : decode bs pc = .ok (.invokestatic ix, 3)) (hp : pc + 3 = pc')
    (hf : 1 ≤ R.frames) (hW : (rest.map fun v => v.category).sum ≤ W) (hlo : W + (nativeFrameWords "java/lang/System" "arraycopy" 5 + 11) ≤ R.locals)
    (K : ∀ T' h', Core p l e R s m args below meth c bs ml ret nm own Z a0 EL nw vm T' h' k n → Keep h h' [b] → CHr Z EL vm h vm h' → Arv Z h' b k2 .byte (Int32.ofNat cap) (bys (cs ++ ds)) (.int 0) → Endw p e below T' (mkF m pc' Ls rest) F) : Endw p e below T (mkF m pc Ls (.int (Int32.ofNat ds.length) :: .int (Int32.ofNat cs.length) :: .ref b :: .int 0 :: .ref a :: rest)) F := by
  have e1 : (Int32.ofNat cs.length).toNatClampNeg = cs.length := own_nc (by omega)
  have e2 : (Int32.ofNat ds.length).toNatClampNeg = ds.length := own_nc (by omega)
  have e3 : (Int32.ofNat cap).toNatClampNeg = cap := own_nc (by omega)
  have e0 : (0 : Int32).toNatClampNeg = 0 := by decide
  refine C.acopy (ty := .byte) (vr := bys (cs ++ ds)) w1 w2 w3 w4 A (B.pad (vs' := bys cs ++ List.replicate ds.length (.int 0)) (pad_rep _ _ _)) rfl (by decide) (own_nn (by omega)) (own_nn (by omega)) (by rw [e0, e2]; omega) (by rw [e1, e2, e3]; omega) (by rw [e1, e2]; simp [bys_len]) ?_ ge sf hsz hd hp hf hW hlo K
  rw [e1, e2, e0]; exact own_cat cs ds
/-- the first m of a buffer are copied into a new array -/
theorem Core.acopyNew (C : Core p l e R s m args below meth c bs ml ret nm own Z a0 EL nw vm T h k n) {ix : Nat} {a b : Addr} {k1 k2 : ClassId} {cs : List Int32} {cap N M W : Nat}
    (w1 : (Jvm.Cond.methodLink own ix Jvm.Stand.acN).before a0 Z = true) (w2 : (Jvm.Cond.native Jvm.Stand.acN).before a0 Z = true) (w3 : (Jvm.Cond.static Jvm.Stand.acN).before a0 Z = true) (w4 : (Jvm.Cond.initialized "java/lang/System").before a0 Z = true)
    (A : Arv Z h a k1 .byte (Int32.ofNat cap) (bys cs) (.int 0)) (B : Arv Z h b k2 .byte (Int32.ofNat N) [] (.int 0)) (h1 : cs.length ≤ M) (h2 : M ≤ cap) (h3 : M ≤ N) (hc : cap ≤ 4000) (hN : N ≤ 4000) (ge : Z.heap.size ≤ b) (sf : Safe Z EL vm h b) (hsz : Ls.size = ml) (hd : decode bs pc = .ok (.invokestatic ix, 3)) (hp : pc + 3 = pc')
    (hf : 1 ≤ R.frames) (hW : (rest.map fun v => v.category).sum ≤ W) (hlo : W + (nativeFrameWords "java/lang/System" "arraycopy" 5 + 11) ≤ R.locals)
    (K : ∀ T' h', Core p l e R s m args below meth c bs ml ret nm own Z a0 EL nw vm T' h' k n → Keep h h' [b] → CHr Z EL vm h vm h' → Arv Z h' b k2 .byte (Int32.ofNat N) (bys cs) (.int 0) → Endw p e below T' (mkF m pc' Ls rest) F) : Endw p e below T (mkF m pc Ls (.int (Int32.ofNat M) :: .int 0 :: .ref b :: .int 0 :: .ref a :: rest)) F := by
  have e2 : (Int32.ofNat M).toNatClampNeg = M := own_nc (by omega)
  have e3 : (Int32.ofNat cap).toNatClampNeg = cap := own_nc (by omega)
  have e4 : (Int32.ofNat N).toNatClampNeg = N := own_nc (by omega)
  have e0 : (0 : Int32).toNatClampNeg = 0 := by decide
  have V : ∀ i, (bys cs).getD i (Value.int 0) = (bys cs ++ List.replicate (M - cs.length) (Value.int 0)).getD i (Value.int 0) := fun i => (pad_rep _ _ _ i).symm
  refine C.acopy (ty := .byte) (vr := bys cs ++ List.replicate (M - cs.length) (.int 0)) w1 w2 w3 w4 A (B.pad (vs' := [] ++ List.replicate M (.int 0)) (pad_rep _ _ _)) rfl (by decide) (by decide) (own_nn (by omega)) (by rw [e0, e2, e3]; omega) (by rw [e0, e2, e4]; omega) (by rw [e0, e2]; simp) ?_ ge sf hsz hd hp hf hW hlo ?_
  · rw [e0, e2]
    have q2 : (([] : List Value) ++ List.replicate M (Value.int 0)).drop (0 + M) = [] := by apply List.drop_eq_nil_of_le; simp
    rw [q2, List.take_zero, List.nil_append, List.append_nil]
    apply List.ext_getElem
    · simp [bys_len]; omega
    · intro i q1 q2
      simp only [List.getElem_map, List.getElem_range, Nat.zero_add]
      rw [V i, List.getD_eq_getElem?_getD, List.getElem?_eq_getElem q2]; rfl
  · intro T' h' C' Kp A' V'
    exact K T' h' C' Kp A' (V'.pad fun i => (pad_rep _ _ _ i).symm)
end Sb
end Jvm.Own
namespace Jvm.Own
open Jvm
section SbNum
theorem own_sub_le {a b : Nat} (h : a ≤ b) (hb : b ≤ 4000) : ¬ (0 : Int32) < Int32.ofNat a - Int32.ofNat b := by
  rw [Int32.lt_iff_toInt_lt, Int32.toInt_sub, own_ti (by omega), own_ti (by omega)]
  show ¬ ((0 : Int) < _)
  rw [Int.bmod_eq_of_le (by omega) (by omega)]; omega
theorem own_sub0 (x : Int32) : x - 0 = x := Int32.sub_zero x
theorem own_min_r {a b : Nat} (h : b < a) (ha : a ≤ 100000) : (if Int32.ofNat b < Int32.ofNat a then Int32.ofNat b else Int32.ofNat a) = Int32.ofNat b := if_pos ((own_lt (by omega) (by omega)).mpr h)
theorem own_min_l {a b : Nat} (h : a < b) (hb : b ≤ 100000) : (if Int32.ofNat b < Int32.ofNat a then Int32.ofNat b else Int32.ofNat a) = Int32.ofNat a := if_neg (fun q => absurd ((own_lt (by omega) (by omega)).mp q) (by omega))
theorem own_max {a b : Nat} (ha : a ≤ 4000) (hb : b ≤ 4000) : (if Int32.ofNat a < Int32.ofNat b then Int32.ofNat b else Int32.ofNat a) = Int32.ofNat (Nat.max a b) := by
  by_cases q : a < b
  · rw [if_pos ((own_lt (by omega) (by omega)).mpr q), show Nat.max a b = b from Nat.max_eq_right (by omega)]
  · rw [if_neg (fun z => q ((own_lt (by omega) (by omega)).mp z)), show Nat.max a b = a from Nat.max_eq_left (by omega)]
theorem own_pos {n : Nat} (h : 0 < n) (h2 : n < 2147483648) : (0 : Int32) < Int32.ofNat n := by
  rw [Int32.lt_iff_toInt_lt, own_ti h2]; show (0 : Int) < _; omega
theorem own_small {n : Nat} (h : n < 2147483639) : ¬ (2147483639 : Int32) < Int32.ofNat n := by
  rw [Int32.lt_iff_toInt_lt, own_ti (by omega)]; show ¬ ((2147483639 : Int) < _); omega
theorem own_nmax {n : Nat} (h : n < 2147483647) : ¬ Int32.ofNat n = (2147483647 : Int32) := fun e => by
  have := congrArg Int32.toInt e; rw [own_ti (by omega)] at this
  have e2 : (2147483647 : Int32).toInt = 2147483647 := rfl
  omega
theorem own_sub_gt {a b : Nat} (h : b < a) (ha : a ≤ 4000) : (0 : Int32) < Int32.ofNat a - Int32.ofNat b := by
  rw [own_sub (by omega)]; exact own_pos (by omega) (by omega)
/-- the capacity to which a Latin-1 builder of capacity cap grows for k chars -/
def Grow (cap k nc : Nat) : Prop := k ≤ nc ∧ nc = cap + Nat.max (k - cap) (cap + 2)
end SbNum
end Jvm.Own
/- laws to paste: Road.backV, Road.eqW, Road.codOf (cut by pick.py; bodies as the Statement names them) -/
namespace Jvm.Pilot.@@N@@
namespace StrChars
open Jvm Sem ClassFile Op Lib Jvm.Stand Jvm.Free.XT Jvm.Free.ALB Jvm.Free.JM Jvm.Free
open Jvm.Lib.Cold (StaticIs)
/-- a char array whose places are chars -/
def Ch (a : Addr) (A : Cell) (U : State) : Prop := Arr .char a A U ∧ Typed .char A
theorem Ch.mv {a : Addr} {A : Cell} {U U' : State} (h : Ch a A U) (hal : U.vm.Alike U'.vm) (hh : U'.heap = U.heap) : Ch a A U' := ⟨h.1.mv hal hh, h.2⟩
theorem Ch.keep {a : Addr} {A : Cell} {U U' : State} (h : Ch a A U) (hal : U.vm.Alike U'.vm) (hk : U'.heap[a]? = some A) : Ch a A U' := ⟨h.1.keep hal hk, h.2⟩
/-- what place i of a char[]'s cell holds -/
def cv (A : Cell) (i : Nat) : Int32 := match A.slots[i]? with | some (.int x) => x | _ => 0
theorem Ch.get {a : Addr} {A : Cell} {U : State} (h : Ch a A U) {i : Nat} (hi : i < A.slots.size) : A.slots[i]? = some (.int (cv A i)) := by
  have e := Array.getElem?_eq_getElem hi
  have f := h.2 i _ e
  unfold cv; rw [e]
  generalize A.slots[i] = v at f
  cases v <;> simp [fits] at f ⊢
/-- the byte that i2b leaves of a char -/
def lo8 (x : Int32) : Int32 := x.toInt8.toInt32
theorem fits_lo8 (y : Int32) : fits .byte (.int (lo8 y)) = true := by
  have h1 := y.toInt8.le_toInt
  have h2 := y.toInt8.toInt_lt
  simp only [lo8, fits, Bool.and_eq_true, decide_eq_true_eq, Int32.le_iff_toInt_le, Int8.toInt_toInt32, show (-128 : Int32).toInt = -128 from by decide, show (127 : Int32).toInt = 127 from by decide]
  omega
/-- A' is A but that each place j of lo .. hi - 1 holds f j -/
def Laid (A A' : Cell) (lo hi : Nat) (f : Nat → Value) : Prop := A'.cls = A.cls ∧ A'.vm = A.vm ∧ A'.slots.size = A.slots.size ∧ ∀ i, A'.slots[i]? = if lo ≤ i ∧ i < hi then some (f i) else A.slots[i]?
theorem Laid.zero (A : Cell) (lo : Nat) (f : Nat → Value) : Laid A A lo (lo + 0) f := ⟨rfl, rfl, rfl, fun i => by rw [if_neg (by omega)]⟩
theorem Laid.step {A Ak : Cell} {lo k : Nat} {f : Nat → Value} {v : Value} (h : Laid A Ak lo k f) (hlo : lo ≤ k) (hk : k < Ak.slots.size) (hv : v = f k) : Laid A (Ak.setSlot k v) lo (k + 1) f := by
  refine ⟨h.1, h.2.1, by simpa [Cell.setSlot] using h.2.2.1, fun i => ?_⟩
  by_cases e : k = i
  · subst e; rw [Cell.slots_setSlot_self v hk, if_pos (by omega), hv]
  · rw [Cell.slots_setSlot_ne v e, h.2.2.2 i]
    by_cases q : lo ≤ i ∧ i < k
    · rw [if_pos q, if_pos (by omega)]
    · rw [if_neg q, if_neg (by omega)]
def U16 : String := "java/lang/StringUTF16"
namespace Cmp5
def yN : MethodName := ⟨"java/lang/StringUTF16", "compress", "([CI[BII)I"⟩
abbrev yB : ByteArray := jdk_52_method_21_code
theorem d0 : decode yB 0 = .ok (.iconst 0, 1) := by decide +kernel
theorem d1 : decode yB 1 = .ok (.istore 5, 2) := by decide +kernel
theorem d3 : decode yB 3 = .ok (.iload 5, 2) := by decide +kernel
theorem d5 : decode yB 5 = .ok (.iload 4, 2) := by decide +kernel
theorem d7 : decode yB 7 = .ok (.if_icmp (.ge) 37, 3) := by decide +kernel
theorem d10 : decode yB 10 = .ok (.aload_n 0, 1) := by decide +kernel
theorem d11 : decode yB 11 = .ok (.iload_n 1, 1) := by decide +kernel
theorem d12 : decode yB 12 = .ok (.caload, 1) := by decide +kernel
theorem d13 : decode yB 13 = .ok (.istore 6, 2) := by decide +kernel
theorem d15 : decode yB 15 = .ok (.iload 6, 2) := by decide +kernel
theorem d17 : decode yB 17 = .ok (.sipush 255, 3) := by decide +kernel
theorem d20 : decode yB 20 = .ok (.if_icmp (.le) 6, 3) := by decide +kernel
theorem d26 : decode yB 26 = .ok (.aload_n 2, 1) := by decide +kernel
theorem d27 : decode yB 27 = .ok (.iload_n 3, 1) := by decide +kernel
theorem d28 : decode yB 28 = .ok (.iload 6, 2) := by decide +kernel
theorem d30 : decode yB 30 = .ok (.i2b, 1) := by decide +kernel
theorem d31 : decode yB 31 = .ok (.bastore, 1) := by decide +kernel
theorem d32 : decode yB 32 = .ok (.iinc 1 1, 3) := by decide +kernel
theorem d35 : decode yB 35 = .ok (.iinc 3 1, 3) := by decide +kernel
theorem d38 : decode yB 38 = .ok (.iinc 5 1, 3) := by decide +kernel
theorem d41 : decode yB 41 = .ok (.goto (-38), 3) := by decide +kernel
theorem d44 : decode yB 44 = .ok (.iload 4, 2) := by decide +kernel
theorem d46 : decode yB 46 = .ok (.ireturn, 1) := by decide +kernel
def site : List Cond := []
def tab : Cond := tabOf yN yB 7 (some .int) site
def P (b : Addr) (A : Cell) (d : Addr) (B : Cell) (o q len : Nat) (args : Array Value) (s : State) : Prop := args = #[.ref b, .int (Int32.ofNat o), .ref d, .int (Int32.ofNat q), .int (Int32.ofNat len)] ∧ Ch b A s ∧ Arr .byte d B s ∧ b ≠ d ∧ o + len ≤ A.slots.size ∧ q + len ≤ B.slots.size ∧ ∀ i, i < len → ¬ 255 < cv A (o + i)
def E (b : Addr) (A : Cell) (d : Addr) (B : Cell) (o q len : Nat) (r : Option Value) (s u : State) : Prop := r = some (.int (Int32.ofNat len)) ∧ ∃ B', Put d B' s u ∧ Laid B B' q (q + len) (fun j => Value.int (lo8 (cv A (o + (j - q)))))
/-- no char of the range above 255: len; the places written hold each char's low byte -/
theorem law (l : Launch) (b : Addr) (A : Cell) (d : Addr) (B : Cell) (o q len : Nat) : Law l yN 5 5 0 0 yB 7 (some .int) site (P b A d B o q len) (E b A d B o q len) (copyLocs d q len) 0 0 := by
  refine Law.of_walk (plainFor_of_name (by decide +kernel)) (by decide +kernel) (by decide +kernel) (by decide) (fun _ _ h => by rw [h.1]; rfl) (fun _ U U' hal hh h => ⟨h.1, h.2.1.mv hal hh, h.2.2.1.mv hal hh, h.2.2.2⟩) (fun r U U' V V' h1 hal h2 h => ⟨h.1, h.2.elim fun B' q => ⟨B', q.1.mv h1 h2, q.2⟩⟩) ?_
  intro p e s m args below meth c s₁ X0 hexec hbytes hml hret hlk hnm hown hh0 W hP
  obtain ⟨rfl, hA, hB, hne, l1, l2, hp⟩ := hP
  have c1 : Steps p.tables e below (s₁.setTop (entryFrame m #[.ref b, .int (Int32.ofNat o), .ref d, .int (Int32.ofNat q), .int (Int32.ofNat len)] 7)) (s₁.setTop (mkF m 0 #[.val (.ref b), .val (.int (Int32.ofNat o)), .val (.ref d), .val (.int (Int32.ofNat q)), .val (.int (Int32.ofNat len)), .unset, .unset] [])) := entry rfl
  have hA0 := hA.1.mv X0.warmed.alike hh0
  have hB0 := hB.mv X0.warmed.alike hh0
  have a31 := hA.1.2.2.2
  have c2 : Steps p.tables e below (s₁.setTop (entryFrame m #[.ref b, .int (Int32.ofNat o), .ref d, .int (Int32.ofNat q), .int (Int32.ofNat len)] 7)) (s₁.setTop (mkF m 3 #[.val (.ref b), .val (.int (Int32.ofNat o)), .val (.ref d), .val (.int (Int32.ofNat q)), .val (.int (Int32.ofNat len)), .val (.int 0), .unset] [])) := c1.trans (by
    refine iconstV X0.here hexec rfl 0 (hb hbytes d0) (by decide) ?_
    refine XS.istore X0.here hexec rfl (hb hbytes d1) rfl rfl ?_
    exact Steps.refl _)
  have loop : ∀ (r i : Nat), i + r = len → ∀ (z : Slot), (z = .unset ∨ ∃ w, z = .val w ∧ w.category = 1) → ∀ (Tl : State) (Bk : Cell), Stand p l e { frames := 0, locals := 0, cells := 0, slots := 0 } s m #[.ref b, .int (Int32.ofNat o), .ref d, .int (Int32.ofNat q), .int (Int32.ofNat len)] below meth c Tl ([] ++ copyLocs d q i) 0 0 → Put d Bk s₁ Tl → Laid B Bk q (q + i) (fun j => Value.int (lo8 (cv A (o + (j - q))))) →
      Steps p.tables e below (s₁.setTop (entryFrame m #[.ref b, .int (Int32.ofNat o), .ref d, .int (Int32.ofNat q), .int (Int32.ofNat len)] 7)) (Tl.setTop (mkF m 3 #[.val (.ref b), .val (.int (Int32.ofNat (o + i))), .val (.ref d), .val (.int (Int32.ofNat (q + i))), .val (.int (Int32.ofNat len)), .val (.int (Int32.ofNat i)), z] [])) → ∃ (T' : State) (B' : Cell) (z' : Slot), Stand p l e { frames := 0, locals := 0, cells := 0, slots := 0 } s m #[.ref b, .int (Int32.ofNat o), .ref d, .int (Int32.ofNat q), .int (Int32.ofNat len)] below meth c T' ([] ++ copyLocs d q len) 0 0 ∧ Put d B' s₁ T' ∧ Laid B B' q (q + len) (fun j => Value.int (lo8 (cv A (o + (j - q))))) ∧
      Steps p.tables e below (s₁.setTop (entryFrame m #[.ref b, .int (Int32.ofNat o), .ref d, .int (Int32.ofNat q), .int (Int32.ofNat len)] 7)) (T'.setTop (mkF m 3 #[.val (.ref b), .val (.int (Int32.ofNat (o + len))), .val (.ref d), .val (.int (Int32.ofNat (q + len))), .val (.int (Int32.ofNat len)), .val (.int (Int32.ofNat len)), z'] [])) := by
    intro r
    induction r with
    | zero =>
      intro i hi z hz Tl Bk Xl pl fl cl
      have hil : i = len := by omega
      rw [hil] at Xl fl cl
      exact ⟨Tl, Bk, z, Xl, pl, fl, cl⟩
    | succ r ih =>
      intro i hi z hz Tl Bk Xl pl fl cl
      have all := X0.warmed.alike.symm.trans Xl.warmed.alike
      have hAl := hA0.keep all (pl.other hne hA0.1)
      have hBk := hB0.like all pl.1 fl.1 fl.2.1 fl.2.2.1
      have hlt : q + i < Bk.slots.size := by rw [fl.2.2.1]; omega
      have c3 : Steps p.tables e below (s₁.setTop (entryFrame m #[.ref b, .int (Int32.ofNat o), .ref d, .int (Int32.ofNat q), .int (Int32.ofNat len)] 7)) (Tl.setTop (mkF m 12 #[.val (.ref b), .val (.int (Int32.ofNat (o + i))), .val (.ref d), .val (.int (Int32.ofNat (q + i))), .val (.int (Int32.ofNat len)), .val (.int (Int32.ofNat i)), z] [.int (Int32.ofNat (o + i)), .ref b])) := cl.trans (by
        refine XS.iload Xl.here hexec rfl (hb hbytes d3) rfl ?_
        refine XS.iload Xl.here hexec rfl (hb hbytes d5) rfl ?_
        refine XS.icmpNo Xl.here hexec rfl (hb hbytes d7) rfl (ii_ge_f (lt32 (by omega) (by omega))) ?_
        refine XS.aloadN Xl.here hexec rfl (hb hbytes d10) rfl rfl ?_
        refine XS.iloadN Xl.here hexec rfl (hb hbytes d11) rfl ?_
        exact Steps.refl _)
      have c4 : Steps p.tables e below (s₁.setTop (entryFrame m #[.ref b, .int (Int32.ofNat o), .ref d, .int (Int32.ofNat q), .int (Int32.ofNat len)] 7)) (Tl.setTop (mkF m 13 #[.val (.ref b), .val (.int (Int32.ofNat (o + i))), .val (.ref d), .val (.int (Int32.ofNat (q + i))), .val (.int (Int32.ofNat len)), .val (.int (Int32.ofNat i)), z] [.int (cv A (o + i))])) := c3.trans (by
        refine Xl.aget hexec hAl rfl (hA.get (i := o + i) (by omega)) rfl rfl (hb hbytes d12) ?_
        exact Steps.refl _)
      have c5 : Steps p.tables e below (s₁.setTop (entryFrame m #[.ref b, .int (Int32.ofNat o), .ref d, .int (Int32.ofNat q), .int (Int32.ofNat len)] 7)) (Tl.setTop (mkF m 15 #[.val (.ref b), .val (.int (Int32.ofNat (o + i))), .val (.ref d), .val (.int (Int32.ofNat (q + i))), .val (.int (Int32.ofNat len)), .val (.int (Int32.ofNat i)), .val (.int (cv A (o + i)))] [])) := c4.trans (by
        refine XS.istoreS Xl.here hexec rfl (hb hbytes d13) rfl rfl hz ?_
        exact Steps.refl _)
      have c6 : Steps p.tables e below (s₁.setTop (entryFrame m #[.ref b, .int (Int32.ofNat o), .ref d, .int (Int32.ofNat q), .int (Int32.ofNat len)] 7)) (Tl.setTop (mkF m 31 #[.val (.ref b), .val (.int (Int32.ofNat (o + i))), .val (.ref d), .val (.int (Int32.ofNat (q + i))), .val (.int (Int32.ofNat len)), .val (.int (Int32.ofNat i)), .val (.int (cv A (o + i)))] [.int (lo8 (cv A (o + i))), .int (Int32.ofNat (q + i)), .ref d])) := c5.trans (by
        refine XS.iload Xl.here hexec rfl (hb hbytes d15) rfl ?_
        refine sipushV Xl.here hexec rfl 255 (hb hbytes d17) (by decide) ?_
        refine XS.icmpYes Xl.here hexec rfl (pc0 := 20) rfl (hb hbytes d20) rfl (ii_le_t (hp i (by omega))) (by decide) rfl ?_
        refine XS.aloadN Xl.here hexec rfl (hb hbytes d26) rfl rfl ?_
        refine XS.iloadN Xl.here hexec rfl (hb hbytes d27) rfl ?_
        refine XS.iload Xl.here hexec rfl (hb hbytes d28) rfl ?_
        refine i2b Xl.here hexec rfl (hb hbytes d30) rfl ?_
        exact Steps.refl _)
      obtain ⟨T7, X7, p7, st7⟩ := Xl.aput hexec hBk rfl hlt rfl (fits_lo8 (cv A (o + i))) (g := (mkF m 31 #[.val (.ref b), .val (.int (Int32.ofNat (o + i))), .val (.ref d), .val (.int (Int32.ofNat (q + i))), .val (.int (Int32.ofNat len)), .val (.int (Int32.ofNat i)), .val (.int (cv A (o + i)))] [.int (lo8 (cv A (o + i))), .int (Int32.ofNat (q + i)), .ref d])) rfl (rest := []) rfl (hb hbytes d31)
      have c8 : Steps p.tables e below (s₁.setTop (entryFrame m #[.ref b, .int (Int32.ofNat o), .ref d, .int (Int32.ofNat q), .int (Int32.ofNat len)] 7)) (T7.setTop (mkF m 32 #[.val (.ref b), .val (.int (Int32.ofNat (o + i))), .val (.ref d), .val (.int (Int32.ofNat (q + i))), .val (.int (Int32.ofNat len)), .val (.int (Int32.ofNat i)), .val (.int (cv A (o + i)))] [])) := c6.trans (st7 _ (Steps.refl _))
      have c9 : Steps p.tables e below (s₁.setTop (entryFrame m #[.ref b, .int (Int32.ofNat o), .ref d, .int (Int32.ofNat q), .int (Int32.ofNat len)] 7)) (T7.setTop (mkF m 3 #[.val (.ref b), .val (.int (Int32.ofNat (o + i) + 1)), .val (.ref d), .val (.int (Int32.ofNat (q + i) + 1)), .val (.int (Int32.ofNat len)), .val (.int (Int32.ofNat i + 1)), .val (.int (cv A (o + i)))] [])) := c8.trans (by
        refine iincV X7.here hexec rfl 1 (hb hbytes d32) (by decide) rfl rfl ?_
        refine iincV X7.here hexec rfl 1 (hb hbytes d35) (by decide) rfl rfl ?_
        refine iincV X7.here hexec rfl 1 (hb hbytes d38) (by decide) rfl rfl ?_
        refine XS.goto X7.here hexec rfl (pc0 := 41) rfl (hb hbytes d41) (by decide) rfl ?_
        exact Steps.refl _)
      have c10 : Steps p.tables e below (s₁.setTop (entryFrame m #[.ref b, .int (Int32.ofNat o), .ref d, .int (Int32.ofNat q), .int (Int32.ofNat len)] 7)) (T7.setTop (mkF m 3 #[.val (.ref b), .val (.int (Int32.ofNat (o + (i + 1)))), .val (.ref d), .val (.int (Int32.ofNat (q + (i + 1)))), .val (.int (Int32.ofNat len)), .val (.int (Int32.ofNat (i + 1))), .val (.int (cv A (o + i)))] [])) := by
        have := c9
        rw [succ32, succ32, succ32] at this
        exact this
      exact ih (i + 1) (by omega) _ (Or.inr ⟨_, rfl, rfl⟩) T7 _ (by rw [copyLocs_step, ← List.append_assoc]; exact X7) (pl.trans p7) (fl.step (by omega) hlt (by simp)) c10
  obtain ⟨T9, B9, z9, X9, p9, f9, g9⟩ := loop len 0 (by omega) .unset (Or.inl rfl) s₁ B (by simpa [copyLocs] using X0) ⟨hB0.1, fun _ _ => rfl, rfl⟩ (Laid.zero _ _ _) c2
  have c11 : Steps p.tables e below (s₁.setTop (entryFrame m #[.ref b, .int (Int32.ofNat o), .ref d, .int (Int32.ofNat q), .int (Int32.ofNat len)] 7)) (T9.setTop (mkF m 46 #[.val (.ref b), .val (.int (Int32.ofNat (o + len))), .val (.ref d), .val (.int (Int32.ofNat (q + len))), .val (.int (Int32.ofNat len)), .val (.int (Int32.ofNat len)), z9] [.int (Int32.ofNat len)])) := g9.trans (by
    refine XS.iload X9.here hexec rfl (hb hbytes d3) rfl ?_
    refine XS.iload X9.here hexec rfl (hb hbytes d5) rfl ?_
    refine XS.icmpYes X9.here hexec rfl (pc0 := 7) rfl (hb hbytes d7) rfl (ii_ge_t (nlt32 (by omega) (Nat.le_refl _))) (by decide) rfl ?_
    refine XS.iload X9.here hexec rfl (hb hbytes d44) rfl ?_
    exact Steps.refl _)
  exact ⟨T9, some (.int (Int32.ofNat len)), _, _, _, X9, by simp, rfl, rfl, (fun h => by cases h), ⟨rfl, B9, p9.from hh0, f9⟩, fun fs hl => c11.trans (X9.ireturnOut hexec hret rfl (Or.inl rfl) (hb hbytes d46) hl)⟩
end Cmp5
namespace Cmp3
def yN : MethodName := ⟨"java/lang/StringUTF16", "compress", "([CII)[B"⟩
abbrev yB : ByteArray := jdk_52_method_16_code
theorem d0 : decode yB 0 = .ok (.iload_n 2, 1) := by decide +kernel
theorem d1 : decode yB 1 = .ok (.newarray .byte, 2) := by decide +kernel
theorem d3 : decode yB 3 = .ok (.astore_n 3, 1) := by decide +kernel
theorem d4 : decode yB 4 = .ok (.aload_n 0, 1) := by decide +kernel
theorem d5 : decode yB 5 = .ok (.iload_n 1, 1) := by decide +kernel
theorem d6 : decode yB 6 = .ok (.aload_n 3, 1) := by decide +kernel
theorem d7 : decode yB 7 = .ok (.iconst 0, 1) := by decide +kernel
theorem d8 : decode yB 8 = .ok (.iload_n 2, 1) := by decide +kernel
theorem d9 : decode yB 9 = .ok (.invokestatic 115, 3) := by decide +kernel
theorem d12 : decode yB 12 = .ok (.istore 4, 2) := by decide +kernel
theorem d14 : decode yB 14 = .ok (.iload 4, 2) := by decide +kernel
theorem d16 : decode yB 16 = .ok (.iload_n 2, 1) := by decide +kernel
theorem d17 : decode yB 17 = .ok (.if_icmp (.eq) 40, 3) := by decide +kernel
theorem d57 : decode yB 57 = .ok (.aload_n 3, 1) := by decide +kernel
theorem d58 : decode yB 58 = .ok (.areturn, 1) := by decide +kernel
def site : List Cond := [.arrayClass .byte, Cmp5.tab] ++ staticW U16 115 Cmp5.yN
def tab : Cond := tabOf yN yB 6 (some (.array .byte)) site
def P (b : Addr) (A : Cell) (o len : Nat) (args : Array Value) (s : State) : Prop := args = #[.ref b, .int (Int32.ofNat o), .int (Int32.ofNat len)] ∧ Ch b A s ∧ o + len ≤ A.slots.size ∧ len ≤ 536870912 ∧ ∀ i, i < len → ¬ 255 < cv A (o + i)
def E (b : Addr) (A : Cell) (o len : Nat) (r : Option Value) (s u : State) : Prop := NewArr .byte "[B" len (fun j => .int (lo8 (cv A (o + j)))) r s u ∧ u.heap.size = s.heap.size + 1
/-- no char of the range above 255: a new byte[] of their low bytes -/
theorem law (l : Launch) (b : Addr) (A : Cell) (o len : Nat) : Law l yN 3 3 1 18 yB 6 (some (.array .byte)) site (P b A o len) (E b A o len) [] 1 len := by
  refine Law.of_walk (plainFor_of_name (by decide +kernel)) (by decide +kernel) (by decide +kernel) (by decide) (fun _ _ h => by rw [h.1]; rfl) (fun _ U U' hal hh h => ⟨h.1, h.2.1.mv hal hh, h.2.2⟩) (fun r U U' V V' h1 hal h2 h => ⟨NewArr.mv r U U' V V' h1 hal h2 h.1, by rw [h1, h2]; exact h.2⟩) ?_
  intro p e s m args below meth c s₁ X0 hexec hbytes hml hret hlk hnm hown hh0 W hP
  obtain ⟨rfl, hA, l1, l2, hp⟩ := hP
  have a31 := hA.1.2.2.2
  have c1 : Steps p.tables e below (s₁.setTop (entryFrame m #[.ref b, .int (Int32.ofNat o), .int (Int32.ofNat len)] 6)) (s₁.setTop (mkF m 0 #[.val (.ref b), .val (.int (Int32.ofNat o)), .val (.int (Int32.ofNat len)), .unset, .unset, .unset] [])) := entry rfl
  have c2 : Steps p.tables e below (s₁.setTop (entryFrame m #[.ref b, .int (Int32.ofNat o), .int (Int32.ofNat len)] 6)) (s₁.setTop (mkF m 1 #[.val (.ref b), .val (.int (Int32.ofNat o)), .val (.int (Int32.ofNat len)), .unset, .unset, .unset] [.int (Int32.ofNat len)])) := c1.trans (by
    refine XS.iloadN X0.here hexec rfl (hb hbytes d0) rfl ?_
    exact Steps.refl _)
  obtain ⟨T3, B3, X3, ba3, bs3, bv3, bh3, bf3, st3⟩ := X0.anew hexec (atype := .byte) (wk W (.arrayClass .byte)) rfl (by show len * 1 ≤ _; omega) (by omega) (g := (mkF m 1 #[.val (.ref b), .val (.int (Int32.ofNat o)), .val (.int (Int32.ofNat len)), .unset, .unset, .unset] [.int (Int32.ofNat len)])) rfl (hb hbytes d1) (rest := []) rfl (Nat.le_refl _) (by show 0 + len ≤ len; omega)
  rw [hh0] at ba3 st3
  have kp3 : XT.Kept s T3 := (XT.Kept.of_eq hh0).push bh3
  have hA3 := hA.keep X3.warmed.alike (kp3 _ _ hA.1.1)
  have hne : b ≠ s.heap.size := hA.1.ne
  have c4 : Steps p.tables e below (s₁.setTop (entryFrame m #[.ref b, .int (Int32.ofNat o), .int (Int32.ofNat len)] 6)) (T3.setTop (mkF m 3 #[.val (.ref b), .val (.int (Int32.ofNat o)), .val (.int (Int32.ofNat len)), .unset, .unset, .unset] [.ref s.heap.size])) := c2.trans (st3 _ (Steps.refl _))
  have c5 : Steps p.tables e below (s₁.setTop (entryFrame m #[.ref b, .int (Int32.ofNat o), .int (Int32.ofNat len)] 6)) (T3.setTop (mkF m 9 #[.val (.ref b), .val (.int (Int32.ofNat o)), .val (.int (Int32.ofNat len)), .val (.ref s.heap.size), .unset, .unset] [.int (Int32.ofNat len), .int 0, .ref s.heap.size, .int (Int32.ofNat o), .ref b])) := c4.trans (by
    refine XS.astoreN X3.here hexec rfl (hb hbytes d3) rfl rfl rfl ?_
    refine XS.aloadN X3.here hexec rfl (hb hbytes d4) rfl rfl ?_
    refine XS.iloadN X3.here hexec rfl (hb hbytes d5) rfl ?_
    refine XS.aloadN X3.here hexec rfl (hb hbytes d6) rfl rfl ?_
    refine iconstV X3.here hexec rfl 0 (hb hbytes d7) (by decide) ?_
    refine XS.iloadN X3.here hexec rfl (hb hbytes d8) rfl ?_
    exact Steps.refl _)
  obtain ⟨v6, T6, X6, E6, g6⟩ := X3.callS hexec (Cmp5.law l b A s.heap.size B3 o 0 len) hown (wks W (staticW U16 115 Cmp5.yN)) (wk W Cmp5.tab) (W := 0) (Nat.le_of_ble_eq_true rfl) (Nat.le_of_ble_eq_true rfl) (Nat.le_refl _) (by show 0 + len + 0 ≤ len; omega) (g := (mkF m 9 #[.val (.ref b), .val (.int (Int32.ofNat o)), .val (.int (Int32.ofNat len)), .val (.ref s.heap.size), .unset, .unset] [.int (Int32.ofNat len), .int (Int32.ofNat 0), .ref s.heap.size, .int (Int32.ofNat o), .ref b])) rfl (by rw [hml]; rfl) c5 (argsL := [.ref b, .int (Int32.ofNat o), .ref s.heap.size, .int (Int32.ofNat 0), .int (Int32.ofNat len)]) (rest := []) rfl rfl (by show 2 * 0 + 0 ≤ _; decide) (hb hbytes d9) (⟨rfl, hA3, ba3, hne, l1, by rw [bs3]; simp, hp⟩)
  obtain ⟨rfl, B6, p6, f6⟩ := E6
  have c7 : Steps p.tables e below (s₁.setTop (entryFrame m #[.ref b, .int (Int32.ofNat o), .int (Int32.ofNat len)] 6)) (T6.setTop (mkF m 12 #[.val (.ref b), .val (.int (Int32.ofNat o)), .val (.int (Int32.ofNat len)), .val (.ref s.heap.size), .unset, .unset] [.int (Int32.ofNat len)])) := g6
  have c8 : Steps p.tables e below (s₁.setTop (entryFrame m #[.ref b, .int (Int32.ofNat o), .int (Int32.ofNat len)] 6)) (T6.setTop (mkF m 58 #[.val (.ref b), .val (.int (Int32.ofNat o)), .val (.int (Int32.ofNat len)), .val (.ref s.heap.size), .val (.int (Int32.ofNat len)), .unset] [.ref s.heap.size])) := c7.trans (by
    refine XS.istore X6.here hexec rfl (hb hbytes d12) rfl rfl ?_
    refine XS.iload X6.here hexec rfl (hb hbytes d14) rfl ?_
    refine XS.iloadN X6.here hexec rfl (hb hbytes d16) rfl ?_
    refine XS.icmpYes X6.here hexec rfl (pc0 := 17) rfl (hb hbytes d17) rfl (ii_eq_t rfl) (by decide) rfl ?_
    refine XS.aloadN X6.here hexec rfl (hb hbytes d57) rfl rfl ?_
    exact Steps.refl _)
  have X8 := X6.wide (L' := []) (cells' := 1) (slots' := len) (fun x hx hlt => by
    simp only [List.nil_append, copyLocs, List.mem_map, List.mem_range] at hx
    obtain ⟨i, -, rfl⟩ := hx
    exact absurd hlt (Nat.lt_irrefl _)) (Nat.le_refl _) (by omega)
  exact ⟨T6, some (.ref s.heap.size), _, _, _, X8, rfl, rfl, rfl, (fun h => by cases h), ⟨⟨rfl, B6, ba3.like (X3.warmed.alike.symm.trans X6.warmed.alike) p6.1 f6.1 f6.2.1 f6.2.2.1, f6.2.1.trans bv3, by rw [X6.warmed.alike.findClass, f6.1]; exact bf3, by rw [f6.2.2.1, bs3]; simp, fun j hj => by rw [f6.2.2.2 j, if_pos (by omega)]; rfl, kp3.put p6 (Nat.le_refl _)⟩, by rw [p6.2.2, bh3, hh0]; simp⟩, fun fs hl => c8.trans (X8.areturnOut hexec rfl hret rfl (hb hbytes d58) hl)⟩
end Cmp3
namespace CodL
def yN : MethodName := ⟨"java/lang/StringUTF16", "coderFromArrayLen", "([BI)B"⟩
abbrev yB : ByteArray := jdk_52_method_15_code
theorem d0 : decode yB 0 = .ok (.iload_n 1, 1) := by decide +kernel
theorem d1 : decode yB 1 = .ok (.aload_n 0, 1) := by decide +kernel
theorem d2 : decode yB 2 = .ok (.arraylength, 1) := by decide +kernel
theorem d3 : decode yB 3 = .ok (.isub, 1) := by decide +kernel
theorem d4 : decode yB 4 = .ok (.bipush 31, 2) := by decide +kernel
theorem d6 : decode yB 6 = .ok (.iushr, 1) := by decide +kernel
theorem d7 : decode yB 7 = .ok (.i2b, 1) := by decide +kernel
theorem d8 : decode yB 8 = .ok (.ireturn, 1) := by decide +kernel
def site : List Cond := []
def tab : Cond := tabOf yN yB 2 (some .byte) site
def P (d : Addr) (B : Cell) (args : Array Value) (s : State) : Prop := args = #[.ref d, .int (Int32.ofNat B.slots.size)] ∧ Arr .byte d B s
def E (r : Option Value) (s u : State) : Prop := XT.PureE (some (.int 0)) r s u
/-- an array as long as the number of chars: LATIN1 -/
theorem law (l : Launch) (d : Addr) (B : Cell) : Law l yN 2 2 0 0 yB 2 (some .byte) site (P d B) E [] 0 0 := by
  refine Law.of_walk (plainFor_of_name (by decide +kernel)) (by decide +kernel) (by decide +kernel) (by decide) (fun _ _ h => by rw [h.1]; rfl) (fun _ U U' hal hh h => ⟨h.1, h.2.mv hal hh⟩) (fun r U U' V V' h1 hal h2 h => XT.PureE.mv r U U' V V' h1 hal h2 h) ?_
  intro p e s m args below meth c s₁ X0 hexec hbytes hml hret hlk hnm hown hh0 W hP
  obtain ⟨rfl, hB⟩ := hP
  have hB0 := hB.mv X0.warmed.alike hh0
  have c1 : Steps p.tables e below (s₁.setTop (entryFrame m #[.ref d, .int (Int32.ofNat B.slots.size)] 2)) (s₁.setTop (mkF m 0 #[.val (.ref d), .val (.int (Int32.ofNat B.slots.size))] [])) := entry rfl
  have c2 : Steps p.tables e below (s₁.setTop (entryFrame m #[.ref d, .int (Int32.ofNat B.slots.size)] 2)) (s₁.setTop (mkF m 2 #[.val (.ref d), .val (.int (Int32.ofNat B.slots.size))] [.ref d, .int (Int32.ofNat B.slots.size)])) := c1.trans (by
    refine XS.iloadN X0.here hexec rfl (hb hbytes d0) rfl ?_
    refine XS.aloadN X0.here hexec rfl (hb hbytes d1) rfl rfl ?_
    exact Steps.refl _)
  have c3 : Steps p.tables e below (s₁.setTop (entryFrame m #[.ref d, .int (Int32.ofNat B.slots.size)] 2)) (s₁.setTop (mkF m 8 #[.val (.ref d), .val (.int (Int32.ofNat B.slots.size))] [.int (lo8 (ushr (Int32.ofNat B.slots.size - Int32.ofNat B.slots.size) 31))])) := c2.trans (by
    refine X0.alen hexec hB0 rfl rfl (hb hbytes d2) ?_
    refine XS.isub X0.here hexec rfl (hb hbytes d3) rfl ?_
    refine bipushV X0.here hexec rfl 31 (hb hbytes d4) (by decide) ?_
    refine iushr X0.here hexec rfl (hb hbytes d6) rfl ?_
    refine i2b X0.here hexec rfl (hb hbytes d7) rfl ?_
    exact Steps.refl _)
  have e0 : lo8 (ushr (Int32.ofNat B.slots.size - Int32.ofNat B.slots.size) 31) = 0 := by rw [Int32.sub_self]; decide
  rw [e0] at c3
  exact ⟨s₁, some (.int 0), _, _, _, X0, rfl, rfl, rfl, (fun h => by cases h), ⟨rfl, hh0⟩, fun fs hl => c3.trans (X0.ireturnOut hexec hret rfl (Or.inr (Or.inr (Or.inl rfl))) (hb hbytes d8) hl)⟩
end CodL
/-- the String at a is Latin-1 over a new byte[] (the heap's one new cell): the low bytes of the len chars of A from o on; every cell but a is kept -/
def Got (a : Addr) (D : Cell) (fV fC : Field) (A : Cell) (o len : Nat) (r : Option Value) (s u : State) : Prop := r = none ∧ ∃ D' V : Cell, Blank "java/lang/String" a D' u ∧ Same D D' [fV.slot, fC.slot] ∧ D'.slots[fV.slot]? = some (.ref s.heap.size) ∧ D'.slots[fC.slot]? = some (.int 0) ∧ Arr .byte s.heap.size V u ∧ V.vm = .none ∧ u.vm.findClass "[B" = some V.cls ∧ V.slots.size = len ∧ (∀ j, j < len → V.slots[j]? = some (.int (lo8 (cv A (o + j))))) ∧ (∀ (y : Addr) (c : Cell), y ≠ a → s.heap[y]? = some c → u.heap[y]? = some c) ∧ u.heap.size = s.heap.size + 1
theorem Got.mv {a : Addr} {D A : Cell} {fV fC : Field} {o len : Nat} : ∀ r (U U' V V' : State), U'.heap = U.heap → V.vm.Alike V'.vm → V'.heap = V.heap → Got a D fV fC A o len r U V → Got a D fV fC A o len r U' V' :=
  fun r U U' V V' h1 hal h2 ⟨e0, D', X, a1, a2, a3, a4, a5, a6, a7, a8, a9, a10, a11⟩ => ⟨e0, D', X, a1.mv hal h2, a2, by rw [h1]; exact a3, a4, by rw [h1]; exact a5.mv hal h2, a6, by rw [hal.findClass]; exact a7, a8, a9, by rw [h1, h2]; exact a10, by rw [h1, h2]; exact a11⟩
namespace New4
def yN : MethodName := ⟨"java/lang/String", "<init>", "([CIILjava/lang/Void;)V"⟩
abbrev yB : ByteArray := jdk_42_method_149_code
theorem d0 : decode yB 0 = .ok (.aload_n 0, 1) := by decide +kernel
theorem d1 : decode yB 1 = .ok (.invokespecial 1, 3) := by decide +kernel
theorem d4 : decode yB 4 = .ok (.iload_n 3, 1) := by decide +kernel
theorem d5 : decode yB 5 = .ok (.ifCond (.ne) 22, 3) := by decide +kernel
theorem d27 : decode yB 27 = .ok (.getstatic 38, 3) := by decide +kernel
theorem d30 : decode yB 30 = .ok (.ifCond (.eq) 28, 3) := by decide +kernel
theorem d33 : decode yB 33 = .ok (.aload_n 1, 1) := by decide +kernel
theorem d34 : decode yB 34 = .ok (.iload_n 2, 1) := by decide +kernel
theorem d35 : decode yB 35 = .ok (.iload_n 3, 1) := by decide +kernel
theorem d36 : decode yB 36 = .ok (.invokestatic 177, 3) := by decide +kernel
theorem d39 : decode yB 39 = .ok (.astore 5, 2) := by decide +kernel
theorem d41 : decode yB 41 = .ok (.aload_n 0, 1) := by decide +kernel
theorem d42 : decode yB 42 = .ok (.aload 5, 2) := by decide +kernel
theorem d44 : decode yB 44 = .ok (.iload_n 3, 1) := by decide +kernel
theorem d45 : decode yB 45 = .ok (.invokestatic 47, 3) := by decide +kernel
theorem d48 : decode yB 48 = .ok (.putfield 15, 3) := by decide +kernel
theorem d51 : decode yB 51 = .ok (.aload_n 0, 1) := by decide +kernel
theorem d52 : decode yB 52 = .ok (.aload 5, 2) := by decide +kernel
theorem d54 : decode yB 54 = .ok (.putfield 9, 3) := by decide +kernel
theorem d57 : decode yB 57 = .ok (.return_, 1) := by decide +kernel
def site : List Cond := [.fieldLink "java/lang/String" 38 "java/lang/String" "COMPACT_STRINGS" "Z", Cmp3.tab, CodL.tab, .laysFinal "java/lang/String" "java/lang/String" "value" "[B", .fieldLink "java/lang/String" 9 "java/lang/String" "value" "[B", .laysFinal "java/lang/String" "java/lang/String" "coder" "B", .fieldLink "java/lang/String" 15 "java/lang/String" "coder" "B"] ++ objW "java/lang/String" 1 ++ staticW "java/lang/String" 177 Cmp3.yN ++ staticW "java/lang/String" 47 CodL.yN
def tab : Cond := tabOf yN yB 6 none site
def P (a : Addr) (D : Cell) (fV fC : Field) (b : Addr) (A : Cell) (z : Int32) (o len : Nat) (args : Array Value) (s : State) : Prop := args = #[.ref a, .ref b, .int (Int32.ofNat o), .int (Int32.ofNat len), .null] ∧ Blank "java/lang/String" a D s ∧ Found "java/lang/String" "value" "[B" fV s ∧ Found "java/lang/String" "coder" "B" fC s ∧ Ch b A s ∧ StaticIs s "java/lang/String" "COMPACT_STRINGS" "Z" (.int z) ∧ ¬ z = 0 ∧ 0 < len ∧ o + len ≤ A.slots.size ∧ len ≤ 536870912 ∧ ∀ i, i < len → ¬ 255 < cv A (o + i)
def E (a : Addr) (D : Cell) (fV fC : Field) (A : Cell) (o len : Nat) (r : Option Value) (s u : State) : Prop := Got a D fV fC A o len r s u
/-- len > 0, no char of the range above 255: a Latin-1 String of their low bytes -/
theorem law (l : Launch) (a : Addr) (D : Cell) (fV fC : Field) (b : Addr) (A : Cell) (z : Int32) (o len : Nat) : Law l yN 5 4 2 35 yB 6 none site (P a D fV fC b A z o len) (E a D fV fC A o len) [⟨a, fC.slot⟩, ⟨a, fV.slot⟩] 1 len := by
  refine Law.of_walk (plainFor_of_name (by decide +kernel)) (by decide +kernel) (by decide +kernel) (by decide) (fun _ _ h => by rw [h.1]; rfl) (fun _ U U' hal hh h => ⟨h.1, h.2.1.mv hal hh, h.2.2.1.al hal, h.2.2.2.1.al hal, h.2.2.2.2.1.mv hal hh, h.2.2.2.2.2.1.there hal hh, h.2.2.2.2.2.2⟩) (fun r U U' V V' h1 hal h2 h => Got.mv r U U' V V' h1 hal h2 h) ?_
  intro p e s m args below meth c s₁ X0 hexec hbytes hml hret hlk hnm hown hh0 W hP
  obtain ⟨rfl, hB, f1, f2, hA, s1, hz, l0, l1, l2, hp⟩ := hP
  have a31 := hA.1.2.2.2
  have c1 : Steps p.tables e below (s₁.setTop (entryFrame m #[.ref a, .ref b, .int (Int32.ofNat o), .int (Int32.ofNat len), .null] 6)) (s₁.setTop (mkF m 0 #[.val (.ref a), .val (.ref b), .val (.int (Int32.ofNat o)), .val (.int (Int32.ofNat len)), .val .null, .unset] [])) := entry rfl
  have c2 : Steps p.tables e below (s₁.setTop (entryFrame m #[.ref a, .ref b, .int (Int32.ofNat o), .int (Int32.ofNat len), .null] 6)) (s₁.setTop (mkF m 1 #[.val (.ref a), .val (.ref b), .val (.int (Int32.ofNat o)), .val (.int (Int32.ofNat len)), .val .null, .unset] [.ref a])) := c1.trans (by
    refine XS.aloadN X0.here hexec rfl (hb hbytes d0) rfl rfl ?_
    exact Steps.refl _)
  obtain ⟨T3, X3, q3, st3⟩ := X0.oinit hexec hown (wks W (objW "java/lang/String" 1)) (g := (mkF m 1 #[.val (.ref a), .val (.ref b), .val (.int (Int32.ofNat o)), .val (.int (Int32.ofNat len)), .val .null, .unset] [.ref a])) rfl (by rw [hml]; rfl) (rest := []) rfl (hb hbytes d1) (W := 0) (by show 2 * 0 + 0 ≤ _; decide) (Nat.le_of_ble_eq_true rfl) (Nat.le_of_ble_eq_true rfl)
  have hh3 := q3.trans hh0
  have c4 : Steps p.tables e below (s₁.setTop (entryFrame m #[.ref a, .ref b, .int (Int32.ofNat o), .int (Int32.ofNat len), .null] 6)) (T3.setTop (mkF m 27 #[.val (.ref a), .val (.ref b), .val (.int (Int32.ofNat o)), .val (.int (Int32.ofNat len)), .val .null, .unset] [])) := (c2.trans (st3 _ (Steps.refl _))).trans (by
    refine XS.iloadN X3.here hexec rfl (hb hbytes d4) rfl ?_
    refine XS.ifYes X3.here hexec rfl (pc0 := 5) rfl (hb hbytes d5) rfl (i0_ne_t (nz32 (by omega) l0)) (by decide) rfl ?_
    exact Steps.refl _)
  obtain ⟨T5, X5, q5, st5⟩ := X3.sget hexec hown (wk W (.fieldLink "java/lang/String" 38 "java/lang/String" "COMPACT_STRINGS" "Z")) s1 (fun _ _ h => by rw [hh3]; exact h) (g := (mkF m 27 #[.val (.ref a), .val (.ref b), .val (.int (Int32.ofNat o)), .val (.int (Int32.ofNat len)), .val .null, .unset] [])) rfl (hb hbytes d27)
  have hh5 := q5.trans hh3
  have c6 : Steps p.tables e below (s₁.setTop (entryFrame m #[.ref a, .ref b, .int (Int32.ofNat o), .int (Int32.ofNat len), .null] 6)) (T5.setTop (mkF m 30 #[.val (.ref a), .val (.ref b), .val (.int (Int32.ofNat o)), .val (.int (Int32.ofNat len)), .val .null, .unset] [.int z])) := c4.trans (st5 _ (Steps.refl _))
  have c7 : Steps p.tables e below (s₁.setTop (entryFrame m #[.ref a, .ref b, .int (Int32.ofNat o), .int (Int32.ofNat len), .null] 6)) (T5.setTop (mkF m 36 #[.val (.ref a), .val (.ref b), .val (.int (Int32.ofNat o)), .val (.int (Int32.ofNat len)), .val .null, .unset] [.int (Int32.ofNat len), .int (Int32.ofNat o), .ref b])) := c6.trans (by
    refine XS.ifNo X5.here hexec rfl (hb hbytes d30) rfl (i0_eq_f hz) ?_
    refine XS.aloadN X5.here hexec rfl (hb hbytes d33) rfl rfl ?_
    refine XS.iloadN X5.here hexec rfl (hb hbytes d34) rfl ?_
    refine XS.iloadN X5.here hexec rfl (hb hbytes d35) rfl ?_
    exact Steps.refl _)
  obtain ⟨v8, T8, X8, E8, g8⟩ := X5.callS hexec (Cmp3.law l b A o len) hown (wks W (staticW "java/lang/String" 177 Cmp3.yN)) (wk W Cmp3.tab) (W := 0) (Nat.le_of_ble_eq_true rfl) (Nat.le_of_ble_eq_true rfl) (Nat.le_refl _) (by show 0 + len ≤ len; omega) (g := (mkF m 36 #[.val (.ref a), .val (.ref b), .val (.int (Int32.ofNat o)), .val (.int (Int32.ofNat len)), .val .null, .unset] [.int (Int32.ofNat len), .int (Int32.ofNat o), .ref b])) rfl (by rw [hml]; rfl) c7 (argsL := [.ref b, .int (Int32.ofNat o), .int (Int32.ofNat len)]) (rest := []) rfl rfl (by show 2 * 0 + 0 ≤ _; decide) (hb hbytes d36) (⟨rfl, hA.mv X5.warmed.alike hh5, l1, l2, hp⟩)
  obtain ⟨e8, z8⟩ := E8
  obtain ⟨rfl, N, n1, n2, n3, n4, n5, n6⟩ := NewArr.mv _ T5 s _ _ hh5.symm (Vm.Alike.refl _) rfl e8
  rw [hh5] at z8
  have hB1 := hB.keep X8.warmed.alike (n6 _ _ hB.1)
  have hne : s.heap.size ≠ a := (Nat.ne_of_lt (Array.getElem?_eq_some_iff.mp hB.1).1).symm
  have c9 : Steps p.tables e below (s₁.setTop (entryFrame m #[.ref a, .ref b, .int (Int32.ofNat o), .int (Int32.ofNat len), .null] 6)) (T8.setTop (mkF m 39 #[.val (.ref a), .val (.ref b), .val (.int (Int32.ofNat o)), .val (.int (Int32.ofNat len)), .val .null, .unset] [.ref s.heap.size])) := g8
  have c10 : Steps p.tables e below (s₁.setTop (entryFrame m #[.ref a, .ref b, .int (Int32.ofNat o), .int (Int32.ofNat len), .null] 6)) (T8.setTop (mkF m 45 #[.val (.ref a), .val (.ref b), .val (.int (Int32.ofNat o)), .val (.int (Int32.ofNat len)), .val .null, .val (.ref s.heap.size)] [.int (Int32.ofNat N.slots.size), .ref s.heap.size, .ref a])) := by
    have hc : Steps p.tables e below (s₁.setTop (entryFrame m #[.ref a, .ref b, .int (Int32.ofNat o), .int (Int32.ofNat len), .null] 6)) (T8.setTop (mkF m 45 #[.val (.ref a), .val (.ref b), .val (.int (Int32.ofNat o)), .val (.int (Int32.ofNat len)), .val .null, .val (.ref s.heap.size)] [.int (Int32.ofNat len), .ref s.heap.size, .ref a])) := c9.trans (by
      refine XS.astore X8.here hexec rfl (hb hbytes d39) rfl rfl rfl ?_
      refine XS.aloadN X8.here hexec rfl (hb hbytes d41) rfl rfl ?_
      refine XS.aload X8.here hexec rfl (hb hbytes d42) rfl rfl ?_
      refine XS.iloadN X8.here hexec rfl (hb hbytes d44) rfl ?_
      exact Steps.refl _)
    rw [n4]; exact hc
  obtain ⟨v11, T11, X11, E11, g11⟩ := X8.callS hexec (CodL.law l s.heap.size N) hown (wks W (staticW "java/lang/String" 47 CodL.yN)) (wk W CodL.tab) (W := 1) (Nat.le_of_ble_eq_true rfl) (Nat.le_of_ble_eq_true rfl) (Nat.le_refl _) (by show 0 + len + 0 ≤ len; omega) (g := (mkF m 45 #[.val (.ref a), .val (.ref b), .val (.int (Int32.ofNat o)), .val (.int (Int32.ofNat len)), .val .null, .val (.ref s.heap.size)] [.int (Int32.ofNat N.slots.size), .ref s.heap.size, .ref a])) rfl (by rw [hml]; rfl) c10 (argsL := [.ref s.heap.size, .int (Int32.ofNat N.slots.size)]) (rest := [.ref a]) rfl rfl (by show 2 * 0 + (1 + 0) ≤ _; decide) (hb hbytes d45) (⟨rfl, n1⟩)
  obtain ⟨rfl, q11⟩ := E11
  have hB11 := hB1.mv (X8.warmed.alike.symm.trans X11.warmed.alike) q11
  have c12 : Steps p.tables e below (s₁.setTop (entryFrame m #[.ref a, .ref b, .int (Int32.ofNat o), .int (Int32.ofNat len), .null] 6)) (T11.setTop (mkF m 48 #[.val (.ref a), .val (.ref b), .val (.int (Int32.ofNat o)), .val (.int (Int32.ofNat len)), .val .null, .val (.ref s.heap.size)] [.int 0, .ref a])) := g11
  obtain ⟨T13, X13, p13, bl13, sl13, st13⟩ := X11.finit hexec hown (wk W (.fieldLink "java/lang/String" 15 "java/lang/String" "coder" "B")) (Or.inr ⟨_, (wk W (.laysFinal "java/lang/String" "java/lang/String" "coder" "B"))⟩) (Or.inl ⟨rfl, hnm⟩) f2 (Or.inl rfl) hB11 (t := .byte) (by decide +kernel) rfl (g := (mkF m 48 #[.val (.ref a), .val (.ref b), .val (.int (Int32.ofNat o)), .val (.int (Int32.ofNat len)), .val .null, .val (.ref s.heap.size)] [.int 0, .ref a])) rfl (rest := []) rfl (hb hbytes d48)
  have c14 : Steps p.tables e below (s₁.setTop (entryFrame m #[.ref a, .ref b, .int (Int32.ofNat o), .int (Int32.ofNat len), .null] 6)) (T13.setTop (mkF m 54 #[.val (.ref a), .val (.ref b), .val (.int (Int32.ofNat o)), .val (.int (Int32.ofNat len)), .val .null, .val (.ref s.heap.size)] [.ref s.heap.size, .ref a])) := (c12.trans (st13 _ (Steps.refl _))).trans (by
    refine XS.aloadN X13.here hexec rfl (hb hbytes d51) rfl rfl ?_
    refine XS.aload X13.here hexec rfl (hb hbytes d52) rfl rfl ?_
    exact Steps.refl _)
  obtain ⟨T15, X15, p15, bl15, sl15, st15⟩ := X13.finit hexec hown (wk W (.fieldLink "java/lang/String" 9 "java/lang/String" "value" "[B")) (Or.inr ⟨_, (wk W (.laysFinal "java/lang/String" "java/lang/String" "value" "[B"))⟩) (Or.inl ⟨rfl, hnm⟩) f1 (Or.inl rfl) bl13 (t := (.array .byte)) (by decide +kernel) rfl (g := (mkF m 54 #[.val (.ref a), .val (.ref b), .val (.int (Int32.ofNat o)), .val (.int (Int32.ofNat len)), .val .null, .val (.ref s.heap.size)] [.ref s.heap.size, .ref a])) rfl (rest := []) rfl (hb hbytes d54)
  have c16 : Steps p.tables e below (s₁.setTop (entryFrame m #[.ref a, .ref b, .int (Int32.ofNat o), .int (Int32.ofNat len), .null] 6)) (T15.setTop (mkF m 57 #[.val (.ref a), .val (.ref b), .val (.int (Int32.ofNat o)), .val (.int (Int32.ofNat len)), .val .null, .val (.ref s.heap.size)] [])) := c14.trans (st15 _ (Steps.refl _))
  have ap := apart (Or.inr ⟨_, (wk W (.laysFinal "java/lang/String" "java/lang/String" "value" "[B"))⟩) (Or.inr ⟨_, (wk W (.laysFinal "java/lang/String" "java/lang/String" "coder" "B"))⟩) f1 f2 (t₁ := .array .byte) (t₂ := .byte) (by decide +kernel) (by decide +kernel) (by decide)
  have al := X8.warmed.alike.symm.trans X15.warmed.alike
  have n7 : T11.heap[s.heap.size]? = some N := by rw [q11]; exact n1.1
  exact ⟨T15, none, _, _, _, X15, by simp, rfl, by omega, (fun _ => rfl), ⟨rfl, _, N, bl15, ((Same.refl D _).set _ (by simp)).set _ (by simp), sl15, (Cell.slots_setSlot_ne _ ap).trans sl13, n1.keep al (p15.other hne (p13.other hne n7)), n2, by rw [al.findClass]; exact n3, n4, n5, fun y c h1 h2 => p15.other h1 (p13.other h1 (by rw [q11]; exact n6 y c h2)), by rw [p15.2.2, p13.2.2, q11]; exact z8⟩, fun fs hl => c16.trans (X15.returnOut hexec hret (hb hbytes d57) hl)⟩
end New4
namespace New1
def yN : MethodName := ⟨"java/lang/String", "<init>", "([C)V"⟩
abbrev yB : ByteArray := jdk_42_method_3_code
theorem d0 : decode yB 0 = .ok (.aload_n 0, 1) := by decide +kernel
theorem d1 : decode yB 1 = .ok (.aload_n 1, 1) := by decide +kernel
theorem d2 : decode yB 2 = .ok (.iconst 0, 1) := by decide +kernel
theorem d3 : decode yB 3 = .ok (.aload_n 1, 1) := by decide +kernel
theorem d4 : decode yB 4 = .ok (.arraylength, 1) := by decide +kernel
theorem d5 : decode yB 5 = .ok (.aconst_null, 1) := by decide +kernel
theorem d6 : decode yB 6 = .ok (.invokespecial 27, 3) := by decide +kernel
theorem d9 : decode yB 9 = .ok (.return_, 1) := by decide +kernel
def site : List Cond := [New4.tab] ++ initW "java/lang/String" 27 New4.yN
def tab : Cond := tabOf yN yB 2 none site
def P (a : Addr) (D : Cell) (fV fC : Field) (b : Addr) (A : Cell) (z : Int32) (args : Array Value) (s : State) : Prop := args = #[.ref a, .ref b] ∧ Blank "java/lang/String" a D s ∧ Found "java/lang/String" "value" "[B" fV s ∧ Found "java/lang/String" "coder" "B" fC s ∧ Ch b A s ∧ StaticIs s "java/lang/String" "COMPACT_STRINGS" "Z" (.int z) ∧ ¬ z = 0 ∧ 0 < A.slots.size ∧ A.slots.size ≤ 536870912 ∧ ∀ i, i < A.slots.size → ¬ 255 < cv A i
def E (a : Addr) (D : Cell) (fV fC : Field) (A : Cell) (r : Option Value) (s u : State) : Prop := Got a D fV fC A 0 A.slots.size r s u
/-- new String(chars), not empty, no char above 255: a Latin-1 String of their low bytes -/
theorem law (l : Launch) (a : Addr) (D : Cell) (fV fC : Field) (b : Addr) (A : Cell) (z : Int32) : Law l yN 2 1 3 52 yB 2 none site (P a D fV fC b A z) (E a D fV fC A) [⟨a, fC.slot⟩, ⟨a, fV.slot⟩] 1 A.slots.size := by
  refine Law.of_walk (plainFor_of_name (by decide +kernel)) (by decide +kernel) (by decide +kernel) (by decide) (fun _ _ h => by rw [h.1]; rfl) (fun _ U U' hal hh h => ⟨h.1, h.2.1.mv hal hh, h.2.2.1.al hal, h.2.2.2.1.al hal, h.2.2.2.2.1.mv hal hh, h.2.2.2.2.2.1.there hal hh, h.2.2.2.2.2.2⟩) (fun r U U' V V' h1 hal h2 h => Got.mv r U U' V V' h1 hal h2 h) ?_
  intro p e s m args below meth c s₁ X0 hexec hbytes hml hret hlk hnm hown hh0 W hP
  obtain ⟨rfl, hB, f1, f2, hA, s1, hz, l0, l2, hp⟩ := hP
  have c1 : Steps p.tables e below (s₁.setTop (entryFrame m #[.ref a, .ref b] 2)) (s₁.setTop (mkF m 0 #[.val (.ref a), .val (.ref b)] [])) := entry rfl
  have c2 : Steps p.tables e below (s₁.setTop (entryFrame m #[.ref a, .ref b] 2)) (s₁.setTop (mkF m 6 #[.val (.ref a), .val (.ref b)] [.null, .int (Int32.ofNat A.slots.size), .int 0, .ref b, .ref a])) := c1.trans (by
    refine XS.aloadN X0.here hexec rfl (hb hbytes d0) rfl rfl ?_
    refine XS.aloadN X0.here hexec rfl (hb hbytes d1) rfl rfl ?_
    refine iconstV X0.here hexec rfl 0 (hb hbytes d2) (by decide) ?_
    refine XS.aloadN X0.here hexec rfl (hb hbytes d3) rfl rfl ?_
    refine X0.alen hexec (hA.1.mv X0.warmed.alike hh0) rfl rfl (hb hbytes d4) ?_
    refine XS.aconstNull X0.here hexec rfl (hb hbytes d5) ?_
    exact Steps.refl _)
  obtain ⟨v3, T3, X3, E3, g3⟩ := X0.callN hexec (New4.law l a D fV fC b A z 0 A.slots.size) rfl hown (wks W (initW "java/lang/String" 27 New4.yN)) (W New4.tab (by simp only [site, List.mem_cons, List.mem_append, true_or, or_true])) (W := 0) (Nat.le_of_ble_eq_true rfl) (Nat.le_of_ble_eq_true rfl) (Nat.le_refl _) (by show 0 + A.slots.size ≤ A.slots.size; omega) (g := (mkF m 6 #[.val (.ref a), .val (.ref b)] [.null, .int (Int32.ofNat A.slots.size), .int (Int32.ofNat 0), .ref b, .ref a])) rfl (by rw [hml]; rfl) c2 (argsL := [.ref b, .int (Int32.ofNat 0), .int (Int32.ofNat A.slots.size), .null]) (rest := []) rfl rfl (by show 2 * 0 + 0 ≤ _; decide) (hb hbytes d6) (⟨rfl, hB.mv X0.warmed.alike hh0, f1.al X0.warmed.alike, f2.al X0.warmed.alike, hA.mv X0.warmed.alike hh0, s1.there X0.warmed.alike hh0, hz, l0, by omega, l2, fun i hi => by rw [Nat.zero_add]; exact hp i hi⟩)
  have e0 := Got.mv _ s₁ s _ _ hh0.symm (Vm.Alike.refl _) rfl E3
  obtain rfl := e0.1
  have c4 : Steps p.tables e below (s₁.setTop (entryFrame m #[.ref a, .ref b] 2)) (T3.setTop (mkF m 9 #[.val (.ref a), .val (.ref b)] [])) := g3
  exact ⟨T3, none, _, _, _, X3, by simp, rfl, by omega, (fun _ => rfl), e0, fun fs hl => c4.trans (X3.returnOut hexec hret (hb hbytes d9) hl)⟩
theorem pays {l : Launch} {R : Room} {p : Program} {e : Env} {below : List Frame} {s : State} {sargs : Array Value} {len W : Nat} (a : Addr) (D : Cell) (fV fC : Field) (b : Addr) (A : Cell) (z : Int32) (htab : tab.before sargs s = true) (hfr : 4 ≤ R.frames) (hlo : W + 65 ≤ R.locals) :
    Back l R p e below s sargs yN len W (fun A₁ a₁ => A₁.cells + 1 ≤ R.cells ∧ A₁.slots + A.slots.size ≤ R.slots ∧ P a D fV fC b A z a₁ A₁.U) (fun A₁ _ v₁ B₁ => E a D fV fC A v₁ A₁.U B₁.U ∧ B₁.locs = A₁.locs ++ [⟨a, fC.slot⟩, ⟨a, fV.slot⟩] ∧ B₁.cells = A₁.cells + 1 ∧ B₁.slots = A₁.slots + A.slots.size) :=
  (law l a D fV fC b A z).pays htab hfr (by omega)
end New1
/-- the byte, read back as charAt reads it, is the char -/
theorem lo8_mask {x : Int32} (h0 : ¬ x < 0) (h1 : ¬ 255 < x) : lo8 x &&& 255 = x := by
  have t : ∀ k : Fin 256, lo8 (Int32.ofNat k.val) &&& 255 = Int32.ofNat k.val := by decide +kernel
  rw [Int32.lt_iff_toInt_lt] at h0 h1
  have e0 : (0 : Int32).toInt = 0 := rfl
  have e1 : (255 : Int32).toInt = 255 := rfl
  obtain ⟨k, hk⟩ : ∃ k : Nat, x.toInt = k := ⟨x.toInt.toNat, by omega⟩
  have hx : x = Int32.ofNat k := Int32.toInt_inj.mp (by rw [hk, Int32.toInt_ofNat_small (by omega)])
  rw [hx]
  exact t ⟨k, by omega⟩
end StrChars
namespace StrChars.Road
open Jvm Sem ClassFile Op Lib Jvm.Stand Jvm.Free Jvm.Free.XT
open Jvm.Lib.Cold (StaticIs)
abbrev ST : String := "java/lang/String"
/-- every table word that New1's law asks, flat -/
abbrev words : List Jvm.Cond := [.code New1.yN New1.yB 2 none, .initialized ST, .methodLink ST 27 New4.yN, .instanceMethod New4.yN,
  .code New4.yN New4.yB 6 none, .fieldLink ST 38 ST "COMPACT_STRINGS" "Z", .laysFinal ST ST "value" "[B", .fieldLink ST 9 ST "value" "[B", .laysFinal ST ST "coder" "B", .fieldLink ST 15 ST "coder" "B",
  .methodLink ST 1 Lib.objectInit, .instanceMethod Lib.objectInit, .code Lib.objectInit ⟨#[0xb1]⟩ 1 none, .methodLink ST 177 Cmp3.yN, .static Cmp3.yN, .methodLink ST 47 CodL.yN, .static CodL.yN,
  .code Cmp3.yN Cmp3.yB 6 (some (.array .byte)), .initialized U16, .arrayClass .byte, .methodLink U16 115 Cmp5.yN, .static Cmp5.yN, .code Cmp5.yN Cmp5.yB 7 (some .int), .code CodL.yN CodL.yB 2 (some .byte)]
theorem tab_of {a : Array Value} {s : State} (h : ∀ w ∈ words, w.before a s = true) : New1.tab.before a s = true := by
  have h5 : Cmp5.tab.before a s = true := unparts (wk h (.code Cmp5.yN Cmp5.yB 7 (some .int))) (wks h (.initialized Cmp5.yN.cls :: Cmp5.site))
  have hc : CodL.tab.before a s = true := unparts (wk h (.code CodL.yN CodL.yB 2 (some .byte))) (wks h (.initialized CodL.yN.cls :: CodL.site))
  have q5 : ∀ w ∈ Cmp5.tab :: words, w.before a s = true := fun w hw => (List.mem_cons.mp hw).elim (fun e => e ▸ h5) (h w)
  have h3 : Cmp3.tab.before a s = true := unparts (wk q5 (.code Cmp3.yN Cmp3.yB 6 (some (.array .byte)))) (wks q5 (.initialized Cmp3.yN.cls :: Cmp3.site))
  have q3 : ∀ w ∈ Cmp3.tab :: CodL.tab :: words, w.before a s = true := fun w hw => (List.mem_cons.mp hw).elim (fun e => e ▸ h3) fun hw => (List.mem_cons.mp hw).elim (fun e => e ▸ hc) (h w)
  have h4 : New4.tab.before a s = true := unparts (wk q3 (.code New4.yN New4.yB 6 none)) (wks q3 (.initialized New4.yN.cls :: New4.site))
  have q4 : ∀ w ∈ New4.tab :: words, w.before a s = true := fun w hw => (List.mem_cons.mp hw).elim (fun e => e ▸ h4) (h w)
  exact unparts (wk q4 (.code New1.yN New1.yB 2 none)) (wks q4 (.initialized New1.yN.cls :: New1.site))
/-- the words ride from the start Z to the walk's own state -/
theorem moved {Z s : State} {a0 args : Array Value} (hZ : Z.Warmed39 s.vm) (hw : ∀ d ∈ words, d.before a0 Z = true) : ∀ d ∈ words, d.before args s = true := fun d hd => by
  have q := hw d hd
  have t : ∀ d ∈ words, d = .arrayClass .byte ∨ (d.onTables && d.keepsFace) = true := by decide +kernel
  rcases t d hd with rfl | t
  · exact RoadKit.mvA hZ q
  · exact RoadKit.mv hZ q t
/-- WHAT COMES BACK, over the tables of the start Z: h the heap at the call, h' behind it -/
def Q (Z : State) (x : Addr) (A : Cell) (h : Heap) (v : Option Value) (h' : Heap) (L : List Loc) : Prop := v = none ∧ (∀ y ∈ L, y.base = x) ∧ RoadKit.Keep h h' [x] ∧ h'.size = h.size + 1 ∧ RoadKit.Exa Z h' x ST ∧ RoadKit.Fld Z h' x ST "value" "[B" (.ref h.size) ∧ RoadKit.Fld Z h' x ST "coder" "B" (.int 0) ∧
  (∃ V : Cell, RoadKit.Arr Z h' h.size V .byte ∧ V.vm = .none ∧ Z.vm.findClass "[B" = some V.cls ∧ V.slots.size = A.slots.size ∧ ∀ j, j < A.slots.size → V.slots[j]? = some (.int (lo8 (cv A j)))) ∧
  ∀ (O n d : String) (w : Value), RoadKit.Fld Z h x O n d w → RoadKit.slotOf Z O n d ≠ RoadKit.slotOf Z ST "value" "[B" → RoadKit.slotOf Z O n d ≠ RoadKit.slotOf Z ST "coder" "B" → RoadKit.Fld Z h' x O n d w
/-- **new String(chars) AT A CALL, IN THE ROAD'S FORM**: for specialBack behind newO: x the fresh String, b the char[] with the cell A -/
theorem back {p : Program} {l : Launch} {e : Env} {R : Room} {s : State} {args : Array Value} {below : List Frame} {len W : Nat} {Z : State} {a0 : Array Value} {h : Heap} (hZ : Z.Warmed39 s.vm) (hw : ∀ d ∈ words, d.before a0 Z = true) {kI : Nat} (wi : (Jvm.Cond.instantiable ST kI).before a0 Z = true)
    {x b : Addr} {A : Cell} {z : Int32} {v0 c0 : Value} (E : RoadKit.Exa Z h x ST) (V : RoadKit.Fld Z h x ST "value" "[B" v0) (C : RoadKit.Fld Z h x ST "coder" "B" c0) (K : RoadKit.Arr Z h b A .char) (hty : Typed .char A) (S : RoadKit.Sta Z h ST "COMPACT_STRINGS" "Z" (.int z)) (hz : ¬ z = 0)
    (l0 : 0 < A.slots.size) (l2 : A.slots.size ≤ 536870912) (hp : ∀ i, i < A.slots.size → ¬ 255 < cv A i) (hfr : 4 ≤ R.frames) (hlo : W + 65 ≤ R.locals) :
    Back l R p e below s args New1.yN len W (fun P a => a = #[.ref x, .ref b] ∧ P.U.heap = h ∧ P.cells + 1 ≤ R.cells ∧ P.slots + A.slots.size ≤ R.slots)
      (fun P _ v B => ∃ L, Q Z x A h v B.U.heap L ∧ B.locs = P.locs ++ L ∧ B.cells = P.cells + 1 ∧ B.slots = P.slots + A.slots.size) := by
  intro m meth c P g ig mk a X hg hsize hdg hW hn hp'
  obtain ⟨rfl, rfl, r1, r2⟩ := hp'
  have al : Z.vm.Alike P.U.vm := hZ.alike.trans X.warmed.alike
  obtain ⟨D, cfV, kV, iV, fV, hD, gV, stV, knV, obV, asV, slV⟩ := id V
  obtain ⟨D', cfC, kC, iC, fC, hD', gC, stC, -, -, asC, slC⟩ := id C
  cases hD.symm.trans hD'
  obtain ⟨D2, kD, e1, e2, e3, e4, e5⟩ := id E
  cases hD.symm.trans e1
  obtain ⟨c2, k2, i1, i2, i3, -⟩ := Cond.instantiable_spec wi
  cases e2.symm.trans i1
  cases e3.symm.trans i2
  obtain ⟨kU, u1, u2⟩ := al.2.2 _ _ e3
  have hB : Blank ST x D P.U := ⟨hD, ⟨knV, fun q hq => by rw [hq] at obV; cases obV⟩, by rw [al.findClass]; exact e2, kU, u1, by rw [u2]; exact i3, by rw [u2]; exact e5 i3⟩
  have F1 : Found ST "value" "[B" fV P.U := ⟨SBG.found_only al ⟨cfV, kV, iV, gV⟩, stV⟩
  have F2 : Found ST "coder" "B" fC P.U := ⟨SBG.found_only al ⟨cfC, kC, iC, gC⟩, stC⟩
  have hA : Ch b A P.U := ⟨⟨K.1, State.isArrayOf_alike al K.2.1, K.2.2, by omega⟩, hty⟩
  have hS : StaticIs P.U ST "COMPACT_STRINGS" "Z" (.int z) := by
    obtain ⟨cfS, iS, kS, fS, st, cS, t1, t2, t3, t4, t5, t6, t7⟩ := S
    exact StaticIs.there (s := { Z with heap := P.U.heap }) ⟨cfS, iS, kS, fS, st, cS, t1, t2, t3, t4, t5, (fun q => by rw [q] at t6; cases t6), t7⟩ al rfl
  obtain ⟨v, B, X', ⟨⟨hv, E', V', q1, q2, q3, q4, q5, q6, q7, q8, q9, q10, q11⟩, hl, hc, hs⟩, st⟩ := New1.pays x D fV fC b A z (tab_of (moved hZ hw)) hfr hlo m meth c P g ig mk _ X hg hsize hdg hW hn ⟨r1, r2, rfl, hB, F1, F2, hA, hS, hz, l0, l2, hp⟩
  have al' : Z.vm.Alike B.U.vm := hZ.alike.trans X'.warmed.alike
  have hsz : E'.slots.size = D.slots.size := by
    obtain ⟨-, -, -, kB, w1, w2, w3⟩ := q1
    obtain ⟨kB', y1, y2⟩ := al'.2.2 _ _ e3
    rw [q2.2.1] at w1
    cases w1.symm.trans y1
    rw [w3, e5 i3, y2]
  refine ⟨v, B, X', ⟨_, ⟨hv, ?_, ⟨by omega, fun y cy hy hn' => q10 y cy (by simpa using hn') hy, fun y cy hy => ?_⟩, q11, ⟨E', _, q1.1, by rw [q2.2.1]; exact e2, by rw [q2.2.1]; exact e3, by rw [q2.1]; exact obV, fun _ => by rw [hsz]; exact e5 i3⟩,
    ⟨E', cfV, kV, iV, fV, q1.1, gV, stV, by rw [q2.1]; exact knV, by rw [q2.1]; exact obV, by rw [q2.2.1]; exact asV, q3⟩, ⟨E', cfC, kC, iC, fC, q1.1, gC, stC, by rw [q2.1]; exact knV, by rw [q2.1]; exact obV, by rw [q2.2.1]; exact asC, q4⟩,
    ⟨V', ⟨q5.1, State.isArrayOf_alike al'.symm q5.2.1, q5.2.2.1⟩, q6, by rw [← al'.findClass]; exact q7, q8, fun j hj => by have := q9 j hj; rwa [Nat.zero_add] at this⟩, fun O n d w F n1 n2 => ?_⟩, hl, hc, hs⟩, st⟩
  · intro y hy
    simp only [List.mem_cons, List.not_mem_nil, or_false] at hy
    rcases hy with rfl | rfl <;> rfl
  · by_cases q : y = x
    · subst q
      cases hD.symm.trans hy
      exact ⟨E', q1.1, q2.2.1, q2.1, hsz⟩
    · exact ⟨cy, q10 y cy q hy, rfl, rfl, rfl⟩
  · obtain ⟨D3, cf, k, i, f, g1, g2, g3, g4, g5, g6, g7⟩ := F
    cases hD.symm.trans g1
    simp only [RoadKit.slotOf, g2, gV, gC, Option.map_some, Option.getD_some] at n1 n2
    exact ⟨E', cf, k, i, f, q1.1, g2, g3, by rw [q2.1]; exact g4, by rw [q2.1]; exact g5, by rw [q2.2.1]; exact g6, by rw [q2.2.2 f.slot (by simp [n1, n2])]; exact g7⟩
end StrChars.Road
namespace StrChars.Road
open Jvm Sem ClassFile Op Lib Jvm.Stand Jvm.Free Jvm.Free.XT
/-- WHAT COMES BACK, the byte[] as a list of values -/
def QA (Z : State) (x : Addr) (zn : Int32) (cs : List Int32) (h : Heap) (v : Option Value) (h' : Heap) (L : List Loc) : Prop := v = none ∧ (∀ y ∈ L, y.base = x) ∧ RoadKit.Keep h h' [x] ∧ h'.size = h.size + 1 ∧ RoadKit.Exa Z h' x ST ∧ RoadKit.Fld Z h' x ST "value" "[B" (.ref h.size) ∧ RoadKit.Fld Z h' x ST "coder" "B" (.int 0) ∧
  (∃ kb, Z.vm.findClass "[B" = some kb ∧ RoadKit.Arv Z h' h.size kb .byte zn (cs.map fun c => .int (lo8 c)) (.int 0)) ∧
  ∀ (O n d : String) (w : Value), RoadKit.Fld Z h x O n d w → RoadKit.slotOf Z O n d ≠ RoadKit.slotOf Z ST "value" "[B" → RoadKit.slotOf Z O n d ≠ RoadKit.slotOf Z ST "coder" "B" → RoadKit.Fld Z h' x O n d w
/-- **new String(chars) AT A CALL, THE ARRAYS AS LISTS**: the char[] at b holds cs, not empty, no char above 255 -/
theorem backArv {p : Program} {l : Launch} {e : Env} {R : Room} {s : State} {args : Array Value} {below : List Frame} {len W : Nat} {Z : State} {a0 : Array Value} {h : Heap} (hZ : Z.Warmed39 s.vm) (hw : ∀ d ∈ words, d.before a0 Z = true) {kI : Nat} (wi : (Jvm.Cond.instantiable ST kI).before a0 Z = true)
    {x b : Addr} {k : ClassId} {zn z : Int32} {cs : List Int32} {dv v0 c0 : Value} (E : RoadKit.Exa Z h x ST) (V : RoadKit.Fld Z h x ST "value" "[B" v0) (C : RoadKit.Fld Z h x ST "coder" "B" c0) (K : RoadKit.Arv Z h b k .char zn (cs.map Value.int) dv) (S : RoadKit.Sta Z h ST "COMPACT_STRINGS" "Z" (.int z)) (hz : ¬ z = 0)
    (hlen : zn.toNatClampNeg = cs.length) (h0 : 0 < cs.length) (hbig : cs.length ≤ 536870912) (hall : ∀ c ∈ cs, ¬ 255 < c) (hfr : 4 ≤ R.frames) (hlo : W + 65 ≤ R.locals) :
    Back l R p e below s args New1.yN len W (fun P a => a = #[.ref x, .ref b] ∧ P.U.heap = h ∧ P.cells + 1 ≤ R.cells ∧ P.slots + cs.length ≤ R.slots)
      (fun P _ v B => ∃ L, QA Z x zn cs h v B.U.heap L ∧ B.locs = P.locs ++ L ∧ B.cells = P.cells + 1 ∧ B.slots = P.slots + cs.length) := by
  obtain ⟨A, K1, K2, K3, K4, K5, K6⟩ := K
  have e : A.slots.size = cs.length := K3.trans hlen
  have hat : ∀ (i : Nat) (hi : i < cs.length), A.slots[i]? = some (.int cs[i]) := fun i hi => by rw [K5 i (by omega)]; simp [List.getD_eq_getElem?_getD, hi]
  have hcv : ∀ (i : Nat) (hi : i < cs.length), cv A i = cs[i] := fun i hi => by unfold cv; rw [hat i hi]
  have hty : Typed .char A := fun i v hv => by
    have hi : i < A.slots.size := (Array.getElem?_eq_some_iff.mp hv).1
    have q := K5 i hi
    rw [hv] at q
    rw [Option.some.inj q]
    exact K6 i hi
  refine Back.mono (back hZ hw wi E V C K1 hty S hz (by omega) (by omega) (fun i hi => by rw [hcv i (by omega)]; exact hall _ (List.getElem_mem _)) hfr hlo) (fun P a hp => ⟨hp.1, hp.2.1, hp.2.2.1, by rw [e]; exact hp.2.2.2⟩) (fun P a v B hp hq => ?_)
  obtain ⟨L, ⟨q1, q2, q3, q4, q5, q6, q7, ⟨V', v1, v2, v3, v4, v5⟩, q9⟩, hl, hc, hs⟩ := hq
  refine ⟨L, ⟨q1, q2, q3, q4, q5, q6, q7, ⟨V'.cls, v3, V', v1, rfl, by rw [v4, e, hlen], K4, fun i hi => ?_, fun i hi => ?_⟩, q9⟩, hl, hc, by rw [hs, e]⟩
  · have hi' : i < cs.length := by omega
    rw [v5 i (by omega), hcv i hi']; simp [List.getD_eq_getElem?_getD, hi']
  · have hi' : i < cs.length := by omega
    simp only [List.getD_eq_getElem?_getD, List.getElem?_map, List.getElem?_eq_getElem hi', Option.map_some, Option.getD_some]
    exact fits_lo8 _
end StrChars.Road
namespace StrChars.Road
open Jvm Sem ClassFile Op Lib Jvm.Stand Jvm.Free Jvm.Free.XT
/-- WHAT COMES BACK, in the writer's own shape -/
def QV (Z : State) (x : Addr) (N : Int32) (bs : List Int32) (h : Heap) (n0 : Nat) (v : Option Value) (h' : Heap) (L : List Loc) : Prop := v = none ∧ RoadKit.Fr n0 L ∧ RoadKit.Keep h h' [x] ∧ RoadKit.Exa Z h' x ST ∧ RoadKit.Fld Z h' x ST "coder" "B" (.int 0) ∧
  ∃ (t : Addr) (kb : ClassId), n0 ≤ t ∧ h.size ≤ t ∧ ¬ t = x ∧ RoadKit.Fld Z h' x ST "value" "[B" (.ref t) ∧ RoadKit.Arv Z h' t kb .byte N (bs.map Value.int) (.int 0)
/-- **new String(chars) AT A CALL, FOR THE WRITER**: a char[] of n known ints, each 0 to 255 -/
theorem backV {p : Program} {l : Launch} {e : Env} {R : Room} {s : State} {args : Array Value} {below : List Frame} {len W : Nat} {Z : State} {a0 : Array Value} {h : Heap} (hZ : Z.Warmed39 s.vm) (hw : ∀ d ∈ words, d.before a0 Z = true) {kI : Nat} (wi : (Jvm.Cond.instantiable ST kI).before a0 Z = true)
    {x b : Addr} {kC : ClassId} {cs bs : List Int32} {d v0 c0 : Value} {z N : Int32} {n n0 : Nat} (hx0 : n0 ≤ x) (hh0 : n0 ≤ h.size) (E : RoadKit.Exa Z h x ST) (V : RoadKit.Fld Z h x ST "value" "[B" v0) (C : RoadKit.Fld Z h x ST "coder" "B" c0) (K : RoadKit.Arv Z h b kC .char N (cs.map Value.int) d) (S : RoadKit.Sta Z h ST "COMPACT_STRINGS" "Z" (.int z)) (hz : ¬ z = 0)
    (hn : cs.length = n) (hN : N = Int32.ofNat n) (l0 : 0 < n) (l2 : n ≤ 4000) (hp : ∀ c ∈ cs, ¬ c < 0 ∧ ¬ (255 : Int32) < c) (hb : bs = cs.map (fun c => c.toInt8.toInt32)) (hfr : 4 ≤ R.frames) (hlo : W + 65 ≤ R.locals) :
    Back l R p e below s args (⟨"java/lang/String", "<init>", "([C)V"⟩ : MethodName) len W (fun P a => a = #[.ref x, .ref b] ∧ P.U.heap = h ∧ P.cells + 1 ≤ R.cells ∧ P.slots + n ≤ R.slots)
      (fun P _ v B => ∃ L, QV Z x N bs h n0 v B.U.heap L ∧ B.locs = P.locs ++ L ∧ B.cells = P.cells + 1 ∧ B.slots = P.slots + n) := by
  subst hn hN hb
  refine Back.mono (backArv hZ hw wi E V C K S hz (n32 (by omega)) l0 (by omega) (fun c hc => (hp c hc).2) hfr hlo) (fun P a hp => hp) (fun P a v B hp hq => ?_)
  obtain ⟨L, ⟨q1, q2, q3, q4, q5, q6, q7, ⟨kb, v1, v2⟩, q9⟩, hl, hc, hs⟩ := hq
  exact ⟨L, ⟨q1, fun y hy => by rw [q2 y hy]; exact hx0, q3, q5, q7, h.size, kb, hh0, Nat.le_refl _, Nat.ne_of_gt E.lt, q6, by rw [List.map_map]; exact v2⟩, hl, hc, hs⟩
end StrChars.Road
namespace StrChars
open Jvm Sem ClassFile Op Lib Jvm.Stand Jvm.Free.XT Jvm.Free.ALB Jvm.Free.JM Jvm.Free
open Jvm.Lib.Cold (StaticIs)
def hi8 (x : Int32) : Int32 := lo8 (x >>> ((8 : Int32) &&& 31))
/-- what StringUTF16.getChar makes of two bytes -/
def pairCh (u v : Int32) : Int32 := (((u &&& 255) <<< ((0 : Int32) &&& 31)) ||| ((v &&& 255) <<< ((8 : Int32) &&& 31))).toUInt32.toUInt16.toUInt32.toInt32
theorem lo8_and (x : Int32) : (lo8 x &&& 255).toBitVec.toNat = x.toBitVec.toNat % 256 := by
  have h : (lo8 x).toBitVec = (x.toBitVec.signExtend 8).signExtend 32 := by rw [lo8, Int8.toBitVec_toInt32, Int32.toBitVec_toInt8]
  rw [Int32.toBitVec_and, BitVec.toNat_and, h]
  have e : ((x.toBitVec.signExtend 8).signExtend 32).toNat % 256 = x.toBitVec.toNat % 256 := by
    rw [BitVec.toNat_signExtend]
    have hlt := x.toBitVec.isLt
    simp only [BitVec.toNat_setWidth, BitVec.toNat_signExtend]
    split <;> split <;> omega
  rw [← e]
  exact Nat.and_two_pow_sub_one_eq_mod _ 8
theorem pair_says {c : Int32} (h0 : ¬ c < 0) (h1 : ¬ 65535 < c) : pairCh (lo8 c) (hi8 c) = c := by
  rw [Int32.lt_iff_toInt_lt] at h0 h1
  have e0 : (0 : Int32).toInt = 0 := rfl
  have e1 : (65535 : Int32).toInt = 65535 := rfl
  have hc : c.toInt = c.toBitVec.toNat := by
    have := c.toBitVec.isLt
    have e : c.toInt = c.toBitVec.toInt := rfl
    rw [e] at h0 h1
    rw [e]
    rw [BitVec.toInt_eq_toNat_cond] at h0 h1 ⊢
    split at h0 <;> split <;> omega
  have hn : c.toBitVec.toNat < 65536 := by omega
  have a1 := lo8_and c
  have a2 : (hi8 c &&& 255).toBitVec.toNat = c.toBitVec.toNat / 256 := by
    rw [hi8, lo8_and]
    have e : ((8 : Int32) &&& 31) = 8 := by decide
    rw [e, Int32.toBitVec_shiftRight]
    have e2 : ((8 : Int32).toBitVec.smod 32) = 8#32 := by decide
    rw [e2, BitVec.sshiftRight_eq', BitVec.toNat_sshiftRight_of_msb_false (by rw [BitVec.msb_eq_false_iff_two_mul_lt]; omega)]
    show c.toBitVec.toNat >>> 8 % 256 = _
    rw [Nat.shiftRight_eq_div_pow]
    omega
  unfold pairCh
  apply Int32.toBitVec_inj.mp
  apply BitVec.eq_of_toNat_eq
  have f0 : ((0 : Int32) &&& 31) = 0 := by decide
  have f8 : ((8 : Int32) &&& 31) = 8 := by decide
  rw [f0, f8]
  have g : (((lo8 c &&& 255) <<< (0 : Int32)) ||| ((hi8 c &&& 255) <<< (8 : Int32))).toBitVec.toNat = c.toBitVec.toNat := by
    rw [Int32.toBitVec_or, Int32.toBitVec_shiftLeft, Int32.toBitVec_shiftLeft]
    have s0 : ((0 : Int32).toBitVec.smod 32) = 0#32 := by decide
    have s8 : ((8 : Int32).toBitVec.smod 32) = 8#32 := by decide
    rw [s0, s8, BitVec.toNat_or]
    simp only [BitVec.shiftLeft_eq', BitVec.toNat_shiftLeft, a1, a2]
    show (c.toBitVec.toNat % 256) <<< 0 % 2 ^ 32 ||| (c.toBitVec.toNat / 256) <<< 8 % 2 ^ 32 = _
    rw [Nat.shiftLeft_zero, Nat.mod_eq_of_lt (show c.toBitVec.toNat % 256 < 2 ^ 32 by omega), Nat.mod_eq_of_lt (show (c.toBitVec.toNat / 256) <<< 8 < 2 ^ 32 by rw [Nat.shiftLeft_eq]; omega), Nat.or_comm, ← Nat.shiftLeft_add_eq_or_of_lt (by omega), Nat.shiftLeft_eq]
    omega
  show BitVec.toNat (((((lo8 c &&& 255) <<< (0 : Int32)) ||| ((hi8 c &&& 255) <<< (8 : Int32))).toBitVec.setWidth 16).setWidth 32) = _
  rw [BitVec.toNat_setWidth, BitVec.toNat_setWidth, g]
  omega
end StrChars
namespace StrChars
open Jvm Sem ClassFile Op Lib Jvm.Stand Jvm.Free.XT Jvm.Free.ALB Jvm.Free.JM Jvm.Free
open Jvm.Lib.Cold (StaticIs)
/-- the array's cell V codes the n chars f 0 .. f (n - 1) by the coder cd, as the JDK does: coder 1 just where some char is above 255 -/
def Cod (cd : Int32) (n : Nat) (f : Nat → Int32) (V : Cell) : Prop := (cd = 0 ∧ V.slots.size = n ∧ ∀ j, j < n → V.slots[j]? = some (.int (lo8 (f j))) ∧ ¬ 255 < f j) ∨ (cd = 1 ∧ V.slots.size = 2 * n ∧ (∀ j, j < n → V.slots[2 * j]? = some (.int (lo8 (f j))) ∧ V.slots[2 * j + 1]? = some (.int (hi8 (f j)))) ∧ ∃ j, j < n ∧ 255 < f j)
/-- **x is a String of the n chars f 0 .. f (n - 1)**, Latin-1 or UTF-16; its array at t has the cell V -/
def Txt (x t : Addr) (V : Cell) (cd : Int32) (n : Nat) (f : Nat → Int32) (U : State) : Prop := Exact "java/lang/String" x U ∧ Has x "java/lang/String" "value" "[B" (.ref t) U ∧ Has x "java/lang/String" "coder" "B" (.int cd) U ∧ XT.Arr .byte t V U ∧ Cod cd n f V ∧ ∀ j, j < n → ¬ f j < 0 ∧ ¬ 65535 < f j
theorem Txt.mv {x t : Addr} {V : Cell} {cd : Int32} {n : Nat} {f : Nat → Int32} {U U' : State} (h : Txt x t V cd n f U) (hal : U.vm.Alike U'.vm) (hh : U'.heap = U.heap) : Txt x t V cd n f U' := ⟨h.1.mv hal hh, h.2.1.mv hal hh, h.2.2.1.mv hal hh, h.2.2.2.1.mv hal hh, h.2.2.2.2⟩
end StrChars
namespace StrChars.Road
open Jvm Sem ClassFile Op Lib Jvm.Stand Jvm.Free Jvm.Free.XT
open Jvm.Lib.Cold (StaticIs)
theorem consq {a : Array Value} {s : State} {c : Jvm.Cond} {L : List Jvm.Cond} (h0 : c.before a s = true) (h : ∀ w ∈ L, w.before a s = true) : ∀ w ∈ c :: L, w.before a s = true := fun w hw => (List.mem_cons.mp hw).elim (fun e => e ▸ h0) (h w)
/-- the bytes of the chars cs, low before high -/
def wideBytes : List Int32 → List Value
  | [] => []
  | c :: cs => .int (lo8 c) :: .int (hi8 c) :: wideBytes cs
theorem wide_lo (d : Value) : ∀ (cs : List Int32) (j : Nat), j < cs.length → (wideBytes cs).getD (2 * j) d = .int (lo8 (cs.getD j 0))
  | [], j, h => absurd h (Nat.not_lt_zero j)
  | c :: cs, 0, _ => rfl
  | c :: cs, j + 1, h => by
    have q := wide_lo d cs j (by simpa using h)
    rw [show 2 * (j + 1) = 2 * j + 1 + 1 from by omega]
    simpa [wideBytes] using q
theorem wide_hi (d : Value) : ∀ (cs : List Int32) (j : Nat), j < cs.length → (wideBytes cs).getD (2 * j + 1) d = .int (hi8 (cs.getD j 0))
  | [], j, h => absurd h (Nat.not_lt_zero j)
  | c :: cs, 0, _ => rfl
  | c :: cs, j + 1, h => by
    have q := wide_hi d cs j (by simpa using h)
    rw [show 2 * (j + 1) + 1 = 2 * j + 1 + 1 + 1 from by omega]
    simpa [wideBytes] using q
theorem low_at (d : Value) (cs : List Int32) (j : Nat) (h : j < cs.length) : (cs.map fun c => Value.int (lo8 c)).getD j d = .int (lo8 (cs.getD j 0)) := by
  simp [List.getD_eq_getElem?_getD, h]
/-- an array of N2 bytes vs codes the chars cs by the coder cd -/
def CodA (cs : List Int32) (cd N2 : Int32) (vs : List Value) : Prop := (cd = 0 ∧ N2 = Int32.ofNat cs.length ∧ vs = (cs.map fun c => Value.int (lo8 c)) ∧ ∀ c ∈ cs, ¬ 255 < c) ∨ (cd = 1 ∧ N2 = Int32.ofNat (2 * cs.length) ∧ vs = wideBytes cs ∧ ∃ c ∈ cs, 255 < c)
theorem CodA.cod {cs : List Int32} {cd N2 : Int32} {vs : List Value} {V : Cell} (h : CodA cs cd N2 vs) (hn : 2 * cs.length < 2 ^ 31) (hs : V.slots.size = N2.toNatClampNeg) (hv : RoadKit.Has V vs (.int 0)) : Cod cd cs.length (fun j => cs.getD j 0) V := by
  rcases h with ⟨rfl, rfl, rfl, h⟩ | ⟨rfl, rfl, rfl, c, hc, hw⟩
  · rw [n32 (by omega)] at hs
    exact Or.inl ⟨rfl, hs, fun j hj => ⟨by rw [hv j (by omega), low_at _ _ _ hj], by
      have e : cs.getD j 0 = cs[j] := by simp [List.getD_eq_getElem?_getD, hj]
      show ¬ 255 < cs.getD j 0
      rw [e]; exact h _ (List.getElem_mem _)⟩⟩
  · rw [n32 (by omega)] at hs
    obtain ⟨j, hj, rfl⟩ := List.getElem_of_mem hc
    exact Or.inr ⟨rfl, hs, fun j hj => ⟨by rw [hv _ (by omega), wide_lo _ _ _ hj], by rw [hv _ (by omega), wide_hi _ _ _ hj]⟩, j, hj, by
      have e : cs.getD j 0 = cs[j] := by simp [List.getD_eq_getElem?_getD, hj]
      show 255 < cs.getD j 0
      rw [e]; exact hw⟩
/-- an object of exactly java/lang/String, its two fields found: as the laws ask it -/
theorem strObj {Z U : State} {a0 : Array Value} {kI : Nat} (wi : (Jvm.Cond.instantiable ST kI).before a0 Z = true) (al : Z.vm.Alike U.vm) {x : Addr} {v0 c0 : Value} (E : RoadKit.Exa Z U.heap x ST) (V : RoadKit.Fld Z U.heap x ST "value" "[B" v0) (C : RoadKit.Fld Z U.heap x ST "coder" "B" c0) :
    ∃ (D : Cell) (fV fC : Field), Blank ST x D U ∧ Found ST "value" "[B" fV U ∧ Found ST "coder" "B" fC U ∧ D.slots[fV.slot]? = some v0 ∧ D.slots[fC.slot]? = some c0 ∧ RoadKit.slotOf Z ST "value" "[B" = fV.slot ∧ RoadKit.slotOf Z ST "coder" "B" = fC.slot := by
  obtain ⟨D, cfV, kV, iV, fV, hD, gV, stV, knV, obV, asV, slV⟩ := V
  obtain ⟨D', cfC, kC, iC, fC, hD', gC, stC, -, -, asC, slC⟩ := C
  cases hD.symm.trans hD'
  obtain ⟨D2, kD, e1, e2, e3, e4, e5⟩ := E
  cases hD.symm.trans e1
  obtain ⟨c2, k2, i1, i2, i3, -⟩ := Cond.instantiable_spec wi
  cases e2.symm.trans i1
  cases e3.symm.trans i2
  obtain ⟨kU, u1, u2⟩ := al.2.2 _ _ e3
  exact ⟨D, fV, fC, ⟨hD, ⟨knV, fun q hq => by rw [hq] at obV; cases obV⟩, by rw [al.findClass]; exact e2, kU, u1, by rw [u2]; exact i3, by rw [u2]; exact e5 i3⟩, ⟨SBG.found_only al ⟨cfV, kV, iV, gV⟩, stV⟩, ⟨SBG.found_only al ⟨cfC, kC, iC, gC⟩, stC⟩, slV, slC, by simp [RoadKit.slotOf, gV], by simp [RoadKit.slotOf, gC]⟩
theorem sta_is {Z U : State} (al : Z.vm.Alike U.vm) {C n d : String} {v : Value} (S : RoadKit.Sta Z U.heap C n d v) : StaticIs U C n d v := by
  obtain ⟨cfS, iS, kS, fS, st, cS, t1, t2, t3, t4, t5, t6, t7⟩ := S
  exact StaticIs.there (s := { Z with heap := U.heap }) ⟨cfS, iS, kS, fS, st, cS, t1, t2, t3, t4, t5, (fun q => by rw [q] at t6; cases t6), t7⟩ al rfl
end StrChars.Road
namespace StrChars
open Jvm Sem ClassFile Op Lib Jvm.Stand Jvm.Free.XT Jvm.Free.ALB Jvm.Free.JM Jvm.Free
open Jvm.Lib.Cold (StaticIs)
/-- what place i of a byte[]'s cell holds -/
def yv (A : Cell) (i : Nat) : Int32 := match A.slots[i]? with | some (.int x) => x | _ => 0
theorem yv_get {a : Addr} {A : Cell} {U : State} (h : XT.Arr .byte a A U) (ht : Typed .byte A) {i : Nat} (hi : i < A.slots.size) : A.slots[i]? = some (.int (yv A i)) := by
  have e := Array.getElem?_eq_getElem hi
  have f := ht i _ e
  unfold yv; rw [e]
  generalize A.slots[i] = v at f
  cases v <;> simp [fits] at f ⊢
/-- the two arrays are equal, place for place -/
def EqC (A B : Cell) : Prop := A.slots.size = B.slots.size ∧ ∀ i, i < A.slots.size → yv A i = yv B i
/-- a boolean that says whether p -/
def Says01 (q : Prop) (r : Option Value) (s u : State) : Prop := ∃ v : Int32, r = some (.int v) ∧ u.heap = s.heap ∧ ((v = 1 ∧ q) ∨ (v = 0 ∧ ¬ q))
theorem Says01.mv {q : Prop} : ∀ r (U U' V V' : State), U'.heap = U.heap → V.vm.Alike V'.vm → V'.heap = V.heap → Says01 q r U V → Says01 q r U' V' :=
  fun r U U' V V' h1 _ h2 ⟨v, a, b, c⟩ => ⟨v, a, by rw [h1, h2]; exact b, c⟩
namespace LEq
def yN : MethodName := ⟨"java/lang/StringLatin1", "equals", "([B[B)Z"⟩
abbrev yB : ByteArray := jdk_43_method_13_code
theorem d0 : decode yB 0 = .ok (.aload_n 0, 1) := by decide +kernel
theorem d1 : decode yB 1 = .ok (.arraylength, 1) := by decide +kernel
theorem d2 : decode yB 2 = .ok (.aload_n 1, 1) := by decide +kernel
theorem d3 : decode yB 3 = .ok (.arraylength, 1) := by decide +kernel
theorem d4 : decode yB 4 = .ok (.if_icmp (.ne) 30, 3) := by decide +kernel
theorem d7 : decode yB 7 = .ok (.iconst 0, 1) := by decide +kernel
theorem d8 : decode yB 8 = .ok (.istore_n 2, 1) := by decide +kernel
theorem d9 : decode yB 9 = .ok (.iload_n 2, 1) := by decide +kernel
theorem d10 : decode yB 10 = .ok (.aload_n 0, 1) := by decide +kernel
theorem d11 : decode yB 11 = .ok (.arraylength, 1) := by decide +kernel
theorem d12 : decode yB 12 = .ok (.if_icmp (.ge) 20, 3) := by decide +kernel
theorem d15 : decode yB 15 = .ok (.aload_n 0, 1) := by decide +kernel
theorem d16 : decode yB 16 = .ok (.iload_n 2, 1) := by decide +kernel
theorem d17 : decode yB 17 = .ok (.baload, 1) := by decide +kernel
theorem d18 : decode yB 18 = .ok (.aload_n 1, 1) := by decide +kernel
theorem d19 : decode yB 19 = .ok (.iload_n 2, 1) := by decide +kernel
theorem d20 : decode yB 20 = .ok (.baload, 1) := by decide +kernel
theorem d21 : decode yB 21 = .ok (.if_icmp (.eq) 5, 3) := by decide +kernel
theorem d24 : decode yB 24 = .ok (.iconst 0, 1) := by decide +kernel
theorem d25 : decode yB 25 = .ok (.ireturn, 1) := by decide +kernel
theorem d26 : decode yB 26 = .ok (.iinc 2 1, 3) := by decide +kernel
theorem d29 : decode yB 29 = .ok (.goto (-20), 3) := by decide +kernel
theorem d32 : decode yB 32 = .ok (.iconst 1, 1) := by decide +kernel
theorem d33 : decode yB 33 = .ok (.ireturn, 1) := by decide +kernel
theorem d34 : decode yB 34 = .ok (.iconst 0, 1) := by decide +kernel
theorem d35 : decode yB 35 = .ok (.ireturn, 1) := by decide +kernel
def site : List Cond := []
def tab : Cond := tabOf yN yB 3 (some .boolean) site
def P (a : Addr) (A : Cell) (b : Addr) (B : Cell) (args : Array Value) (s : State) : Prop := args = #[.ref a, .ref b] ∧ XT.Arr .byte a A s ∧ Typed .byte A ∧ XT.Arr .byte b B s ∧ Typed .byte B
/-- whether two byte[] are equal, place for place -/
theorem law (l : Launch) (a : Addr) (A : Cell) (b : Addr) (B : Cell) : Law l yN 2 2 0 0 yB 3 (some .boolean) site (P a A b B) (Says01 (EqC A B)) [] 0 0 := by
  refine Law.of_walk (plainFor_of_name (by decide +kernel)) (by decide +kernel) (by decide +kernel) (by decide) (fun _ _ h => by rw [h.1]; rfl) (fun _ U U' hal hh h => ⟨h.1, h.2.1.mv hal hh, h.2.2.1, h.2.2.2.1.mv hal hh, h.2.2.2.2⟩) (fun r U U' V V' h1 hal h2 h => Says01.mv r U U' V V' h1 hal h2 h) ?_
  intro p e s m args below meth c s₁ X0 hexec hbytes hml hret hlk hnm hown hh0 W hP
  obtain ⟨rfl, hA, tA, hB, tB⟩ := hP
  have a31 := hA.2.2.2
  have b31 := hB.2.2.2
  have hA0 := hA.mv X0.warmed.alike hh0
  have hB0 := hB.mv X0.warmed.alike hh0
  have c1 : Steps p.tables e below (s₁.setTop (entryFrame m #[.ref a, .ref b] 3)) (s₁.setTop (mkF m 0 #[.val (.ref a), .val (.ref b), .unset] [])) := entry rfl
  have c2 : Steps p.tables e below (s₁.setTop (entryFrame m #[.ref a, .ref b] 3)) (s₁.setTop (mkF m 4 #[.val (.ref a), .val (.ref b), .unset] [.int (Int32.ofNat B.slots.size), .int (Int32.ofNat A.slots.size)])) := c1.trans (by
    refine XS.aloadN X0.here hexec rfl (hb hbytes d0) rfl rfl ?_
    refine X0.alen hexec hA0 rfl rfl (hb hbytes d1) ?_
    refine XS.aloadN X0.here hexec rfl (hb hbytes d2) rfl rfl ?_
    refine X0.alen hexec hB0 rfl rfl (hb hbytes d3) ?_
    exact Steps.refl _)
  by_cases hs : A.slots.size = B.slots.size
  · have c3 : Steps p.tables e below (s₁.setTop (entryFrame m #[.ref a, .ref b] 3)) (s₁.setTop (mkF m 9 #[.val (.ref a), .val (.ref b), .val (.int 0)] [])) := c2.trans (by
      refine XS.icmpNo X0.here hexec rfl (hb hbytes d4) rfl (ii_ne_f (by rw [hs])) ?_
      refine iconstV X0.here hexec rfl 0 (hb hbytes d7) (by decide) ?_
      refine XS.istoreN X0.here hexec rfl (hb hbytes d8) rfl rfl ?_
      exact Steps.refl _)
    have loop : ∀ (r i : Nat), i + r = A.slots.size → (∀ j, j < i → yv A j = yv B j) → Steps p.tables e below (s₁.setTop (entryFrame m #[.ref a, .ref b] 3)) (s₁.setTop (mkF m 9 #[.val (.ref a), .val (.ref b), .val (.int (Int32.ofNat i))] [])) → ∃ (pc : Nat) (Ls : Array Slot) (v : Int32), (pc = 25 ∨ pc = 33) ∧ ((v = 1 ∧ EqC A B) ∨ (v = 0 ∧ ¬ EqC A B)) ∧ Steps p.tables e below (s₁.setTop (entryFrame m #[.ref a, .ref b] 3)) (s₁.setTop (mkF m pc Ls [.int v])) := by
      intro r
      induction r with
      | zero =>
        intro i hi he cl
        exact ⟨33, _, 1, Or.inr rfl, Or.inl ⟨rfl, hs, fun j hj => he j (by omega)⟩, cl.trans (by
          refine XS.iloadN X0.here hexec rfl (hb hbytes d9) rfl ?_
          refine XS.aloadN X0.here hexec rfl (hb hbytes d10) rfl rfl ?_
          refine X0.alen hexec hA0 rfl rfl (hb hbytes d11) ?_
          refine XS.icmpYes X0.here hexec rfl (pc0 := 12) rfl (hb hbytes d12) rfl (ii_ge_t (nlt32 (by omega) (by omega))) (by decide) rfl ?_
          refine iconstV X0.here hexec rfl 1 (hb hbytes d32) (by decide) ?_
          exact Steps.refl _)⟩
      | succ r ih =>
        intro i hi he cl
        have c4 : Steps p.tables e below (s₁.setTop (entryFrame m #[.ref a, .ref b] 3)) (s₁.setTop (mkF m 21 #[.val (.ref a), .val (.ref b), .val (.int (Int32.ofNat i))] [.int (yv B i), .int (yv A i)])) := cl.trans (by
          refine XS.iloadN X0.here hexec rfl (hb hbytes d9) rfl ?_
          refine XS.aloadN X0.here hexec rfl (hb hbytes d10) rfl rfl ?_
          refine X0.alen hexec hA0 rfl rfl (hb hbytes d11) ?_
          refine XS.icmpNo X0.here hexec rfl (hb hbytes d12) rfl (ii_ge_f (lt32 (by omega) (by omega))) ?_
          refine XS.aloadN X0.here hexec rfl (hb hbytes d15) rfl rfl ?_
          refine XS.iloadN X0.here hexec rfl (hb hbytes d16) rfl ?_
          refine X0.aget hexec hA0 rfl (yv_get hA tA (i := i) (by omega)) rfl rfl (hb hbytes d17) ?_
          refine XS.aloadN X0.here hexec rfl (hb hbytes d18) rfl rfl ?_
          refine XS.iloadN X0.here hexec rfl (hb hbytes d19) rfl ?_
          refine X0.aget hexec hB0 rfl (yv_get hB tB (i := i) (by omega)) rfl rfl (hb hbytes d20) ?_
          exact Steps.refl _)
        by_cases hv : yv A i = yv B i
        · have c5 : Steps p.tables e below (s₁.setTop (entryFrame m #[.ref a, .ref b] 3)) (s₁.setTop (mkF m 9 #[.val (.ref a), .val (.ref b), .val (.int (Int32.ofNat i + 1))] [])) := c4.trans (by
            refine XS.icmpYes X0.here hexec rfl (pc0 := 21) rfl (hb hbytes d21) rfl (ii_eq_t hv) (by decide) rfl ?_
            refine iincV X0.here hexec rfl 1 (hb hbytes d26) (by decide) rfl rfl ?_
            refine XS.goto X0.here hexec rfl (pc0 := 29) rfl (hb hbytes d29) (by decide) rfl ?_
            exact Steps.refl _)
          rw [succ32] at c5
          exact ih (i + 1) (by omega) (fun j hj => by
            by_cases e : j = i
            · rw [e]; exact hv
            · exact he j (by omega)) c5
        · exact ⟨25, _, 0, Or.inl rfl, Or.inr ⟨rfl, fun q => hv (q.2 i (by omega))⟩, c4.trans (by
            refine XS.icmpNo X0.here hexec rfl (hb hbytes d21) rfl (ii_eq_f hv) ?_
            refine iconstV X0.here hexec rfl 0 (hb hbytes d24) (by decide) ?_
            exact Steps.refl _)⟩
    obtain ⟨pc, Ls, v, hpc, hv, cz⟩ := loop A.slots.size 0 (by omega) (fun j hj => absurd hj (Nat.not_lt_zero j)) c3
    have nv : narrow .boolean (.int v) = .int v := by rcases hv with ⟨rfl, -⟩ | ⟨rfl, -⟩ <;> rfl
    rcases hpc with rfl | rfl
    · exact ⟨s₁, some (.int v), _, _, _, X0, rfl, rfl, rfl, (fun h => by cases h), ⟨v, rfl, hh0, hv⟩, fun fs hl => cz.trans (X0.ireturnOut hexec hret nv (Or.inr (Or.inl rfl)) (hb hbytes d25) hl)⟩
    · exact ⟨s₁, some (.int v), _, _, _, X0, rfl, rfl, rfl, (fun h => by cases h), ⟨v, rfl, hh0, hv⟩, fun fs hl => cz.trans (X0.ireturnOut hexec hret nv (Or.inr (Or.inl rfl)) (hb hbytes d33) hl)⟩
  · have c3 : Steps p.tables e below (s₁.setTop (entryFrame m #[.ref a, .ref b] 3)) (s₁.setTop (mkF m 35 #[.val (.ref a), .val (.ref b), .unset] [.int 0])) := c2.trans (by
      refine XS.icmpYes X0.here hexec rfl (pc0 := 4) rfl (hb hbytes d4) rfl (ii_ne_t (ne32 a31 b31 hs)) (by decide) rfl ?_
      refine iconstV X0.here hexec rfl 0 (hb hbytes d34) (by decide) ?_
      exact Steps.refl _)
    exact ⟨s₁, some (.int 0), _, _, _, X0, rfl, rfl, rfl, (fun h => by cases h), ⟨0, rfl, hh0, Or.inr ⟨rfl, fun q => hs q.1⟩⟩, fun fs hl => c3.trans (X0.ireturnOut hexec hret rfl (Or.inr (Or.inl rfl)) (hb hbytes d35) hl)⟩
end LEq
theorem Cod.ty {cd : Int32} {n : Nat} {f : Nat → Int32} {V : Cell} (h : Cod cd n f V) : Typed .byte V := fun i v hv => by
  have hi : i < V.slots.size := (Array.getElem?_eq_some_iff.mp hv).1
  rcases h with ⟨-, k1, k2⟩ | ⟨-, k1, k2, -⟩
  · rw [(k2 i (by omega)).1] at hv; cases hv; exact fits_lo8 _
  · rcases Nat.mod_two_eq_zero_or_one i with e | e
    · obtain ⟨j, rfl⟩ : ∃ j, i = 2 * j := ⟨i / 2, by omega⟩
      rw [(k2 j (by omega)).1] at hv; cases hv; exact fits_lo8 _
    · obtain ⟨j, rfl⟩ : ∃ j, i = 2 * j + 1 := ⟨i / 2, by omega⟩
      rw [(k2 j (by omega)).2] at hv; cases hv; exact fits_lo8 _
/-- the same text -/
def SameT (n : Nat) (f : Nat → Int32) (k : Nat) (g : Nat → Int32) : Prop := n = k ∧ ∀ j, j < n → f j = g j
theorem lo8_inj {x y : Int32} (h0 : ¬ x < 0) (h1 : ¬ 255 < x) (k0 : ¬ y < 0) (k1 : ¬ 255 < y) (h : lo8 x = lo8 y) : x = y := by
  rw [← lo8_mask h0 h1, ← lo8_mask k0 k1, h]
/-- arrays coded by one coder are equal just where the texts are -/
theorem Cod.eqv {cd : Int32} {n k : Nat} {f g : Nat → Int32} {V V' : Cell} (h : Cod cd n f V) (h' : Cod cd k g V') (hf : ∀ j, j < n → ¬ f j < 0 ∧ ¬ 65535 < f j) (hg : ∀ j, j < k → ¬ g j < 0 ∧ ¬ 65535 < g j) : EqC V V' ↔ SameT n f k g := by
  have yvv : ∀ {W : Cell} {i : Nat} {x : Int32}, W.slots[i]? = some (.int x) → yv W i = x := fun q => by unfold yv; rw [q]
  rcases h with ⟨rfl, k1, k2⟩ | ⟨rfl, k1, k2, -⟩
  · rcases h' with ⟨-, m1, m2⟩ | ⟨e, -⟩
    · constructor
      · rintro ⟨e1, e2⟩
        refine ⟨by omega, fun j hj => ?_⟩
        have q := e2 j (by omega)
        rw [yvv (k2 j hj).1, yvv (m2 j (by omega)).1] at q
        exact lo8_inj (hf j hj).1 (k2 j hj).2 (hg j (by omega)).1 (m2 j (by omega)).2 q
      · rintro ⟨rfl, e2⟩
        refine ⟨by omega, fun j hj => ?_⟩
        rw [yvv (k2 j (by omega)).1, yvv (m2 j (by omega)).1, e2 j (by omega)]
    · exact absurd e (by decide)
  · rcases h' with ⟨e, -⟩ | ⟨-, m1, m2, -⟩
    · exact absurd e (by decide)
    · constructor
      · rintro ⟨e1, e2⟩
        refine ⟨by omega, fun j hj => ?_⟩
        have q1 := e2 (2 * j) (by omega)
        have q2 := e2 (2 * j + 1) (by omega)
        rw [yvv (k2 j hj).1, yvv (m2 j (by omega)).1] at q1
        rw [yvv (k2 j hj).2, yvv (m2 j (by omega)).2] at q2
        rw [← pair_says (hf j hj).1 (hf j hj).2, ← pair_says (hg j (by omega)).1 (hg j (by omega)).2, q1, q2]
      · rintro ⟨rfl, e2⟩
        refine ⟨by omega, fun i hi => ?_⟩
        rcases Nat.mod_two_eq_zero_or_one i with e | e
        · obtain ⟨j, rfl⟩ : ∃ j, i = 2 * j := ⟨i / 2, by omega⟩
          rw [yvv (k2 j (by omega)).1, yvv (m2 j (by omega)).1, e2 j (by omega)]
        · obtain ⟨j, rfl⟩ : ∃ j, i = 2 * j + 1 := ⟨i / 2, by omega⟩
          rw [yvv (k2 j (by omega)).2, yvv (m2 j (by omega)).2, e2 j (by omega)]
/-- two codings differ: so do the texts -/
theorem Cod.dif {cd cd' : Int32} {n k : Nat} {f g : Nat → Int32} {V V' : Cell} (h : Cod cd n f V) (h' : Cod cd' k g V') (hne : ¬ cd = cd') : ¬ SameT n f k g := by
  rintro ⟨rfl, e⟩
  rcases h with ⟨rfl, -, k2⟩ | ⟨rfl, -, -, j, hj, hw⟩
  · rcases h' with ⟨rfl, -⟩ | ⟨-, -, -, j, hj, hw⟩
    · exact hne rfl
    · exact (k2 j hj).2 (by rw [e j hj]; exact hw)
  · rcases h' with ⟨-, -, m2⟩ | ⟨rfl, -⟩
    · exact (m2 j hj).2 (by rw [← e j hj]; exact hw)
    · exact hne rfl
/-- an object of exactly C is an instance of C -/
theorem cinst {p : Program} {l : Launch} {e : Env} {R : Room} {s : State} {m : MethodId} {args : Array Value} {below : List Frame} {meth : Method} {c : Code} {T : State} {locs : List Loc} {cells slots : Nat} (X : Stand p l e R s m args below meth c T locs cells slots) (hexec : p.tables.exec = Jvm.exec) {own C : String} {index : Nat} (hown : s.vm.findClass own = some m.cls) (hlink : (Cond.classLink own index C).before args s = true) {a : Addr} (hE : Exact C a T)
    {g : JFrame} (hg : g.method = m) {rest : List Value} (hstack : g.stack = .ref a :: rest) (hdg : decode c.code g.pc = .ok (.instanceof index, 3)) :
    ∃ T', Stand p l e R s m args below meth c T' locs cells slots ∧ T'.heap = T.heap ∧ ∀ target, Steps p.tables e below (T'.setTop { g with pc := g.pc + 3, stack := .int 1 :: rest }) target → Steps p.tables e below (T.setTop g) target := by
  obtain ⟨cB, h1, D, h2, h3, h4⟩ := hE
  have h1' : s.vm.findClass C = some cB := by rw [← X.warmed.alike.findClass]; exact h1
  obtain ⟨vm', X', st⟩ := X.instanceofYes hexec hown hlink h2 h4 h1' (by rw [h3]; exact Jvm.Free.SB.assignable_self _ _) hg hstack hdg
  exact ⟨_, X', rfl, st⟩
theorem cself {p : Program} {l : Launch} {e : Env} {R : Room} {s : State} {m : MethodId} {args : Array Value} {below : List Frame} {meth : Method} {c : Code} {T : State} {locs : List Loc} {cells slots : Nat} (X : Stand p l e R s m args below meth c T locs cells slots) (hexec : p.tables.exec = Jvm.exec) {own C : String} {index : Nat} (hown : s.vm.findClass own = some m.cls) (hlink : (Cond.classLink own index C).before args s = true) {a : Addr} (hE : Exact C a T)
    {g : JFrame} (hg : g.method = m) {rest : List Value} (hstack : g.stack = .ref a :: rest) (hdg : decode c.code g.pc = .ok (.checkcast index, 3)) :
    ∃ T', Stand p l e R s m args below meth c T' locs cells slots ∧ T'.heap = T.heap ∧ ∀ target, Steps p.tables e below (T'.setTop { g with pc := g.pc + 3, stack := .ref a :: rest }) target → Steps p.tables e below (T.setTop g) target := by
  obtain ⟨cB, h1, D, h2, h3, h4⟩ := hE
  have h1' : s.vm.findClass C = some cB := by rw [← X.warmed.alike.findClass]; exact h1
  obtain ⟨vm', X', st⟩ := X.checkcastYes hexec hown hlink h2 h4 h1' (by rw [h3]; exact Jvm.Free.SB.assignable_self _ _) hg hstack hdg
  exact ⟨_, X', rfl, fun t h => st t (by rw [← hstack] at h; exact h)⟩
namespace SEq
def yN : MethodName := ⟨"java/lang/String", "equals", "(Ljava/lang/Object;)Z"⟩
abbrev yB : ByteArray := jdk_42_method_66_code
theorem d0 : decode yB 0 = .ok (.aload_n 0, 1) := by decide +kernel
theorem d1 : decode yB 1 = .ok (.aload_n 1, 1) := by decide +kernel
theorem d2 : decode yB 2 = .ok (.if_acmp (.ne) 5, 3) := by decide +kernel
theorem d5 : decode yB 5 = .ok (.iconst 1, 1) := by decide +kernel
theorem d6 : decode yB 6 = .ok (.ireturn, 1) := by decide +kernel
theorem d7 : decode yB 7 = .ok (.aload_n 1, 1) := by decide +kernel
theorem d8 : decode yB 8 = .ok (.instanceof 10, 3) := by decide +kernel
theorem d11 : decode yB 11 = .ok (.ifCond (.eq) 43, 3) := by decide +kernel
theorem d14 : decode yB 14 = .ok (.aload_n 1, 1) := by decide +kernel
theorem d15 : decode yB 15 = .ok (.checkcast 10, 3) := by decide +kernel
theorem d18 : decode yB 18 = .ok (.astore_n 2, 1) := by decide +kernel
theorem d19 : decode yB 19 = .ok (.getstatic 38, 3) := by decide +kernel
theorem d22 : decode yB 22 = .ok (.ifCond (.eq) 14, 3) := by decide +kernel
theorem d25 : decode yB 25 = .ok (.aload_n 0, 1) := by decide +kernel
theorem d26 : decode yB 26 = .ok (.getfield 15, 3) := by decide +kernel
theorem d29 : decode yB 29 = .ok (.aload_n 2, 1) := by decide +kernel
theorem d30 : decode yB 30 = .ok (.getfield 15, 3) := by decide +kernel
theorem d33 : decode yB 33 = .ok (.if_icmp (.ne) 21, 3) := by decide +kernel
theorem d36 : decode yB 36 = .ok (.aload_n 0, 1) := by decide +kernel
theorem d37 : decode yB 37 = .ok (.getfield 9, 3) := by decide +kernel
theorem d40 : decode yB 40 = .ok (.aload_n 2, 1) := by decide +kernel
theorem d41 : decode yB 41 = .ok (.getfield 9, 3) := by decide +kernel
theorem d44 : decode yB 44 = .ok (.invokestatic 541, 3) := by decide +kernel
theorem d47 : decode yB 47 = .ok (.ifCond (.eq) 7, 3) := by decide +kernel
theorem d50 : decode yB 50 = .ok (.iconst 1, 1) := by decide +kernel
theorem d51 : decode yB 51 = .ok (.goto 4, 3) := by decide +kernel
theorem d54 : decode yB 54 = .ok (.iconst 0, 1) := by decide +kernel
theorem d55 : decode yB 55 = .ok (.ireturn, 1) := by decide +kernel
def site : List Cond := [.classLink "java/lang/String" 10 "java/lang/String", .fieldLink "java/lang/String" 38 "java/lang/String" "COMPACT_STRINGS" "Z", .fieldLink "java/lang/String" 15 "java/lang/String" "coder" "B", .fieldLink "java/lang/String" 9 "java/lang/String" "value" "[B", LEq.tab] ++ staticW "java/lang/String" 541 LEq.yN
def tab : Cond := tabOf yN yB 3 (some .boolean) site
def P (x t : Addr) (V : Cell) (cd : Int32) (n : Nat) (f : Nat → Int32) (y t' : Addr) (V' : Cell) (cd' : Int32) (k : Nat) (g : Nat → Int32) (z : Int32) (args : Array Value) (s : State) : Prop := args = #[.ref x, .ref y] ∧ Txt x t V cd n f s ∧ Txt y t' V' cd' k g s ∧ StaticIs s "java/lang/String" "COMPACT_STRINGS" "Z" (.int z) ∧ ¬ z = 0
/-- equals(Object) of two Strings: whether the texts are the same -/
theorem law (l : Launch) (x t : Addr) (V : Cell) (cd : Int32) (n : Nat) (f : Nat → Int32) (y t' : Addr) (V' : Cell) (cd' : Int32) (k : Nat) (g : Nat → Int32) (z : Int32) : Law l yN 2 1 1 14 yB 3 (some .boolean) site (P x t V cd n f y t' V' cd' k g z) (Says01 (SameT n f k g)) [] 0 0 := by
  refine Law.of_walk (plainFor_of_name (by decide +kernel)) (by decide +kernel) (by decide +kernel) (by decide) (fun _ _ h => by rw [h.1]; rfl) (fun _ U U' hal hh h => ⟨h.1, h.2.1.mv hal hh, h.2.2.1.mv hal hh, h.2.2.2.1.there hal hh, h.2.2.2.2⟩) (fun r U U' V V' h1 hal h2 h => Says01.mv r U U' V V' h1 hal h2 h) ?_
  intro p e s m args below meth c s₁ X0 hexec hbytes hml hret hlk hnm hown hh0 W hP
  obtain ⟨rfl, hx, hy, s1, hz⟩ := hP
  have c1 : Steps p.tables e below (s₁.setTop (entryFrame m #[.ref x, .ref y] 3)) (s₁.setTop (mkF m 2 #[.val (.ref x), .val (.ref y), .unset] [.ref y, .ref x])) := Steps.trans (entry rfl) (by
    show Steps p.tables e below (s₁.setTop (mkF m 0 #[.val (.ref x), .val (.ref y), .unset] [])) _
    refine XS.aloadN X0.here hexec rfl (hb hbytes d0) rfl rfl ?_
    refine XS.aloadN X0.here hexec rfl (hb hbytes d1) rfl rfl ?_
    exact Steps.refl _)
  by_cases hxy : x = y
  · have c2 : Steps p.tables e below (s₁.setTop (entryFrame m #[.ref x, .ref y] 3)) (s₁.setTop (mkF m 6 #[.val (.ref x), .val (.ref y), .unset] [.int 1])) := c1.trans (by
      refine acmpNo X0.here hexec rfl (hb hbytes d2) rfl rfl rfl (by simp [acmp, hxy]) ?_
      refine iconstV X0.here hexec rfl 1 (hb hbytes d5) (by decide) ?_
      exact Steps.refl _)
    subst hxy
    have ec : cd = cd' := by
      obtain ⟨D, fd, a1, a2, a3⟩ := hx.2.2.1
      obtain ⟨D', fd', b1, b2, b3⟩ := hy.2.2.1
      cases a1.symm.trans b1
      obtain ⟨q1, q2, q3, q4⟩ := a2.1
      obtain ⟨r1, r2, r3, r4⟩ := b2.1
      cases q4.symm.trans r4
      cases a3.symm.trans b3; rfl
    have et : t = t' := by
      obtain ⟨D, fd, a1, a2, a3⟩ := hx.2.1
      obtain ⟨D', fd', b1, b2, b3⟩ := hy.2.1
      cases a1.symm.trans b1
      obtain ⟨q1, q2, q3, q4⟩ := a2.1
      obtain ⟨r1, r2, r3, r4⟩ := b2.1
      cases q4.symm.trans r4
      cases a3.symm.trans b3; rfl
    subst ec et
    have ev : V = V' := by cases hx.2.2.2.1.1.symm.trans hy.2.2.2.1.1; rfl
    subst ev
    have hs : SameT n f k g := (Cod.eqv hx.2.2.2.2.1 hy.2.2.2.2.1 hx.2.2.2.2.2 hy.2.2.2.2.2).mp ⟨rfl, fun _ _ => rfl⟩
    exact ⟨s₁, some (.int 1), _, _, _, X0, rfl, rfl, rfl, (fun h => by cases h), ⟨1, rfl, hh0, Or.inl ⟨rfl, hs⟩⟩, fun fs hl => c2.trans (X0.ireturnOut hexec hret rfl (Or.inr (Or.inl rfl)) (hb hbytes d6) hl)⟩
  · have c2 : Steps p.tables e below (s₁.setTop (entryFrame m #[.ref x, .ref y] 3)) (s₁.setTop (mkF m 8 #[.val (.ref x), .val (.ref y), .unset] [.ref y])) := c1.trans (by
      refine acmpYes X0.here hexec rfl (pc0 := 2) rfl (hb hbytes d2) rfl rfl rfl (by simp [acmp, hxy]) (by decide) rfl ?_
      refine XS.aloadN X0.here hexec rfl (hb hbytes d7) rfl rfl ?_
      exact Steps.refl _)
    obtain ⟨T3, X3, q3, st3⟩ := cinst X0 hexec hown (wk W (.classLink "java/lang/String" 10 "java/lang/String")) (hy.mv X0.warmed.alike hh0).1 (g := (mkF m 8 #[.val (.ref x), .val (.ref y), .unset] [.ref y])) rfl (rest := []) rfl (hb hbytes d8)
    have hh3 := q3.trans hh0
    have c4 : Steps p.tables e below (s₁.setTop (entryFrame m #[.ref x, .ref y] 3)) (T3.setTop (mkF m 15 #[.val (.ref x), .val (.ref y), .unset] [.ref y])) := (c2.trans (st3 _ (Steps.refl _))).trans (by
      refine XS.ifNo X3.here hexec rfl (hb hbytes d11) rfl (i0_eq_f (by decide)) ?_
      refine XS.aloadN X3.here hexec rfl (hb hbytes d14) rfl rfl ?_
      exact Steps.refl _)
    obtain ⟨T5, X5, q5, st5⟩ := cself X3 hexec hown (wk W (.classLink "java/lang/String" 10 "java/lang/String")) (hy.mv X3.warmed.alike hh3).1 (g := (mkF m 15 #[.val (.ref x), .val (.ref y), .unset] [.ref y])) rfl (rest := []) rfl (hb hbytes d15)
    have hh5 := q5.trans hh3
    have c6 : Steps p.tables e below (s₁.setTop (entryFrame m #[.ref x, .ref y] 3)) (T5.setTop (mkF m 19 #[.val (.ref x), .val (.ref y), .val (.ref y)] [])) := (c4.trans (st5 _ (Steps.refl _))).trans (by
      refine XS.astoreN X5.here hexec rfl (hb hbytes d18) rfl rfl rfl ?_
      exact Steps.refl _)
    obtain ⟨T7, X7, q7, st7⟩ := X5.sget hexec hown (wk W (.fieldLink "java/lang/String" 38 "java/lang/String" "COMPACT_STRINGS" "Z")) s1 (fun _ _ h => by rw [hh5]; exact h) (g := (mkF m 19 #[.val (.ref x), .val (.ref y), .val (.ref y)] [])) rfl (hb hbytes d19)
    have hh7 := q7.trans hh5
    have c8 : Steps p.tables e below (s₁.setTop (entryFrame m #[.ref x, .ref y] 3)) (T7.setTop (mkF m 26 #[.val (.ref x), .val (.ref y), .val (.ref y)] [.ref x])) := (c6.trans (st7 _ (Steps.refl _))).trans (by
      refine XS.ifNo X7.here hexec rfl (hb hbytes d22) rfl (i0_eq_f hz) ?_
      refine XS.aloadN X7.here hexec rfl (hb hbytes d25) rfl rfl ?_
      exact Steps.refl _)
    obtain ⟨T9, X9, q9, st9⟩ := X7.hget hexec hown (wk W (.fieldLink "java/lang/String" 15 "java/lang/String" "coder" "B")) (hx.mv X7.warmed.alike hh7).2.2.1 (g := (mkF m 26 #[.val (.ref x), .val (.ref y), .val (.ref y)] [.ref x])) rfl (rest := []) rfl (hb hbytes d26)
    have hh9 := q9.trans hh7
    have c10 : Steps p.tables e below (s₁.setTop (entryFrame m #[.ref x, .ref y] 3)) (T9.setTop (mkF m 30 #[.val (.ref x), .val (.ref y), .val (.ref y)] [.ref y, .int cd])) := (c8.trans (st9 _ (Steps.refl _))).trans (by
      refine XS.aloadN X9.here hexec rfl (hb hbytes d29) rfl rfl ?_
      exact Steps.refl _)
    obtain ⟨T11, X11, q11, st11⟩ := X9.hget hexec hown (wk W (.fieldLink "java/lang/String" 15 "java/lang/String" "coder" "B")) (hy.mv X9.warmed.alike hh9).2.2.1 (g := (mkF m 30 #[.val (.ref x), .val (.ref y), .val (.ref y)] [.ref y, .int cd])) rfl (rest := [.int cd]) rfl (hb hbytes d30)
    have hh11 := q11.trans hh9
    have c12 : Steps p.tables e below (s₁.setTop (entryFrame m #[.ref x, .ref y] 3)) (T11.setTop (mkF m 33 #[.val (.ref x), .val (.ref y), .val (.ref y)] [.int cd', .int cd])) := c10.trans (st11 _ (Steps.refl _))
    by_cases hcd : cd = cd'
    · subst hcd
      have c13 : Steps p.tables e below (s₁.setTop (entryFrame m #[.ref x, .ref y] 3)) (T11.setTop (mkF m 37 #[.val (.ref x), .val (.ref y), .val (.ref y)] [.ref x])) := c12.trans (by
        refine XS.icmpNo X11.here hexec rfl (hb hbytes d33) rfl (ii_ne_f rfl) ?_
        refine XS.aloadN X11.here hexec rfl (hb hbytes d36) rfl rfl ?_
        exact Steps.refl _)
      obtain ⟨T14, X14, q14, st14⟩ := X11.hget hexec hown (wk W (.fieldLink "java/lang/String" 9 "java/lang/String" "value" "[B")) (hx.mv X11.warmed.alike hh11).2.1 (g := (mkF m 37 #[.val (.ref x), .val (.ref y), .val (.ref y)] [.ref x])) rfl (rest := []) rfl (hb hbytes d37)
      have hh14 := q14.trans hh11
      have c15 : Steps p.tables e below (s₁.setTop (entryFrame m #[.ref x, .ref y] 3)) (T14.setTop (mkF m 41 #[.val (.ref x), .val (.ref y), .val (.ref y)] [.ref y, .ref t])) := (c13.trans (st14 _ (Steps.refl _))).trans (by
        refine XS.aloadN X14.here hexec rfl (hb hbytes d40) rfl rfl ?_
        exact Steps.refl _)
      obtain ⟨T16, X16, q16, st16⟩ := X14.hget hexec hown (wk W (.fieldLink "java/lang/String" 9 "java/lang/String" "value" "[B")) (hy.mv X14.warmed.alike hh14).2.1 (g := (mkF m 41 #[.val (.ref x), .val (.ref y), .val (.ref y)] [.ref y, .ref t])) rfl (rest := [.ref t]) rfl (hb hbytes d41)
      have hh16 := q16.trans hh14
      have c17 : Steps p.tables e below (s₁.setTop (entryFrame m #[.ref x, .ref y] 3)) (T16.setTop (mkF m 44 #[.val (.ref x), .val (.ref y), .val (.ref y)] [.ref t', .ref t])) := c15.trans (st16 _ (Steps.refl _))
      obtain ⟨v18, T18, X18, E18, g18⟩ := X16.callS hexec (LEq.law l t V t' V') hown (wks W (staticW "java/lang/String" 541 LEq.yN)) (wk W LEq.tab) (W := 0) (Nat.le_of_ble_eq_true rfl) (Nat.le_of_ble_eq_true rfl) (Nat.le_refl _) (Nat.le_refl _) (g := (mkF m 44 #[.val (.ref x), .val (.ref y), .val (.ref y)] [.ref t', .ref t])) rfl (by rw [hml]; rfl) c17 (argsL := [.ref t, .ref t']) (rest := []) rfl rfl (by show 2 * 0 + 0 ≤ _; decide) (hb hbytes d44) (⟨rfl, hx.2.2.2.1.mv X16.warmed.alike hh16, hx.2.2.2.2.1.ty, hy.2.2.2.1.mv X16.warmed.alike hh16, hy.2.2.2.2.1.ty⟩)
      obtain ⟨v, rfl, q18, hv⟩ := E18
      have iff := Cod.eqv hx.2.2.2.2.1 hy.2.2.2.2.1 hx.2.2.2.2.2 hy.2.2.2.2.2
      rcases hv with ⟨rfl, he⟩ | ⟨rfl, he⟩
      · have c19 : Steps p.tables e below (s₁.setTop (entryFrame m #[.ref x, .ref y] 3)) (T18.setTop (mkF m 55 #[.val (.ref x), .val (.ref y), .val (.ref y)] [.int 1])) := Steps.trans g18 (by
          refine XS.ifNo X18.here hexec rfl (hb hbytes d47) rfl (i0_eq_f (by decide)) ?_
          refine iconstV X18.here hexec rfl 1 (hb hbytes d50) (by decide) ?_
          refine XS.goto X18.here hexec rfl (pc0 := 51) rfl (hb hbytes d51) (by decide) rfl ?_
          exact Steps.refl _)
        exact ⟨T18, some (.int 1), _, _, _, X18, rfl, rfl, rfl, (fun h => by cases h), ⟨1, rfl, q18.trans hh16, Or.inl ⟨rfl, iff.mp he⟩⟩, fun fs hl => c19.trans (X18.ireturnOut hexec hret rfl (Or.inr (Or.inl rfl)) (hb hbytes d55) hl)⟩
      · have c19 : Steps p.tables e below (s₁.setTop (entryFrame m #[.ref x, .ref y] 3)) (T18.setTop (mkF m 55 #[.val (.ref x), .val (.ref y), .val (.ref y)] [.int 0])) := Steps.trans g18 (by
          refine XS.ifYes X18.here hexec rfl (pc0 := 47) rfl (hb hbytes d47) rfl (i0_eq_t rfl) (by decide) rfl ?_
          refine iconstV X18.here hexec rfl 0 (hb hbytes d54) (by decide) ?_
          exact Steps.refl _)
        exact ⟨T18, some (.int 0), _, _, _, X18, rfl, rfl, rfl, (fun h => by cases h), ⟨0, rfl, q18.trans hh16, Or.inr ⟨rfl, fun q => he (iff.mpr q)⟩⟩, fun fs hl => c19.trans (X18.ireturnOut hexec hret rfl (Or.inr (Or.inl rfl)) (hb hbytes d55) hl)⟩
    · have c13 : Steps p.tables e below (s₁.setTop (entryFrame m #[.ref x, .ref y] 3)) (T11.setTop (mkF m 55 #[.val (.ref x), .val (.ref y), .val (.ref y)] [.int 0])) := c12.trans (by
        refine XS.icmpYes X11.here hexec rfl (pc0 := 33) rfl (hb hbytes d33) rfl (ii_ne_t hcd) (by decide) rfl ?_
        refine iconstV X11.here hexec rfl 0 (hb hbytes d54) (by decide) ?_
        exact Steps.refl _)
      exact ⟨T11, some (.int 0), _, _, _, X11, rfl, rfl, rfl, (fun h => by cases h), ⟨0, rfl, hh11, Or.inr ⟨rfl, Cod.dif hx.2.2.2.2.1 hy.2.2.2.2.1 hcd⟩⟩, fun fs hl => c13.trans (X11.ireturnOut hexec hret rfl (Or.inr (Or.inl rfl)) (hb hbytes d55) hl)⟩
theorem pays {l : Launch} {R : Room} {p : Program} {e : Env} {below : List Frame} {s : State} {sargs : Array Value} {len W : Nat} (x t : Addr) (V : Cell) (cd : Int32) (n : Nat) (f : Nat → Int32) (y t' : Addr) (V' : Cell) (cd' : Int32) (k : Nat) (g : Nat → Int32) (z : Int32) (htab : tab.before sargs s = true) (hfr : 2 ≤ R.frames) (hlo : W + 28 ≤ R.locals) :
    Back l R p e below s sargs yN len W (fun A₁ a₁ => A₁.cells + 0 ≤ R.cells ∧ A₁.slots + 0 ≤ R.slots ∧ P x t V cd n f y t' V' cd' k g z a₁ A₁.U) (fun A₁ _ v₁ B₁ => Says01 (SameT n f k g) v₁ A₁.U B₁.U ∧ B₁.locs = A₁.locs ++ [] ∧ B₁.cells = A₁.cells + 0 ∧ B₁.slots = A₁.slots + 0) :=
  (law l x t V cd n f y t' V' cd' k g z).pays htab hfr (by omega)
end SEq
end StrChars
namespace StrChars.Road
open Jvm Sem ClassFile Op Lib Jvm.Stand Jvm.Free Jvm.Free.XT
open Jvm.Lib.Cold (StaticIs)
/-- the words of String.equals(Object) -/
abbrev wordsEq : List Jvm.Cond := [.code SEq.yN SEq.yB 3 (some .boolean), .initialized ST, .classLink ST 10 ST, .fieldLink ST 38 ST "COMPACT_STRINGS" "Z", .fieldLink ST 15 ST "coder" "B", .fieldLink ST 9 ST "value" "[B", .methodLink ST 541 LEq.yN, .static LEq.yN, .code LEq.yN LEq.yB 3 (some .boolean), .initialized "java/lang/StringLatin1"]
theorem tabEq_of {a : Array Value} {s : State} (h : ∀ w ∈ wordsEq, w.before a s = true) : SEq.tab.before a s = true := by
  have hl : LEq.tab.before a s = true := unparts (wk h (.code LEq.yN LEq.yB 3 (some .boolean))) (wks h (.initialized LEq.yN.cls :: LEq.site))
  have q := consq hl h
  exact unparts (wk q (.code SEq.yN SEq.yB 3 (some .boolean))) (wks q (.initialized SEq.yN.cls :: SEq.site))
theorem movedEq {Z s : State} {a0 args : Array Value} (hZ : Z.Warmed39 s.vm) (hw : ∀ d ∈ wordsEq, d.before a0 Z = true) : ∀ d ∈ wordsEq, d.before args s = true := fun d hd => by
  have t : ∀ d ∈ wordsEq, (d.onTables && d.keepsFace) = true := by decide +kernel
  exact RoadKit.mv hZ (hw d hd) (t d hd)
/-- the road's facts of a String, as the laws ask it -/
theorem txt_of {Z U : State} {a0 : Array Value} {kI : Nat} (wi : (Jvm.Cond.instantiable ST kI).before a0 Z = true) (al : Z.vm.Alike U.vm) {x t : Addr} {kb : ClassId} {cs : List Int32} {cd N2 : Int32} {vs : List Value} (E : RoadKit.Exa Z U.heap x ST) (V : RoadKit.Fld Z U.heap x ST "value" "[B" (.ref t)) (C : RoadKit.Fld Z U.heap x ST "coder" "B" (.int cd)) (K : RoadKit.Arv Z U.heap t kb .byte N2 vs (.int 0)) (hc : CodA cs cd N2 vs) (hb : ∀ c ∈ cs, ¬ c < 0 ∧ ¬ (65535 : Int32) < c) (l2 : cs.length ≤ 4000) :
    ∃ A, Txt x t A cd cs.length (fun j => cs.getD j 0) U := by
  obtain ⟨A, K1, K2, K3, K4, K5, K6⟩ := K
  have hcod := hc.cod (by omega) K3 K5
  obtain ⟨D, fV, fC, hB, F1, F2, g1, g2, -, -⟩ := strObj wi al E V C
  exact ⟨A, ⟨_, hB.2.2.1, D, hB.1, rfl, by cases q : D.vm <;> first | rfl | exact absurd q (hB.2.1.2 _)⟩, Has.of hB F1 g1, Has.of hB F2 g2, ⟨K1.1, State.isArrayOf_alike al K1.2.1, K1.2.2, by rcases hcod with ⟨-, q, -⟩ | ⟨-, q, -⟩ <;> omega⟩, hcod, fun j hj => by
    have e : cs.getD j 0 = cs[j] := by simp [List.getD_eq_getElem?_getD, hj]
    show ¬ cs.getD j 0 < 0 ∧ ¬ 65535 < cs.getD j 0
    rw [e]; exact hb _ (List.getElem_mem _)⟩
theorem same_list (cs ds : List Int32) : SameT cs.length (fun j => cs.getD j 0) ds.length (fun j => ds.getD j 0) ↔ cs = ds := by
  constructor
  · rintro ⟨e, q⟩
    refine List.ext_getElem e fun j h1 h2 => ?_
    have := q j h1
    simpa [List.getD_eq_getElem?_getD, h1, h2] using this
  · rintro rfl
    exact ⟨rfl, fun _ _ => rfl⟩
/-- **equals(Object) OF TWO SUCH STRINGS**: 1 just where the chars are the same -/
theorem eqW {p : Program} {l : Launch} {e : Env} {R : Room} {s : State} {args : Array Value} {below : List Frame} {len W : Nat} {Z : State} {a0 : Array Value} {h : Heap} (hZ : Z.Warmed39 s.vm) (hw : ∀ d ∈ wordsEq, d.before a0 Z = true) {kI : Nat} (wi : (Jvm.Cond.instantiable ST kI).before a0 Z = true)
    {x t : Addr} {kb : ClassId} {cs : List Int32} {cd N2 : Int32} {vs : List Value} (E : RoadKit.Exa Z h x ST) (V : RoadKit.Fld Z h x ST "value" "[B" (.ref t)) (C : RoadKit.Fld Z h x ST "coder" "B" (.int cd)) (K : RoadKit.Arv Z h t kb .byte N2 vs (.int 0)) (hc : CodA cs cd N2 vs) (hb : ∀ c ∈ cs, ¬ c < 0 ∧ ¬ (65535 : Int32) < c) (l2 : cs.length ≤ 4000)
    {y t' : Addr} {kb' : ClassId} {ds : List Int32} {cd' N2' : Int32} {vs' : List Value} (E' : RoadKit.Exa Z h y ST) (V' : RoadKit.Fld Z h y ST "value" "[B" (.ref t')) (C' : RoadKit.Fld Z h y ST "coder" "B" (.int cd')) (K' : RoadKit.Arv Z h t' kb' .byte N2' vs' (.int 0)) (hc' : CodA ds cd' N2' vs') (hb' : ∀ c ∈ ds, ¬ c < 0 ∧ ¬ (65535 : Int32) < c) (l2' : ds.length ≤ 4000)
    {z : Int32} (S : RoadKit.Sta Z h ST "COMPACT_STRINGS" "Z" (.int z)) (hz : ¬ z = 0) (hfr : 2 ≤ R.frames) (hlo : W + 28 ≤ R.locals) :
    Back l R p e below s args (⟨"java/lang/String", "equals", "(Ljava/lang/Object;)Z"⟩ : MethodName) len W (fun P a => a = #[.ref x, .ref y] ∧ P.U.heap = h ∧ P.cells + 0 ≤ R.cells ∧ P.slots + 0 ≤ R.slots)
      (fun P _ v B => ∃ L, (((v = some (.int 1) ∧ cs = ds) ∨ (v = some (.int 0) ∧ ¬ cs = ds)) ∧ L = [] ∧ B.U.heap = h) ∧ B.locs = P.locs ++ L ∧ B.cells = P.cells + 0 ∧ B.slots = P.slots + 0) := by
  intro m meth c P g ig mk a X hg hsize hdg hW hn hp'
  obtain ⟨rfl, rfl, r1, r2⟩ := hp'
  have al : Z.vm.Alike P.U.vm := hZ.alike.trans X.warmed.alike
  obtain ⟨A, hx⟩ := txt_of wi al E V C K hc hb l2
  obtain ⟨A', hy⟩ := txt_of wi al E' V' C' K' hc' hb' l2'
  obtain ⟨v, B, X', ⟨⟨w, hv, hh, hq⟩, hl, hk, hs⟩, st⟩ := SEq.pays x t A cd cs.length (fun j => cs.getD j 0) y t' A' cd' ds.length (fun j => ds.getD j 0) z (tabEq_of (movedEq hZ hw)) hfr hlo m meth c P g ig mk _ X hg hsize hdg hW hn ⟨r1, r2, rfl, hx, hy, sta_is al S, hz⟩
  refine ⟨v, B, X', ⟨[], ⟨?_, rfl, hh⟩, hl, hk, hs⟩, st⟩
  rcases hq with ⟨rfl, q⟩ | ⟨rfl, q⟩
  · exact Or.inl ⟨hv, (same_list cs ds).mp q⟩
  · exact Or.inr ⟨hv, fun e => q ((same_list cs ds).mpr e)⟩
end StrChars.Road
namespace StrChars.Road
open Jvm Sem ClassFile Op Lib Jvm.Stand Jvm.Free Jvm.Free.XT
open Jvm.Lib.Cold (StaticIs)
/-- what backV says of its String, as the contracts of this text ask it: cs's low bytes, coder 0 -/
theorem codOf {cs : List Int32} {n : Nat} (hn : cs.length = n) (hb : ∀ c ∈ cs, ¬ 255 < c) : CodA cs 0 (Int32.ofNat n) ((cs.map lo8).map Value.int) := Or.inl ⟨rfl, by rw [hn], by simp [List.map_map, Function.comp_def], hb⟩
end StrChars.Road
end Jvm.Pilot.@@N@@
namespace Jvm.Pilot.@@N@@
open Jvm Jvm.ClassFile Sem Op Lib Jvm.Free Jvm.Stand Jvm.LawKit Jvm.RoadKit Bundle Jvm.Own Jvm.Pilot.@@N@@.Jvm.D
theorem d0_0 : decode jdk_42_method_152_code 0 = .ok (.getstatic 38, 3) := by decide +kernel
theorem W17 {Z : State} {a0 : Array Value} (hw : ∀ d ∈ tables_1, d.before a0 Z = true) : (Jvm.Cond.fieldLink "java/lang/String" (38 : Nat) "java/lang/String" "COMPACT_STRINGS" "Z").before a0 Z = true := hw _ (List.mem_of_getElem? (i := 17) rfl)
theorem d0_3 : decode jdk_42_method_152_code 3 = .ok (.ifCond .eq 10, 3) := by decide +kernel
theorem d0_6 : decode jdk_42_method_152_code 6 = .ok (.aload_n 0, 1) := by decide +kernel
theorem d0_7 : decode jdk_42_method_152_code 7 = .ok (.getfield 15, 3) := by decide +kernel
theorem W29 {Z : State} {a0 : Array Value} (hw : ∀ d ∈ tables_1, d.before a0 Z = true) : (Jvm.Cond.fieldLink "java/lang/String" (15 : Nat) "java/lang/String" "coder" "B").before a0 Z = true := hw _ (List.mem_of_getElem? (i := 29) rfl)
theorem d0_10 : decode jdk_42_method_152_code 10 = .ok (.goto 4, 3) := by decide +kernel
theorem d0_14 : decode jdk_42_method_152_code 14 = .ok (.ireturn, 1) := by decide +kernel
theorem pn_537472696e67_5 : plainName "java/lang/String" = true := by first | (simp [plainName, overriddenIn]; done) | decide +kernel
theorem d1_0 : decode jdk_42_method_54_code 0 = .ok (.aload_n 0, 1) := by decide +kernel
theorem d1_1 : decode jdk_42_method_54_code 1 = .ok (.getfield 9, 3) := by decide +kernel
theorem W31 {Z : State} {a0 : Array Value} (hw : ∀ d ∈ tables_1, d.before a0 Z = true) : (Jvm.Cond.fieldLink "java/lang/String" (9 : Nat) "java/lang/String" "value" "[B").before a0 Z = true := hw _ (List.mem_of_getElem? (i := 31) rfl)
theorem d1_4 : decode jdk_42_method_54_code 4 = .ok (.arraylength, 1) := by decide +kernel
theorem d1_5 : decode jdk_42_method_54_code 5 = .ok (.aload_n 0, 1) := by decide +kernel
theorem d1_6 : decode jdk_42_method_54_code 6 = .ok (.invokevirtual 335, 3) := by decide +kernel
theorem W74 {Z : State} {a0 : Array Value} (hw : ∀ d ∈ tables_1, d.before a0 Z = true) : (Jvm.Cond.methodLink "java/lang/String" (335 : Nat) ({ cls := "java/lang/String", name := "coder", desc := "()B" } : Jvm.MethodName)).before a0 Z = true := hw _ (List.mem_of_getElem? (i := 74) rfl)
theorem pd_282942 : parseMethodDescriptor "()B" = some ⟨[], (some .byte)⟩ := by decide +kernel
theorem W75 {Z : State} {a0 : Array Value} (hw : ∀ d ∈ tables_1, d.before a0 Z = true) : (Jvm.Cond.declares ({ cls := "java/lang/String", name := "coder", desc := "()B" } : Jvm.MethodName)).before a0 Z = true := hw _ (List.mem_of_getElem? (i := 75) rfl)
theorem W77 {Z : State} {a0 : Array Value} (hw : ∀ d ∈ tables_1, d.before a0 Z = true) : (Jvm.Cond.selects "java/lang/String" ({ cls := "java/lang/String", name := "coder", desc := "()B" } : Jvm.MethodName) ({ cls := "java/lang/String", name := "coder", desc := "()B" } : Jvm.MethodName)).before a0 Z = true := hw _ (List.mem_of_getElem? (i := 77) rfl)
theorem W76 {Z : State} {a0 : Array Value} (hw : ∀ d ∈ tables_1, d.before a0 Z = true) : (Jvm.Cond.instanceMethod ({ cls := "java/lang/String", name := "coder", desc := "()B" } : Jvm.MethodName)).before a0 Z = true := hw _ (List.mem_of_getElem? (i := 76) rfl)
theorem W78 {Z : State} {a0 : Array Value} (hw : ∀ d ∈ tables_1, d.before a0 Z = true) : (Jvm.Cond.code ({ cls := "java/lang/String", name := "coder", desc := "()B" } : Jvm.MethodName) jdk_42_method_152_code (1 : Nat) (Option.some Jvm.ClassFile.FieldType.byte)).before a0 Z = true := hw _ (List.mem_of_getElem? (i := 78) rfl)
theorem W5 {Z : State} {a0 : Array Value} (hw : ∀ d ∈ tables_1, d.before a0 Z = true) : (Jvm.Cond.initialized "java/lang/String").before a0 Z = true := hw _ (List.mem_of_getElem? (i := 5) rfl)
theorem d1_9 : decode jdk_42_method_54_code 9 = .ok (.ishr, 1) := by decide +kernel
theorem d1_10 : decode jdk_42_method_54_code 10 = .ok (.ireturn, 1) := by decide +kernel
theorem d2_0 : decode jdk_68_method_71_code 0 = .ok (.getstatic 18, 3) := by decide +kernel
theorem W54 {Z : State} {a0 : Array Value} (hw : ∀ d ∈ tables_1, d.before a0 Z = true) : (Jvm.Cond.fieldLink "java/lang/AbstractStringBuilder" (18 : Nat) "java/lang/String" "COMPACT_STRINGS" "Z").before a0 Z = true := hw _ (List.mem_of_getElem? (i := 54) rfl)
theorem d2_3 : decode jdk_68_method_71_code 3 = .ok (.ifCond .eq 18, 3) := by decide +kernel
theorem d2_6 : decode jdk_68_method_71_code 6 = .ok (.aload_n 0, 1) := by decide +kernel
theorem d2_7 : decode jdk_68_method_71_code 7 = .ok (.getfield 22, 3) := by decide +kernel
theorem W57 {Z : State} {a0 : Array Value} (hw : ∀ d ∈ tables_1, d.before a0 Z = true) : (Jvm.Cond.fieldLink "java/lang/AbstractStringBuilder" (22 : Nat) "java/lang/AbstractStringBuilder" "coder" "B").before a0 Z = true := hw _ (List.mem_of_getElem? (i := 57) rfl)
theorem d2_10 : decode jdk_68_method_71_code 10 = .ok (.aload_n 1, 1) := by decide +kernel
theorem d2_11 : decode jdk_68_method_71_code 11 = .ok (.invokevirtual 40, 3) := by decide +kernel
theorem W96 {Z : State} {a0 : Array Value} (hw : ∀ d ∈ tables_1, d.before a0 Z = true) : (Jvm.Cond.methodLink "java/lang/AbstractStringBuilder" (40 : Nat) ({ cls := "java/lang/String", name := "coder", desc := "()B" } : Jvm.MethodName)).before a0 Z = true := hw _ (List.mem_of_getElem? (i := 96) rfl)
theorem d2_14 : decode jdk_68_method_71_code 14 = .ok (.if_icmp .eq 7, 3) := by decide +kernel
theorem d2_21 : decode jdk_68_method_71_code 21 = .ok (.return_, 1) := by decide +kernel
theorem pn_75696c646572_2 : plainName "java/lang/AbstractStringBuilder" = true := by first | (simp [plainName, overriddenIn]; done) | decide +kernel
theorem d3_0 : decode jdk_42_method_147_code 0 = .ok (.aload_n 0, 1) := by decide +kernel
theorem d3_1 : decode jdk_42_method_147_code 1 = .ok (.invokevirtual 335, 3) := by decide +kernel
theorem d3_4 : decode jdk_42_method_147_code 4 = .ok (.iload_n 3, 1) := by decide +kernel
theorem d3_5 : decode jdk_42_method_147_code 5 = .ok (.if_icmp .ne 23, 3) := by decide +kernel
theorem d3_8 : decode jdk_42_method_147_code 8 = .ok (.aload_n 0, 1) := by decide +kernel
theorem d3_9 : decode jdk_42_method_147_code 9 = .ok (.getfield 9, 3) := by decide +kernel
theorem d3_12 : decode jdk_42_method_147_code 12 = .ok (.iconst 0, 1) := by decide +kernel
theorem d3_13 : decode jdk_42_method_147_code 13 = .ok (.aload_n 1, 1) := by decide +kernel
theorem d3_14 : decode jdk_42_method_147_code 14 = .ok (.iload_n 2, 1) := by decide +kernel
theorem d3_15 : decode jdk_42_method_147_code 15 = .ok (.iload_n 3, 1) := by decide +kernel
theorem d3_16 : decode jdk_42_method_147_code 16 = .ok (.ishl, 1) := by decide +kernel
theorem d3_17 : decode jdk_42_method_147_code 17 = .ok (.aload_n 0, 1) := by decide +kernel
theorem d3_18 : decode jdk_42_method_147_code 18 = .ok (.getfield 9, 3) := by decide +kernel
theorem d3_21 : decode jdk_42_method_147_code 21 = .ok (.arraylength, 1) := by decide +kernel
theorem d3_22 : decode jdk_42_method_147_code 22 = .ok (.invokestatic 212, 3) := by decide +kernel
theorem W102 {Z : State} {a0 : Array Value} (hw : ∀ d ∈ tables_1, d.before a0 Z = true) : (Jvm.Cond.methodLink "java/lang/String" (212 : Nat) ({ cls := "java/lang/System", name := "arraycopy", desc := "(Ljava/lang/Object;ILjava/lang/Object;II)V" } : Jvm.MethodName)).before a0 Z = true := hw _ (List.mem_of_getElem? (i := 102) rfl)
theorem W105 {Z : State} {a0 : Array Value} (hw : ∀ d ∈ tables_1, d.before a0 Z = true) : (Jvm.Cond.native ({ cls := "java/lang/System", name := "arraycopy", desc := "(Ljava/lang/Object;ILjava/lang/Object;II)V" } : Jvm.MethodName)).before a0 Z = true := hw _ (List.mem_of_getElem? (i := 105) rfl)
theorem W103 {Z : State} {a0 : Array Value} (hw : ∀ d ∈ tables_1, d.before a0 Z = true) : (Jvm.Cond.static ({ cls := "java/lang/System", name := "arraycopy", desc := "(Ljava/lang/Object;ILjava/lang/Object;II)V" } : Jvm.MethodName)).before a0 Z = true := hw _ (List.mem_of_getElem? (i := 103) rfl)
theorem W104 {Z : State} {a0 : Array Value} (hw : ∀ d ∈ tables_1, d.before a0 Z = true) : (Jvm.Cond.initialized "java/lang/System").before a0 Z = true := hw _ (List.mem_of_getElem? (i := 104) rfl)
theorem d3_25 : decode jdk_42_method_147_code 25 = .ok (.goto 18, 3) := by decide +kernel
theorem d3_43 : decode jdk_42_method_147_code 43 = .ok (.return_, 1) := by decide +kernel
theorem d4_0 : decode jdk_68_method_73_code 0 = .ok (.aload_n 0, 1) := by decide +kernel
theorem d4_1 : decode jdk_68_method_73_code 1 = .ok (.aload_n 2, 1) := by decide +kernel
theorem d4_2 : decode jdk_68_method_73_code 2 = .ok (.invokevirtual 397, 3) := by decide +kernel
theorem W91 {Z : State} {a0 : Array Value} (hw : ∀ d ∈ tables_1, d.before a0 Z = true) : (Jvm.Cond.methodLink "java/lang/AbstractStringBuilder" (397 : Nat) ({ cls := "java/lang/AbstractStringBuilder", name := "inflateIfNeededFor", desc := "(Ljava/lang/String;)V" } : Jvm.MethodName)).before a0 Z = true := hw _ (List.mem_of_getElem? (i := 91) rfl)
theorem pd_18 : parseMethodDescriptor "(Ljava/lang/String;)V" = some ⟨[(.object "java/lang/String")], none⟩ := by decide +kernel
theorem W92 {Z : State} {a0 : Array Value} (hw : ∀ d ∈ tables_1, d.before a0 Z = true) : (Jvm.Cond.instanceMethod ({ cls := "java/lang/AbstractStringBuilder", name := "inflateIfNeededFor", desc := "(Ljava/lang/String;)V" } : Jvm.MethodName)).before a0 Z = true := hw _ (List.mem_of_getElem? (i := 92) rfl)
theorem W84 {Z : State} {a0 : Array Value} (hw : ∀ d ∈ tables_1, d.before a0 Z = true) : (Jvm.Cond.selects "java/lang/StringBuilder" ({ cls := "java/lang/AbstractStringBuilder", name := "ensureCapacityInternal", desc := "(I)V" } : Jvm.MethodName) ({ cls := "java/lang/AbstractStringBuilder", name := "ensureCapacityInternal", desc := "(I)V" } : Jvm.MethodName)).before a0 Z = true := hw _ (List.mem_of_getElem? (i := 84) rfl)
theorem W82 {Z : State} {a0 : Array Value} (hw : ∀ d ∈ tables_1, d.before a0 Z = true) : (Jvm.Cond.instanceMethod ({ cls := "java/lang/AbstractStringBuilder", name := "ensureCapacityInternal", desc := "(I)V" } : Jvm.MethodName)).before a0 Z = true := hw _ (List.mem_of_getElem? (i := 82) rfl)
theorem W93 {Z : State} {a0 : Array Value} (hw : ∀ d ∈ tables_1, d.before a0 Z = true) : (Jvm.Cond.privateMethod ({ cls := "java/lang/AbstractStringBuilder", name := "inflateIfNeededFor", desc := "(Ljava/lang/String;)V" } : Jvm.MethodName)).before a0 Z = true := hw _ (List.mem_of_getElem? (i := 93) rfl)
theorem W95 {Z : State} {a0 : Array Value} (hw : ∀ d ∈ tables_1, d.before a0 Z = true) : (Jvm.Cond.code ({ cls := "java/lang/AbstractStringBuilder", name := "inflateIfNeededFor", desc := "(Ljava/lang/String;)V" } : Jvm.MethodName) jdk_68_method_71_code (2 : Nat) (Option.none : Option Jvm.ClassFile.FieldType)).before a0 Z = true := hw _ (List.mem_of_getElem? (i := 95) rfl)
theorem W51 {Z : State} {a0 : Array Value} (hw : ∀ d ∈ tables_1, d.before a0 Z = true) : (Jvm.Cond.initialized "java/lang/AbstractStringBuilder").before a0 Z = true := hw _ (List.mem_of_getElem? (i := 51) rfl)
theorem d4_5 : decode jdk_68_method_73_code 5 = .ok (.aload_n 2, 1) := by decide +kernel
theorem d4_6 : decode jdk_68_method_73_code 6 = .ok (.aload_n 0, 1) := by decide +kernel
theorem d4_7 : decode jdk_68_method_73_code 7 = .ok (.getfield 15, 3) := by decide +kernel
theorem W55 {Z : State} {a0 : Array Value} (hw : ∀ d ∈ tables_1, d.before a0 Z = true) : (Jvm.Cond.fieldLink "java/lang/AbstractStringBuilder" (15 : Nat) "java/lang/AbstractStringBuilder" "value" "[B").before a0 Z = true := hw _ (List.mem_of_getElem? (i := 55) rfl)
theorem d4_10 : decode jdk_68_method_73_code 10 = .ok (.iload_n 1, 1) := by decide +kernel
theorem d4_11 : decode jdk_68_method_73_code 11 = .ok (.aload_n 0, 1) := by decide +kernel
theorem d4_12 : decode jdk_68_method_73_code 12 = .ok (.getfield 22, 3) := by decide +kernel
theorem d4_15 : decode jdk_68_method_73_code 15 = .ok (.invokevirtual 399, 3) := by decide +kernel
theorem W97 {Z : State} {a0 : Array Value} (hw : ∀ d ∈ tables_1, d.before a0 Z = true) : (Jvm.Cond.methodLink "java/lang/AbstractStringBuilder" (399 : Nat) ({ cls := "java/lang/String", name := "getBytes", desc := "([BIB)V" } : Jvm.MethodName)).before a0 Z = true := hw _ (List.mem_of_getElem? (i := 97) rfl)
theorem pd_285b4249422956 : parseMethodDescriptor "([BIB)V" = some ⟨[(.array .byte), .int, .byte], none⟩ := by decide +kernel
theorem W98 {Z : State} {a0 : Array Value} (hw : ∀ d ∈ tables_1, d.before a0 Z = true) : (Jvm.Cond.declares ({ cls := "java/lang/String", name := "getBytes", desc := "([BIB)V" } : Jvm.MethodName)).before a0 Z = true := hw _ (List.mem_of_getElem? (i := 98) rfl)
theorem W100 {Z : State} {a0 : Array Value} (hw : ∀ d ∈ tables_1, d.before a0 Z = true) : (Jvm.Cond.selects "java/lang/String" ({ cls := "java/lang/String", name := "getBytes", desc := "([BIB)V" } : Jvm.MethodName) ({ cls := "java/lang/String", name := "getBytes", desc := "([BIB)V" } : Jvm.MethodName)).before a0 Z = true := hw _ (List.mem_of_getElem? (i := 100) rfl)
theorem W99 {Z : State} {a0 : Array Value} (hw : ∀ d ∈ tables_1, d.before a0 Z = true) : (Jvm.Cond.instanceMethod ({ cls := "java/lang/String", name := "getBytes", desc := "([BIB)V" } : Jvm.MethodName)).before a0 Z = true := hw _ (List.mem_of_getElem? (i := 99) rfl)
theorem W101 {Z : State} {a0 : Array Value} (hw : ∀ d ∈ tables_1, d.before a0 Z = true) : (Jvm.Cond.code ({ cls := "java/lang/String", name := "getBytes", desc := "([BIB)V" } : Jvm.MethodName) jdk_42_method_147_code (4 : Nat) (Option.none : Option Jvm.ClassFile.FieldType)).before a0 Z = true := hw _ (List.mem_of_getElem? (i := 101) rfl)
theorem d4_18 : decode jdk_68_method_73_code 18 = .ok (.return_, 1) := by decide +kernel
theorem d5_0 : decode jdk_68_method_9_code 0 = .ok (.aload_n 0, 1) := by decide +kernel
theorem d5_1 : decode jdk_68_method_9_code 1 = .ok (.getfield 15, 3) := by decide +kernel
theorem d5_4 : decode jdk_68_method_9_code 4 = .ok (.arraylength, 1) := by decide +kernel
theorem d5_5 : decode jdk_68_method_9_code 5 = .ok (.aload_n 0, 1) := by decide +kernel
theorem d5_6 : decode jdk_68_method_9_code 6 = .ok (.getfield 22, 3) := by decide +kernel
theorem d5_9 : decode jdk_68_method_9_code 9 = .ok (.ishr, 1) := by decide +kernel
theorem d5_10 : decode jdk_68_method_9_code 10 = .ok (.istore_n 2, 1) := by decide +kernel
theorem d5_11 : decode jdk_68_method_9_code 11 = .ok (.iload_n 1, 1) := by decide +kernel
theorem d5_12 : decode jdk_68_method_9_code 12 = .ok (.iload_n 2, 1) := by decide +kernel
theorem d5_13 : decode jdk_68_method_9_code 13 = .ok (.isub, 1) := by decide +kernel
theorem d5_14 : decode jdk_68_method_9_code 14 = .ok (.ifCond .le 24, 3) := by decide +kernel
theorem d5_38 : decode jdk_68_method_9_code 38 = .ok (.return_, 1) := by decide +kernel
theorem d6_0 : decode jdk_29_method_69_code 0 = .ok (.iload_n 0, 1) := by decide +kernel
theorem d6_1 : decode jdk_29_method_69_code 1 = .ok (.iload_n 1, 1) := by decide +kernel
theorem d6_2 : decode jdk_29_method_69_code 2 = .ok (.if_icmp .gt 7, 3) := by decide +kernel
theorem d6_9 : decode jdk_29_method_69_code 9 = .ok (.iload_n 1, 1) := by decide +kernel
theorem d6_10 : decode jdk_29_method_69_code 10 = .ok (.ireturn, 1) := by decide +kernel
theorem d6_5 : decode jdk_29_method_69_code 5 = .ok (.iload_n 0, 1) := by decide +kernel
theorem d6_6 : decode jdk_29_method_69_code 6 = .ok (.goto 4, 3) := by decide +kernel
theorem d7_0 : decode jdk_29_method_65_code 0 = .ok (.iload_n 0, 1) := by decide +kernel
theorem d7_1 : decode jdk_29_method_65_code 1 = .ok (.iload_n 1, 1) := by decide +kernel
theorem d7_2 : decode jdk_29_method_65_code 2 = .ok (.if_icmp .lt 7, 3) := by decide +kernel
theorem d7_9 : decode jdk_29_method_65_code 9 = .ok (.iload_n 1, 1) := by decide +kernel
theorem d7_10 : decode jdk_29_method_65_code 10 = .ok (.ireturn, 1) := by decide +kernel
theorem d7_5 : decode jdk_29_method_65_code 5 = .ok (.iload_n 0, 1) := by decide +kernel
theorem d7_6 : decode jdk_29_method_65_code 6 = .ok (.goto 4, 3) := by decide +kernel
theorem d8_0 : decode jdk_48_method_27_code 0 = .ok (.iload_n 0, 1) := by decide +kernel
theorem d8_1 : decode jdk_48_method_27_code 1 = .ok (.iload_n 1, 1) := by decide +kernel
theorem d8_2 : decode jdk_48_method_27_code 2 = .ok (.iload_n 2, 1) := by decide +kernel
theorem d8_3 : decode jdk_48_method_27_code 3 = .ok (.invokestatic 194, 3) := by decide +kernel
theorem W176 {Z : State} {a0 : Array Value} (hw : ∀ d ∈ tables_1, d.before a0 Z = true) : (Jvm.Cond.methodLink "jdk/internal/util/ArraysSupport" (194 : Nat) ({ cls := "java/lang/Math", name := "max", desc := "(II)I" } : Jvm.MethodName)).before a0 Z = true := hw _ (List.mem_of_getElem? (i := 176) rfl)
theorem pd_2849492949 : parseMethodDescriptor "(II)I" = some ⟨[.int, .int], (some .int)⟩ := by decide +kernel
theorem W177 {Z : State} {a0 : Array Value} (hw : ∀ d ∈ tables_1, d.before a0 Z = true) : (Jvm.Cond.static ({ cls := "java/lang/Math", name := "max", desc := "(II)I" } : Jvm.MethodName)).before a0 Z = true := hw _ (List.mem_of_getElem? (i := 177) rfl)
theorem W178 {Z : State} {a0 : Array Value} (hw : ∀ d ∈ tables_1, d.before a0 Z = true) : (Jvm.Cond.code ({ cls := "java/lang/Math", name := "max", desc := "(II)I" } : Jvm.MethodName) jdk_29_method_65_code (2 : Nat) (Option.some Jvm.ClassFile.FieldType.int)).before a0 Z = true := hw _ (List.mem_of_getElem? (i := 178) rfl)
theorem W148 {Z : State} {a0 : Array Value} (hw : ∀ d ∈ tables_1, d.before a0 Z = true) : (Jvm.Cond.initialized "java/lang/Math").before a0 Z = true := hw _ (List.mem_of_getElem? (i := 148) rfl)
theorem d8_6 : decode jdk_48_method_27_code 6 = .ok (.iadd, 1) := by decide +kernel
theorem d8_7 : decode jdk_48_method_27_code 7 = .ok (.istore_n 3, 1) := by decide +kernel
theorem d8_8 : decode jdk_48_method_27_code 8 = .ok (.iconst 0, 1) := by decide +kernel
theorem d8_9 : decode jdk_48_method_27_code 9 = .ok (.iload_n 3, 1) := by decide +kernel
theorem d8_10 : decode jdk_48_method_27_code 10 = .ok (.if_icmp .ge 11, 3) := by decide +kernel
theorem d8_13 : decode jdk_48_method_27_code 13 = .ok (.iload_n 3, 1) := by decide +kernel
theorem d8_14 : decode jdk_48_method_27_code 14 = .ok (.ldc 200, 2) := by decide +kernel
theorem W179 {Z : State} {a0 : Array Value} (hw : ∀ d ∈ tables_1, d.before a0 Z = true) : (Jvm.Cond.constant "jdk/internal/util/ArraysSupport" (200 : Nat) (2147483639 : Int32)).before a0 Z = true := hw _ (List.mem_of_getElem? (i := 179) rfl)
theorem d8_16 : decode jdk_48_method_27_code 16 = .ok (.if_icmp .gt 5, 3) := by decide +kernel
theorem d8_19 : decode jdk_48_method_27_code 19 = .ok (.iload_n 3, 1) := by decide +kernel
theorem d8_20 : decode jdk_48_method_27_code 20 = .ok (.ireturn, 1) := by decide +kernel
theorem pn_7570706f7274_10 : plainName "jdk/internal/util/ArraysSupport" = true := by first | (simp [plainName, overriddenIn]; done) | decide +kernel
theorem d9_0 : decode jdk_68_method_10_code 0 = .ok (.aload_n 0, 1) := by decide +kernel
theorem d9_1 : decode jdk_68_method_10_code 1 = .ok (.getfield 15, 3) := by decide +kernel
theorem d9_4 : decode jdk_68_method_10_code 4 = .ok (.arraylength, 1) := by decide +kernel
theorem d9_5 : decode jdk_68_method_10_code 5 = .ok (.istore_n 2, 1) := by decide +kernel
theorem d9_6 : decode jdk_68_method_10_code 6 = .ok (.iload_n 1, 1) := by decide +kernel
theorem d9_7 : decode jdk_68_method_10_code 7 = .ok (.aload_n 0, 1) := by decide +kernel
theorem d9_8 : decode jdk_68_method_10_code 8 = .ok (.getfield 22, 3) := by decide +kernel
theorem d9_11 : decode jdk_68_method_10_code 11 = .ok (.ishl, 1) := by decide +kernel
theorem d9_12 : decode jdk_68_method_10_code 12 = .ok (.istore_n 3, 1) := by decide +kernel
theorem d9_13 : decode jdk_68_method_10_code 13 = .ok (.iload_n 3, 1) := by decide +kernel
theorem d9_14 : decode jdk_68_method_10_code 14 = .ok (.iload_n 2, 1) := by decide +kernel
theorem d9_15 : decode jdk_68_method_10_code 15 = .ok (.isub, 1) := by decide +kernel
theorem d9_16 : decode jdk_68_method_10_code 16 = .ok (.istore 4, 2) := by decide +kernel
theorem d9_18 : decode jdk_68_method_10_code 18 = .ok (.iload_n 2, 1) := by decide +kernel
theorem d9_19 : decode jdk_68_method_10_code 19 = .ok (.iload 4, 2) := by decide +kernel
theorem d9_21 : decode jdk_68_method_10_code 21 = .ok (.iload_n 2, 1) := by decide +kernel
theorem d9_22 : decode jdk_68_method_10_code 22 = .ok (.iconst 2, 1) := by decide +kernel
theorem d9_23 : decode jdk_68_method_10_code 23 = .ok (.aload_n 0, 1) := by decide +kernel
theorem d9_24 : decode jdk_68_method_10_code 24 = .ok (.getfield 22, 3) := by decide +kernel
theorem d9_27 : decode jdk_68_method_10_code 27 = .ok (.ishl, 1) := by decide +kernel
theorem d9_28 : decode jdk_68_method_10_code 28 = .ok (.iadd, 1) := by decide +kernel
theorem d9_29 : decode jdk_68_method_10_code 29 = .ok (.invokestatic 114, 3) := by decide +kernel
theorem W172 {Z : State} {a0 : Array Value} (hw : ∀ d ∈ tables_1, d.before a0 Z = true) : (Jvm.Cond.methodLink "java/lang/AbstractStringBuilder" (114 : Nat) ({ cls := "jdk/internal/util/ArraysSupport", name := "newLength", desc := "(III)I" } : Jvm.MethodName)).before a0 Z = true := hw _ (List.mem_of_getElem? (i := 172) rfl)
theorem pd_284949492949 : parseMethodDescriptor "(III)I" = some ⟨[.int, .int, .int], (some .int)⟩ := by decide +kernel
theorem W173 {Z : State} {a0 : Array Value} (hw : ∀ d ∈ tables_1, d.before a0 Z = true) : (Jvm.Cond.static ({ cls := "jdk/internal/util/ArraysSupport", name := "newLength", desc := "(III)I" } : Jvm.MethodName)).before a0 Z = true := hw _ (List.mem_of_getElem? (i := 173) rfl)
theorem W175 {Z : State} {a0 : Array Value} (hw : ∀ d ∈ tables_1, d.before a0 Z = true) : (Jvm.Cond.code ({ cls := "jdk/internal/util/ArraysSupport", name := "newLength", desc := "(III)I" } : Jvm.MethodName) jdk_48_method_27_code (4 : Nat) (Option.some Jvm.ClassFile.FieldType.int)).before a0 Z = true := hw _ (List.mem_of_getElem? (i := 175) rfl)
theorem W174 {Z : State} {a0 : Array Value} (hw : ∀ d ∈ tables_1, d.before a0 Z = true) : (Jvm.Cond.initialized "jdk/internal/util/ArraysSupport").before a0 Z = true := hw _ (List.mem_of_getElem? (i := 174) rfl)
theorem d9_32 : decode jdk_68_method_10_code 32 = .ok (.istore 5, 2) := by decide +kernel
theorem d9_34 : decode jdk_68_method_10_code 34 = .ok (.iload 5, 2) := by decide +kernel
theorem d9_36 : decode jdk_68_method_10_code 36 = .ok (.ldc 39, 2) := by decide +kernel
theorem W180 {Z : State} {a0 : Array Value} (hw : ∀ d ∈ tables_1, d.before a0 Z = true) : (Jvm.Cond.constant "java/lang/AbstractStringBuilder" (39 : Nat) (2147483647 : Int32)).before a0 Z = true := hw _ (List.mem_of_getElem? (i := 180) rfl)
theorem d9_38 : decode jdk_68_method_10_code 38 = .ok (.if_icmp .ne 13, 3) := by decide +kernel
theorem d9_51 : decode jdk_68_method_10_code 51 = .ok (.iload 5, 2) := by decide +kernel
theorem d9_53 : decode jdk_68_method_10_code 53 = .ok (.aload_n 0, 1) := by decide +kernel
theorem d9_54 : decode jdk_68_method_10_code 54 = .ok (.getfield 22, 3) := by decide +kernel
theorem d9_57 : decode jdk_68_method_10_code 57 = .ok (.ishr, 1) := by decide +kernel
theorem d9_58 : decode jdk_68_method_10_code 58 = .ok (.ireturn, 1) := by decide +kernel
theorem d10_0 : decode jdk_65_method_121_code 0 = .ok (.iload_n 1, 1) := by decide +kernel
theorem d10_1 : decode jdk_65_method_121_code 1 = .ok (.aload_n 0, 1) := by decide +kernel
theorem d10_2 : decode jdk_65_method_121_code 2 = .ok (.arraylength, 1) := by decide +kernel
theorem d10_3 : decode jdk_65_method_121_code 3 = .ok (.if_icmp .ne 11, 3) := by decide +kernel
theorem d10_14 : decode jdk_65_method_121_code 14 = .ok (.iload_n 1, 1) := by decide +kernel
theorem d10_15 : decode jdk_65_method_121_code 15 = .ok (.newarray .byte, 2) := by decide +kernel
theorem W22 {Z : State} {a0 : Array Value} (hw : ∀ d ∈ tables_1, d.before a0 Z = true) : (Jvm.Cond.arrayClass Jvm.ClassFile.FieldType.byte).before a0 Z = true := hw _ (List.mem_of_getElem? (i := 22) rfl)
theorem d10_17 : decode jdk_65_method_121_code 17 = .ok (.astore_n 2, 1) := by decide +kernel
theorem d10_18 : decode jdk_65_method_121_code 18 = .ok (.aload_n 0, 1) := by decide +kernel
theorem d10_19 : decode jdk_65_method_121_code 19 = .ok (.iconst 0, 1) := by decide +kernel
theorem d10_20 : decode jdk_65_method_121_code 20 = .ok (.aload_n 2, 1) := by decide +kernel
theorem d10_21 : decode jdk_65_method_121_code 21 = .ok (.iconst 0, 1) := by decide +kernel
theorem d10_22 : decode jdk_65_method_121_code 22 = .ok (.aload_n 0, 1) := by decide +kernel
theorem d10_23 : decode jdk_65_method_121_code 23 = .ok (.arraylength, 1) := by decide +kernel
theorem d10_24 : decode jdk_65_method_121_code 24 = .ok (.iload_n 1, 1) := by decide +kernel
theorem d10_25 : decode jdk_65_method_121_code 25 = .ok (.invokestatic 304, 3) := by decide +kernel
theorem W146 {Z : State} {a0 : Array Value} (hw : ∀ d ∈ tables_1, d.before a0 Z = true) : (Jvm.Cond.methodLink "java/util/Arrays" (304 : Nat) ({ cls := "java/lang/Math", name := "min", desc := "(II)I" } : Jvm.MethodName)).before a0 Z = true := hw _ (List.mem_of_getElem? (i := 146) rfl)
theorem W147 {Z : State} {a0 : Array Value} (hw : ∀ d ∈ tables_1, d.before a0 Z = true) : (Jvm.Cond.static ({ cls := "java/lang/Math", name := "min", desc := "(II)I" } : Jvm.MethodName)).before a0 Z = true := hw _ (List.mem_of_getElem? (i := 147) rfl)
theorem W149 {Z : State} {a0 : Array Value} (hw : ∀ d ∈ tables_1, d.before a0 Z = true) : (Jvm.Cond.code ({ cls := "java/lang/Math", name := "min", desc := "(II)I" } : Jvm.MethodName) jdk_29_method_69_code (2 : Nat) (Option.some Jvm.ClassFile.FieldType.int)).before a0 Z = true := hw _ (List.mem_of_getElem? (i := 149) rfl)
theorem d10_28 : decode jdk_65_method_121_code 28 = .ok (.invokestatic 150, 3) := by decide +kernel
theorem W150 {Z : State} {a0 : Array Value} (hw : ∀ d ∈ tables_1, d.before a0 Z = true) : (Jvm.Cond.methodLink "java/util/Arrays" (150 : Nat) ({ cls := "java/lang/System", name := "arraycopy", desc := "(Ljava/lang/Object;ILjava/lang/Object;II)V" } : Jvm.MethodName)).before a0 Z = true := hw _ (List.mem_of_getElem? (i := 150) rfl)
theorem d10_31 : decode jdk_65_method_121_code 31 = .ok (.aload_n 2, 1) := by decide +kernel
theorem d10_32 : decode jdk_65_method_121_code 32 = .ok (.areturn, 1) := by decide +kernel
theorem pn_417272617973_9 : plainName "java/util/Arrays" = true := by first | (simp [plainName, overriddenIn]; done) | decide +kernel
theorem d5_17 : decode jdk_68_method_9_code 17 = .ok (.aload_n 0, 1) := by decide +kernel
theorem d5_18 : decode jdk_68_method_9_code 18 = .ok (.aload_n 0, 1) := by decide +kernel
theorem d5_19 : decode jdk_68_method_9_code 19 = .ok (.getfield 15, 3) := by decide +kernel
theorem d5_22 : decode jdk_68_method_9_code 22 = .ok (.aload_n 0, 1) := by decide +kernel
theorem d5_23 : decode jdk_68_method_9_code 23 = .ok (.iload_n 1, 1) := by decide +kernel
theorem d5_24 : decode jdk_68_method_9_code 24 = .ok (.invokevirtual 104, 3) := by decide +kernel
theorem W167 {Z : State} {a0 : Array Value} (hw : ∀ d ∈ tables_1, d.before a0 Z = true) : (Jvm.Cond.methodLink "java/lang/AbstractStringBuilder" (104 : Nat) ({ cls := "java/lang/AbstractStringBuilder", name := "newCapacity", desc := "(I)I" } : Jvm.MethodName)).before a0 Z = true := hw _ (List.mem_of_getElem? (i := 167) rfl)
theorem pd_28492949 : parseMethodDescriptor "(I)I" = some ⟨[.int], (some .int)⟩ := by decide +kernel
theorem W168 {Z : State} {a0 : Array Value} (hw : ∀ d ∈ tables_1, d.before a0 Z = true) : (Jvm.Cond.instanceMethod ({ cls := "java/lang/AbstractStringBuilder", name := "newCapacity", desc := "(I)I" } : Jvm.MethodName)).before a0 Z = true := hw _ (List.mem_of_getElem? (i := 168) rfl)
theorem W169 {Z : State} {a0 : Array Value} (hw : ∀ d ∈ tables_1, d.before a0 Z = true) : (Jvm.Cond.privateMethod ({ cls := "java/lang/AbstractStringBuilder", name := "newCapacity", desc := "(I)I" } : Jvm.MethodName)).before a0 Z = true := hw _ (List.mem_of_getElem? (i := 169) rfl)
theorem W171 {Z : State} {a0 : Array Value} (hw : ∀ d ∈ tables_1, d.before a0 Z = true) : (Jvm.Cond.code ({ cls := "java/lang/AbstractStringBuilder", name := "newCapacity", desc := "(I)I" } : Jvm.MethodName) jdk_68_method_10_code (6 : Nat) (Option.some Jvm.ClassFile.FieldType.int)).before a0 Z = true := hw _ (List.mem_of_getElem? (i := 171) rfl)
theorem d5_27 : decode jdk_68_method_9_code 27 = .ok (.aload_n 0, 1) := by decide +kernel
theorem d5_28 : decode jdk_68_method_9_code 28 = .ok (.getfield 22, 3) := by decide +kernel
theorem d5_31 : decode jdk_68_method_9_code 31 = .ok (.ishl, 1) := by decide +kernel
theorem d5_32 : decode jdk_68_method_9_code 32 = .ok (.invokestatic 108, 3) := by decide +kernel
theorem W181 {Z : State} {a0 : Array Value} (hw : ∀ d ∈ tables_1, d.before a0 Z = true) : (Jvm.Cond.methodLink "java/lang/AbstractStringBuilder" (108 : Nat) ({ cls := "java/util/Arrays", name := "copyOf", desc := "([BI)[B" } : Jvm.MethodName)).before a0 Z = true := hw _ (List.mem_of_getElem? (i := 181) rfl)
theorem pd_285b4249295b42 : parseMethodDescriptor "([BI)[B" = some ⟨[(.array .byte), .int], (some (.array .byte))⟩ := by decide +kernel
theorem W182 {Z : State} {a0 : Array Value} (hw : ∀ d ∈ tables_1, d.before a0 Z = true) : (Jvm.Cond.static ({ cls := "java/util/Arrays", name := "copyOf", desc := "([BI)[B" } : Jvm.MethodName)).before a0 Z = true := hw _ (List.mem_of_getElem? (i := 182) rfl)
theorem W183 {Z : State} {a0 : Array Value} (hw : ∀ d ∈ tables_1, d.before a0 Z = true) : (Jvm.Cond.code ({ cls := "java/util/Arrays", name := "copyOf", desc := "([BI)[B" } : Jvm.MethodName) jdk_65_method_121_code (3 : Nat) (Option.some (Jvm.ClassFile.FieldType.array Jvm.ClassFile.FieldType.byte))).before a0 Z = true := hw _ (List.mem_of_getElem? (i := 183) rfl)
theorem W138 {Z : State} {a0 : Array Value} (hw : ∀ d ∈ tables_1, d.before a0 Z = true) : (Jvm.Cond.initialized "java/util/Arrays").before a0 Z = true := hw _ (List.mem_of_getElem? (i := 138) rfl)
theorem d5_35 : decode jdk_68_method_9_code 35 = .ok (.putfield 15, 3) := by decide +kernel
theorem W56 {Z : State} {a0 : Array Value} (hw : ∀ d ∈ tables_1, d.before a0 Z = true) : (Jvm.Cond.lays "java/lang/StringBuilder" "java/lang/AbstractStringBuilder" "value" "[B").before a0 Z = true := hw _ (List.mem_of_getElem? (i := 56) rfl)
theorem W42 {Z : State} {a0 : Array Value} (hw : ∀ d ∈ tables_1, d.before a0 Z = true) : (Jvm.Cond.instantiable "java/lang/StringBuilder" (4 : Nat)).before a0 Z = true := hw _ (List.mem_of_getElem? (i := 42) rfl)
theorem W58 {Z : State} {a0 : Array Value} (hw : ∀ d ∈ tables_1, d.before a0 Z = true) : (Jvm.Cond.lays "java/lang/StringBuilder" "java/lang/AbstractStringBuilder" "coder" "B").before a0 Z = true := hw _ (List.mem_of_getElem? (i := 58) rfl)
theorem W80 {Z : State} {a0 : Array Value} (hw : ∀ d ∈ tables_1, d.before a0 Z = true) : (Jvm.Cond.lays "java/lang/StringBuilder" "java/lang/AbstractStringBuilder" "count" "I").before a0 Z = true := hw _ (List.mem_of_getElem? (i := 80) rfl)
theorem d11_0 : decode jdk_68_method_22_code 0 = .ok (.aload_n 1, 1) := by decide +kernel
theorem d11_1 : decode jdk_68_method_22_code 1 = .ok (.ifnonnull 8, 3) := by decide +kernel
theorem d11_9 : decode jdk_68_method_22_code 9 = .ok (.aload_n 1, 1) := by decide +kernel
theorem d11_10 : decode jdk_68_method_22_code 10 = .ok (.invokevirtual 32, 3) := by decide +kernel
theorem W69 {Z : State} {a0 : Array Value} (hw : ∀ d ∈ tables_1, d.before a0 Z = true) : (Jvm.Cond.methodLink "java/lang/AbstractStringBuilder" (32 : Nat) ({ cls := "java/lang/String", name := "length", desc := "()I" } : Jvm.MethodName)).before a0 Z = true := hw _ (List.mem_of_getElem? (i := 69) rfl)
theorem pd_282949 : parseMethodDescriptor "()I" = some ⟨[], (some .int)⟩ := by decide +kernel
theorem W70 {Z : State} {a0 : Array Value} (hw : ∀ d ∈ tables_1, d.before a0 Z = true) : (Jvm.Cond.declares ({ cls := "java/lang/String", name := "length", desc := "()I" } : Jvm.MethodName)).before a0 Z = true := hw _ (List.mem_of_getElem? (i := 70) rfl)
theorem W72 {Z : State} {a0 : Array Value} (hw : ∀ d ∈ tables_1, d.before a0 Z = true) : (Jvm.Cond.selects "java/lang/String" ({ cls := "java/lang/String", name := "length", desc := "()I" } : Jvm.MethodName) ({ cls := "java/lang/String", name := "length", desc := "()I" } : Jvm.MethodName)).before a0 Z = true := hw _ (List.mem_of_getElem? (i := 72) rfl)
theorem W71 {Z : State} {a0 : Array Value} (hw : ∀ d ∈ tables_1, d.before a0 Z = true) : (Jvm.Cond.instanceMethod ({ cls := "java/lang/String", name := "length", desc := "()I" } : Jvm.MethodName)).before a0 Z = true := hw _ (List.mem_of_getElem? (i := 71) rfl)
theorem W73 {Z : State} {a0 : Array Value} (hw : ∀ d ∈ tables_1, d.before a0 Z = true) : (Jvm.Cond.code ({ cls := "java/lang/String", name := "length", desc := "()I" } : Jvm.MethodName) jdk_42_method_54_code (1 : Nat) (Option.some Jvm.ClassFile.FieldType.int)).before a0 Z = true := hw _ (List.mem_of_getElem? (i := 73) rfl)
theorem d11_13 : decode jdk_68_method_22_code 13 = .ok (.istore_n 2, 1) := by decide +kernel
theorem d11_14 : decode jdk_68_method_22_code 14 = .ok (.aload_n 0, 1) := by decide +kernel
theorem d11_15 : decode jdk_68_method_22_code 15 = .ok (.aload_n 0, 1) := by decide +kernel
theorem d11_16 : decode jdk_68_method_22_code 16 = .ok (.getfield 79, 3) := by decide +kernel
theorem W79 {Z : State} {a0 : Array Value} (hw : ∀ d ∈ tables_1, d.before a0 Z = true) : (Jvm.Cond.fieldLink "java/lang/AbstractStringBuilder" (79 : Nat) "java/lang/AbstractStringBuilder" "count" "I").before a0 Z = true := hw _ (List.mem_of_getElem? (i := 79) rfl)
theorem d11_19 : decode jdk_68_method_22_code 19 = .ok (.iload_n 2, 1) := by decide +kernel
theorem d11_20 : decode jdk_68_method_22_code 20 = .ok (.iadd, 1) := by decide +kernel
theorem d11_21 : decode jdk_68_method_22_code 21 = .ok (.invokevirtual 100, 3) := by decide +kernel
theorem W81 {Z : State} {a0 : Array Value} (hw : ∀ d ∈ tables_1, d.before a0 Z = true) : (Jvm.Cond.methodLink "java/lang/AbstractStringBuilder" (100 : Nat) ({ cls := "java/lang/AbstractStringBuilder", name := "ensureCapacityInternal", desc := "(I)V" } : Jvm.MethodName)).before a0 Z = true := hw _ (List.mem_of_getElem? (i := 81) rfl)
theorem pd_28492956 : parseMethodDescriptor "(I)V" = some ⟨[.int], none⟩ := by decide +kernel
theorem W83 {Z : State} {a0 : Array Value} (hw : ∀ d ∈ tables_1, d.before a0 Z = true) : (Jvm.Cond.privateMethod ({ cls := "java/lang/AbstractStringBuilder", name := "ensureCapacityInternal", desc := "(I)V" } : Jvm.MethodName)).before a0 Z = true := hw _ (List.mem_of_getElem? (i := 83) rfl)
theorem W85 {Z : State} {a0 : Array Value} (hw : ∀ d ∈ tables_1, d.before a0 Z = true) : (Jvm.Cond.code ({ cls := "java/lang/AbstractStringBuilder", name := "ensureCapacityInternal", desc := "(I)V" } : Jvm.MethodName) jdk_68_method_9_code (3 : Nat) (Option.none : Option Jvm.ClassFile.FieldType)).before a0 Z = true := hw _ (List.mem_of_getElem? (i := 85) rfl)
theorem d11_24 : decode jdk_68_method_22_code 24 = .ok (.aload_n 0, 1) := by decide +kernel
theorem d11_25 : decode jdk_68_method_22_code 25 = .ok (.aload_n 0, 1) := by decide +kernel
theorem d11_26 : decode jdk_68_method_22_code 26 = .ok (.getfield 79, 3) := by decide +kernel
theorem d11_29 : decode jdk_68_method_22_code 29 = .ok (.aload_n 1, 1) := by decide +kernel
theorem d11_30 : decode jdk_68_method_22_code 30 = .ok (.invokevirtual 208, 3) := by decide +kernel
theorem W86 {Z : State} {a0 : Array Value} (hw : ∀ d ∈ tables_1, d.before a0 Z = true) : (Jvm.Cond.methodLink "java/lang/AbstractStringBuilder" (208 : Nat) ({ cls := "java/lang/AbstractStringBuilder", name := "putStringAt", desc := "(ILjava/lang/String;)V" } : Jvm.MethodName)).before a0 Z = true := hw _ (List.mem_of_getElem? (i := 86) rfl)
theorem pd_12 : parseMethodDescriptor "(ILjava/lang/String;)V" = some ⟨[.int, (.object "java/lang/String")], none⟩ := by decide +kernel
theorem W87 {Z : State} {a0 : Array Value} (hw : ∀ d ∈ tables_1, d.before a0 Z = true) : (Jvm.Cond.instanceMethod ({ cls := "java/lang/AbstractStringBuilder", name := "putStringAt", desc := "(ILjava/lang/String;)V" } : Jvm.MethodName)).before a0 Z = true := hw _ (List.mem_of_getElem? (i := 87) rfl)
theorem W88 {Z : State} {a0 : Array Value} (hw : ∀ d ∈ tables_1, d.before a0 Z = true) : (Jvm.Cond.privateMethod ({ cls := "java/lang/AbstractStringBuilder", name := "putStringAt", desc := "(ILjava/lang/String;)V" } : Jvm.MethodName)).before a0 Z = true := hw _ (List.mem_of_getElem? (i := 88) rfl)
theorem W90 {Z : State} {a0 : Array Value} (hw : ∀ d ∈ tables_1, d.before a0 Z = true) : (Jvm.Cond.code ({ cls := "java/lang/AbstractStringBuilder", name := "putStringAt", desc := "(ILjava/lang/String;)V" } : Jvm.MethodName) jdk_68_method_73_code (3 : Nat) (Option.none : Option Jvm.ClassFile.FieldType)).before a0 Z = true := hw _ (List.mem_of_getElem? (i := 90) rfl)
theorem d11_33 : decode jdk_68_method_22_code 33 = .ok (.aload_n 0, 1) := by decide +kernel
theorem d11_34 : decode jdk_68_method_22_code 34 = .ok (.dup, 1) := by decide +kernel
theorem d11_35 : decode jdk_68_method_22_code 35 = .ok (.getfield 79, 3) := by decide +kernel
theorem d11_38 : decode jdk_68_method_22_code 38 = .ok (.iload_n 2, 1) := by decide +kernel
theorem d11_39 : decode jdk_68_method_22_code 39 = .ok (.iadd, 1) := by decide +kernel
theorem d11_40 : decode jdk_68_method_22_code 40 = .ok (.putfield 79, 3) := by decide +kernel
theorem d11_43 : decode jdk_68_method_22_code 43 = .ok (.aload_n 0, 1) := by decide +kernel
theorem d11_44 : decode jdk_68_method_22_code 44 = .ok (.areturn, 1) := by decide +kernel
theorem d12_0 : decode jdk_67_method_7_code 0 = .ok (.aload_n 0, 1) := by decide +kernel
theorem d12_1 : decode jdk_67_method_7_code 1 = .ok (.aload_n 1, 1) := by decide +kernel
theorem d12_2 : decode jdk_67_method_7_code 2 = .ok (.invokespecial 29, 3) := by decide +kernel
theorem W64 {Z : State} {a0 : Array Value} (hw : ∀ d ∈ tables_1, d.before a0 Z = true) : (Jvm.Cond.methodLink "java/lang/StringBuilder" (29 : Nat) ({ cls := "java/lang/AbstractStringBuilder", name := "append", desc := "(Ljava/lang/String;)Ljava/lang/AbstractStringBuilder;" } : Jvm.MethodName)).before a0 Z = true := hw _ (List.mem_of_getElem? (i := 64) rfl)
theorem pd_16 : parseMethodDescriptor "(Ljava/lang/String;)Ljava/lang/AbstractStringBuilder;" = some ⟨[(.object "java/lang/String")], (some (.object "java/lang/AbstractStringBuilder"))⟩ := by decide +kernel
theorem W67 {Z : State} {a0 : Array Value} (hw : ∀ d ∈ tables_1, d.before a0 Z = true) : (Jvm.Cond.declares ({ cls := "java/lang/AbstractStringBuilder", name := "append", desc := "(Ljava/lang/String;)Ljava/lang/AbstractStringBuilder;" } : Jvm.MethodName)).before a0 Z = true := hw _ (List.mem_of_getElem? (i := 67) rfl)
theorem W65 {Z : State} {a0 : Array Value} (hw : ∀ d ∈ tables_1, d.before a0 Z = true) : (Jvm.Cond.instanceMethod ({ cls := "java/lang/AbstractStringBuilder", name := "append", desc := "(Ljava/lang/String;)Ljava/lang/AbstractStringBuilder;" } : Jvm.MethodName)).before a0 Z = true := hw _ (List.mem_of_getElem? (i := 65) rfl)
theorem W66 {Z : State} {a0 : Array Value} (hw : ∀ d ∈ tables_1, d.before a0 Z = true) : (Jvm.Cond.superclass "java/lang/StringBuilder" "java/lang/AbstractStringBuilder").before a0 Z = true := hw _ (List.mem_of_getElem? (i := 66) rfl)
theorem W68 {Z : State} {a0 : Array Value} (hw : ∀ d ∈ tables_1, d.before a0 Z = true) : (Jvm.Cond.code ({ cls := "java/lang/AbstractStringBuilder", name := "append", desc := "(Ljava/lang/String;)Ljava/lang/AbstractStringBuilder;" } : Jvm.MethodName) jdk_68_method_22_code (3 : Nat) (Option.some (Jvm.ClassFile.FieldType.object "java/lang/AbstractStringBuilder"))).before a0 Z = true := hw _ (List.mem_of_getElem? (i := 68) rfl)
theorem d12_5 : decode jdk_67_method_7_code 5 = .ok (.pop, 1) := by decide +kernel
theorem d12_6 : decode jdk_67_method_7_code 6 = .ok (.aload_n 0, 1) := by decide +kernel
theorem d12_7 : decode jdk_67_method_7_code 7 = .ok (.areturn, 1) := by decide +kernel
theorem pn_75696c646572_6 : plainName "java/lang/StringBuilder" = true := by first | (simp [plainName, overriddenIn]; done) | decide +kernel
theorem d13_0 : decode jdk_68_method_2_code 0 = .ok (.aload_n 0, 1) := by decide +kernel
theorem d13_1 : decode jdk_68_method_2_code 1 = .ok (.invokespecial 3, 3) := by decide +kernel
theorem W53 {Z : State} {a0 : Array Value} (hw : ∀ d ∈ tables_1, d.before a0 Z = true) : (Jvm.Cond.methodLink "java/lang/AbstractStringBuilder" (3 : Nat) ({ cls := "java/lang/Object", name := "<init>", desc := "()V" } : Jvm.MethodName)).before a0 Z = true := hw _ (List.mem_of_getElem? (i := 53) rfl)
theorem W15 {Z : State} {a0 : Array Value} (hw : ∀ d ∈ tables_1, d.before a0 Z = true) : (Jvm.Cond.instanceMethod ({ cls := "java/lang/Object", name := "<init>", desc := "()V" } : Jvm.MethodName)).before a0 Z = true := hw _ (List.mem_of_getElem? (i := 15) rfl)
theorem W16 {Z : State} {a0 : Array Value} (hw : ∀ d ∈ tables_1, d.before a0 Z = true) : (Jvm.Cond.code ({ cls := "java/lang/Object", name := "<init>", desc := "()V" } : Jvm.MethodName) object_method_1_code (1 : Nat) (Option.none : Option Jvm.ClassFile.FieldType)).before a0 Z = true := hw _ (List.mem_of_getElem? (i := 16) rfl)
theorem d13_4 : decode jdk_68_method_2_code 4 = .ok (.getstatic 18, 3) := by decide +kernel
theorem d13_7 : decode jdk_68_method_2_code 7 = .ok (.ifCond .eq 18, 3) := by decide +kernel
theorem d13_10 : decode jdk_68_method_2_code 10 = .ok (.aload_n 0, 1) := by decide +kernel
theorem d13_11 : decode jdk_68_method_2_code 11 = .ok (.iload_n 1, 1) := by decide +kernel
theorem d13_12 : decode jdk_68_method_2_code 12 = .ok (.newarray .byte, 2) := by decide +kernel
theorem d13_14 : decode jdk_68_method_2_code 14 = .ok (.putfield 15, 3) := by decide +kernel
theorem d13_17 : decode jdk_68_method_2_code 17 = .ok (.aload_n 0, 1) := by decide +kernel
theorem d13_18 : decode jdk_68_method_2_code 18 = .ok (.iconst 0, 1) := by decide +kernel
theorem d13_19 : decode jdk_68_method_2_code 19 = .ok (.putfield 22, 3) := by decide +kernel
theorem d13_22 : decode jdk_68_method_2_code 22 = .ok (.goto 16, 3) := by decide +kernel
theorem d13_38 : decode jdk_68_method_2_code 38 = .ok (.return_, 1) := by decide +kernel
theorem d14_0 : decode jdk_67_method_1_code 0 = .ok (.aload_n 0, 1) := by decide +kernel
theorem d14_1 : decode jdk_67_method_1_code 1 = .ok (.bipush 16, 2) := by decide +kernel
theorem d14_3 : decode jdk_67_method_1_code 3 = .ok (.invokespecial 1, 3) := by decide +kernel
theorem W47 {Z : State} {a0 : Array Value} (hw : ∀ d ∈ tables_1, d.before a0 Z = true) : (Jvm.Cond.methodLink "java/lang/StringBuilder" (1 : Nat) ({ cls := "java/lang/AbstractStringBuilder", name := "<init>", desc := "(I)V" } : Jvm.MethodName)).before a0 Z = true := hw _ (List.mem_of_getElem? (i := 47) rfl)
theorem W48 {Z : State} {a0 : Array Value} (hw : ∀ d ∈ tables_1, d.before a0 Z = true) : (Jvm.Cond.instanceMethod ({ cls := "java/lang/AbstractStringBuilder", name := "<init>", desc := "(I)V" } : Jvm.MethodName)).before a0 Z = true := hw _ (List.mem_of_getElem? (i := 48) rfl)
theorem W52 {Z : State} {a0 : Array Value} (hw : ∀ d ∈ tables_1, d.before a0 Z = true) : (Jvm.Cond.code ({ cls := "java/lang/AbstractStringBuilder", name := "<init>", desc := "(I)V" } : Jvm.MethodName) jdk_68_method_2_code (2 : Nat) (Option.none : Option Jvm.ClassFile.FieldType)).before a0 Z = true := hw _ (List.mem_of_getElem? (i := 52) rfl)
theorem d14_6 : decode jdk_67_method_1_code 6 = .ok (.return_, 1) := by decide +kernel
theorem d15_0 : decode jdk_68_method_64_code 0 = .ok (.aload_n 0, 1) := by decide +kernel
theorem d15_1 : decode jdk_68_method_64_code 1 = .ok (.getfield 15, 3) := by decide +kernel
theorem d15_4 : decode jdk_68_method_64_code 4 = .ok (.areturn, 1) := by decide +kernel
theorem d16_0 : decode jdk_68_method_6_code 0 = .ok (.aload_n 0, 1) := by decide +kernel
theorem d16_1 : decode jdk_68_method_6_code 1 = .ok (.getfield 79, 3) := by decide +kernel
theorem d16_4 : decode jdk_68_method_6_code 4 = .ok (.ireturn, 1) := by decide +kernel
theorem d17_0 : decode jdk_67_method_93_code 0 = .ok (.aload_n 0, 1) := by decide +kernel
theorem d17_1 : decode jdk_67_method_93_code 1 = .ok (.invokespecial 343, 3) := by decide +kernel
theorem W129 {Z : State} {a0 : Array Value} (hw : ∀ d ∈ tables_1, d.before a0 Z = true) : (Jvm.Cond.methodLink "java/lang/StringBuilder" (343 : Nat) ({ cls := "java/lang/AbstractStringBuilder", name := "length", desc := "()I" } : Jvm.MethodName)).before a0 Z = true := hw _ (List.mem_of_getElem? (i := 129) rfl)
theorem W124 {Z : State} {a0 : Array Value} (hw : ∀ d ∈ tables_1, d.before a0 Z = true) : (Jvm.Cond.declares ({ cls := "java/lang/AbstractStringBuilder", name := "length", desc := "()I" } : Jvm.MethodName)).before a0 Z = true := hw _ (List.mem_of_getElem? (i := 124) rfl)
theorem W125 {Z : State} {a0 : Array Value} (hw : ∀ d ∈ tables_1, d.before a0 Z = true) : (Jvm.Cond.instanceMethod ({ cls := "java/lang/AbstractStringBuilder", name := "length", desc := "()I" } : Jvm.MethodName)).before a0 Z = true := hw _ (List.mem_of_getElem? (i := 125) rfl)
theorem W130 {Z : State} {a0 : Array Value} (hw : ∀ d ∈ tables_1, d.before a0 Z = true) : (Jvm.Cond.code ({ cls := "java/lang/AbstractStringBuilder", name := "length", desc := "()I" } : Jvm.MethodName) jdk_68_method_6_code (1 : Nat) (Option.some Jvm.ClassFile.FieldType.int)).before a0 Z = true := hw _ (List.mem_of_getElem? (i := 130) rfl)
theorem d17_4 : decode jdk_67_method_93_code 4 = .ok (.ireturn, 1) := by decide +kernel
theorem d18_0 : decode jdk_68_method_68_code 0 = .ok (.getstatic 18, 3) := by decide +kernel
theorem d18_3 : decode jdk_68_method_68_code 3 = .ok (.ifCond .eq 14, 3) := by decide +kernel
theorem d18_6 : decode jdk_68_method_68_code 6 = .ok (.aload_n 0, 1) := by decide +kernel
theorem d18_7 : decode jdk_68_method_68_code 7 = .ok (.getfield 22, 3) := by decide +kernel
theorem d18_10 : decode jdk_68_method_68_code 10 = .ok (.ifCond .ne 7, 3) := by decide +kernel
theorem d18_13 : decode jdk_68_method_68_code 13 = .ok (.iconst 1, 1) := by decide +kernel
theorem d18_14 : decode jdk_68_method_68_code 14 = .ok (.goto 4, 3) := by decide +kernel
theorem d18_18 : decode jdk_68_method_68_code 18 = .ok (.ireturn, 1) := by decide +kernel
theorem d19_0 : decode jdk_65_method_131_code 0 = .ok (.iload_n 1, 1) := by decide +kernel
theorem d19_1 : decode jdk_65_method_131_code 1 = .ok (.iload_n 0, 1) := by decide +kernel
theorem d19_2 : decode jdk_65_method_131_code 2 = .ok (.if_icmp .ge 35, 3) := by decide +kernel
theorem d19_37 : decode jdk_65_method_131_code 37 = .ok (.return_, 1) := by decide +kernel
theorem d20_0 : decode jdk_65_method_133_code 0 = .ok (.iload_n 1, 1) := by decide +kernel
theorem d20_1 : decode jdk_65_method_133_code 1 = .ok (.iload_n 2, 1) := by decide +kernel
theorem d20_2 : decode jdk_65_method_133_code 2 = .ok (.invokestatic 343, 3) := by decide +kernel
theorem W143 {Z : State} {a0 : Array Value} (hw : ∀ d ∈ tables_1, d.before a0 Z = true) : (Jvm.Cond.methodLink "java/util/Arrays" (343 : Nat) ({ cls := "java/util/Arrays", name := "checkLength", desc := "(II)V" } : Jvm.MethodName)).before a0 Z = true := hw _ (List.mem_of_getElem? (i := 143) rfl)
theorem pd_2849492956 : parseMethodDescriptor "(II)V" = some ⟨[.int, .int], none⟩ := by decide +kernel
theorem W144 {Z : State} {a0 : Array Value} (hw : ∀ d ∈ tables_1, d.before a0 Z = true) : (Jvm.Cond.static ({ cls := "java/util/Arrays", name := "checkLength", desc := "(II)V" } : Jvm.MethodName)).before a0 Z = true := hw _ (List.mem_of_getElem? (i := 144) rfl)
theorem W145 {Z : State} {a0 : Array Value} (hw : ∀ d ∈ tables_1, d.before a0 Z = true) : (Jvm.Cond.code ({ cls := "java/util/Arrays", name := "checkLength", desc := "(II)V" } : Jvm.MethodName) jdk_65_method_131_code (2 : Nat) (Option.none : Option Jvm.ClassFile.FieldType)).before a0 Z = true := hw _ (List.mem_of_getElem? (i := 145) rfl)
theorem d20_5 : decode jdk_65_method_133_code 5 = .ok (.iload_n 2, 1) := by decide +kernel
theorem d20_6 : decode jdk_65_method_133_code 6 = .ok (.iload_n 1, 1) := by decide +kernel
theorem d20_7 : decode jdk_65_method_133_code 7 = .ok (.isub, 1) := by decide +kernel
theorem d20_8 : decode jdk_65_method_133_code 8 = .ok (.istore_n 3, 1) := by decide +kernel
theorem d20_9 : decode jdk_65_method_133_code 9 = .ok (.iload_n 3, 1) := by decide +kernel
theorem d20_10 : decode jdk_65_method_133_code 10 = .ok (.newarray .byte, 2) := by decide +kernel
theorem d20_12 : decode jdk_65_method_133_code 12 = .ok (.astore 4, 2) := by decide +kernel
theorem d20_14 : decode jdk_65_method_133_code 14 = .ok (.aload_n 0, 1) := by decide +kernel
theorem d20_15 : decode jdk_65_method_133_code 15 = .ok (.iload_n 1, 1) := by decide +kernel
theorem d20_16 : decode jdk_65_method_133_code 16 = .ok (.aload 4, 2) := by decide +kernel
theorem d20_18 : decode jdk_65_method_133_code 18 = .ok (.iconst 0, 1) := by decide +kernel
theorem d20_19 : decode jdk_65_method_133_code 19 = .ok (.aload_n 0, 1) := by decide +kernel
theorem d20_20 : decode jdk_65_method_133_code 20 = .ok (.arraylength, 1) := by decide +kernel
theorem d20_21 : decode jdk_65_method_133_code 21 = .ok (.iload_n 1, 1) := by decide +kernel
theorem d20_22 : decode jdk_65_method_133_code 22 = .ok (.isub, 1) := by decide +kernel
theorem d20_23 : decode jdk_65_method_133_code 23 = .ok (.iload_n 3, 1) := by decide +kernel
theorem d20_24 : decode jdk_65_method_133_code 24 = .ok (.invokestatic 304, 3) := by decide +kernel
theorem d20_27 : decode jdk_65_method_133_code 27 = .ok (.invokestatic 150, 3) := by decide +kernel
theorem d20_30 : decode jdk_65_method_133_code 30 = .ok (.aload 4, 2) := by decide +kernel
theorem d20_32 : decode jdk_65_method_133_code 32 = .ok (.areturn, 1) := by decide +kernel
theorem d21_0 : decode jdk_65_method_132_code 0 = .ok (.iload_n 1, 1) := by decide +kernel
theorem d21_1 : decode jdk_65_method_132_code 1 = .ok (.ifCond .ne 9, 3) := by decide +kernel
theorem d21_4 : decode jdk_65_method_132_code 4 = .ok (.iload_n 2, 1) := by decide +kernel
theorem d21_5 : decode jdk_65_method_132_code 5 = .ok (.aload_n 0, 1) := by decide +kernel
theorem d21_6 : decode jdk_65_method_132_code 6 = .ok (.arraylength, 1) := by decide +kernel
theorem d21_7 : decode jdk_65_method_132_code 7 = .ok (.if_icmp .eq 10, 3) := by decide +kernel
theorem d21_10 : decode jdk_65_method_132_code 10 = .ok (.aload_n 0, 1) := by decide +kernel
theorem d21_11 : decode jdk_65_method_132_code 11 = .ok (.iload_n 1, 1) := by decide +kernel
theorem d21_12 : decode jdk_65_method_132_code 12 = .ok (.iload_n 2, 1) := by decide +kernel
theorem d21_13 : decode jdk_65_method_132_code 13 = .ok (.invokestatic 339, 3) := by decide +kernel
theorem W140 {Z : State} {a0 : Array Value} (hw : ∀ d ∈ tables_1, d.before a0 Z = true) : (Jvm.Cond.methodLink "java/util/Arrays" (339 : Nat) ({ cls := "java/util/Arrays", name := "copyOfRangeByte", desc := "([BII)[B" } : Jvm.MethodName)).before a0 Z = true := hw _ (List.mem_of_getElem? (i := 140) rfl)
theorem pd_285b424949295b42 : parseMethodDescriptor "([BII)[B" = some ⟨[(.array .byte), .int, .int], (some (.array .byte))⟩ := by decide +kernel
theorem W141 {Z : State} {a0 : Array Value} (hw : ∀ d ∈ tables_1, d.before a0 Z = true) : (Jvm.Cond.static ({ cls := "java/util/Arrays", name := "copyOfRangeByte", desc := "([BII)[B" } : Jvm.MethodName)).before a0 Z = true := hw _ (List.mem_of_getElem? (i := 141) rfl)
theorem W142 {Z : State} {a0 : Array Value} (hw : ∀ d ∈ tables_1, d.before a0 Z = true) : (Jvm.Cond.code ({ cls := "java/util/Arrays", name := "copyOfRangeByte", desc := "([BII)[B" } : Jvm.MethodName) jdk_65_method_133_code (5 : Nat) (Option.some (Jvm.ClassFile.FieldType.array Jvm.ClassFile.FieldType.byte))).before a0 Z = true := hw _ (List.mem_of_getElem? (i := 142) rfl)
theorem d21_16 : decode jdk_65_method_132_code 16 = .ok (.areturn, 1) := by decide +kernel
theorem d22_0 : decode jdk_42_method_150_code 0 = .ok (.aload_n 0, 1) := by decide +kernel
theorem d22_1 : decode jdk_42_method_150_code 1 = .ok (.invokespecial 1, 3) := by decide +kernel
theorem W14 {Z : State} {a0 : Array Value} (hw : ∀ d ∈ tables_1, d.before a0 Z = true) : (Jvm.Cond.methodLink "java/lang/String" (1 : Nat) ({ cls := "java/lang/Object", name := "<init>", desc := "()V" } : Jvm.MethodName)).before a0 Z = true := hw _ (List.mem_of_getElem? (i := 14) rfl)
theorem d22_4 : decode jdk_42_method_150_code 4 = .ok (.aload_n 1, 1) := by decide +kernel
theorem d22_5 : decode jdk_42_method_150_code 5 = .ok (.invokevirtual 552, 3) := by decide +kernel
theorem W118 {Z : State} {a0 : Array Value} (hw : ∀ d ∈ tables_1, d.before a0 Z = true) : (Jvm.Cond.methodLink "java/lang/String" (552 : Nat) ({ cls := "java/lang/AbstractStringBuilder", name := "getValue", desc := "()[B" } : Jvm.MethodName)).before a0 Z = true := hw _ (List.mem_of_getElem? (i := 118) rfl)
theorem pd_28295b42 : parseMethodDescriptor "()[B" = some ⟨[], (some (.array .byte))⟩ := by decide +kernel
theorem W119 {Z : State} {a0 : Array Value} (hw : ∀ d ∈ tables_1, d.before a0 Z = true) : (Jvm.Cond.declares ({ cls := "java/lang/AbstractStringBuilder", name := "getValue", desc := "()[B" } : Jvm.MethodName)).before a0 Z = true := hw _ (List.mem_of_getElem? (i := 119) rfl)
theorem W121 {Z : State} {a0 : Array Value} (hw : ∀ d ∈ tables_1, d.before a0 Z = true) : (Jvm.Cond.selects "java/lang/StringBuilder" ({ cls := "java/lang/AbstractStringBuilder", name := "getValue", desc := "()[B" } : Jvm.MethodName) ({ cls := "java/lang/AbstractStringBuilder", name := "getValue", desc := "()[B" } : Jvm.MethodName)).before a0 Z = true := hw _ (List.mem_of_getElem? (i := 121) rfl)
theorem W120 {Z : State} {a0 : Array Value} (hw : ∀ d ∈ tables_1, d.before a0 Z = true) : (Jvm.Cond.instanceMethod ({ cls := "java/lang/AbstractStringBuilder", name := "getValue", desc := "()[B" } : Jvm.MethodName)).before a0 Z = true := hw _ (List.mem_of_getElem? (i := 120) rfl)
theorem W122 {Z : State} {a0 : Array Value} (hw : ∀ d ∈ tables_1, d.before a0 Z = true) : (Jvm.Cond.code ({ cls := "java/lang/AbstractStringBuilder", name := "getValue", desc := "()[B" } : Jvm.MethodName) jdk_68_method_64_code (1 : Nat) (Option.some (Jvm.ClassFile.FieldType.array Jvm.ClassFile.FieldType.byte))).before a0 Z = true := hw _ (List.mem_of_getElem? (i := 122) rfl)
theorem d22_8 : decode jdk_42_method_150_code 8 = .ok (.astore_n 3, 1) := by decide +kernel
theorem d22_9 : decode jdk_42_method_150_code 9 = .ok (.aload_n 1, 1) := by decide +kernel
theorem d22_10 : decode jdk_42_method_150_code 10 = .ok (.invokevirtual 549, 3) := by decide +kernel
theorem W123 {Z : State} {a0 : Array Value} (hw : ∀ d ∈ tables_1, d.before a0 Z = true) : (Jvm.Cond.methodLink "java/lang/String" (549 : Nat) ({ cls := "java/lang/AbstractStringBuilder", name := "length", desc := "()I" } : Jvm.MethodName)).before a0 Z = true := hw _ (List.mem_of_getElem? (i := 123) rfl)
theorem W126 {Z : State} {a0 : Array Value} (hw : ∀ d ∈ tables_1, d.before a0 Z = true) : (Jvm.Cond.selects "java/lang/StringBuilder" ({ cls := "java/lang/AbstractStringBuilder", name := "length", desc := "()I" } : Jvm.MethodName) ({ cls := "java/lang/StringBuilder", name := "length", desc := "()I" } : Jvm.MethodName)).before a0 Z = true := hw _ (List.mem_of_getElem? (i := 126) rfl)
theorem W127 {Z : State} {a0 : Array Value} (hw : ∀ d ∈ tables_1, d.before a0 Z = true) : (Jvm.Cond.instanceMethod ({ cls := "java/lang/StringBuilder", name := "length", desc := "()I" } : Jvm.MethodName)).before a0 Z = true := hw _ (List.mem_of_getElem? (i := 127) rfl)
theorem W128 {Z : State} {a0 : Array Value} (hw : ∀ d ∈ tables_1, d.before a0 Z = true) : (Jvm.Cond.code ({ cls := "java/lang/StringBuilder", name := "length", desc := "()I" } : Jvm.MethodName) jdk_67_method_93_code (1 : Nat) (Option.some Jvm.ClassFile.FieldType.int)).before a0 Z = true := hw _ (List.mem_of_getElem? (i := 128) rfl)
theorem W43 {Z : State} {a0 : Array Value} (hw : ∀ d ∈ tables_1, d.before a0 Z = true) : (Jvm.Cond.initialized "java/lang/StringBuilder").before a0 Z = true := hw _ (List.mem_of_getElem? (i := 43) rfl)
theorem d22_13 : decode jdk_42_method_150_code 13 = .ok (.istore 4, 2) := by decide +kernel
theorem d22_15 : decode jdk_42_method_150_code 15 = .ok (.aload_n 1, 1) := by decide +kernel
theorem d22_16 : decode jdk_42_method_150_code 16 = .ok (.invokevirtual 1047, 3) := by decide +kernel
theorem W131 {Z : State} {a0 : Array Value} (hw : ∀ d ∈ tables_1, d.before a0 Z = true) : (Jvm.Cond.methodLink "java/lang/String" (1047 : Nat) ({ cls := "java/lang/AbstractStringBuilder", name := "isLatin1", desc := "()Z" } : Jvm.MethodName)).before a0 Z = true := hw _ (List.mem_of_getElem? (i := 131) rfl)
theorem pd_28295a : parseMethodDescriptor "()Z" = some ⟨[], (some .boolean)⟩ := by decide +kernel
theorem W132 {Z : State} {a0 : Array Value} (hw : ∀ d ∈ tables_1, d.before a0 Z = true) : (Jvm.Cond.declares ({ cls := "java/lang/AbstractStringBuilder", name := "isLatin1", desc := "()Z" } : Jvm.MethodName)).before a0 Z = true := hw _ (List.mem_of_getElem? (i := 132) rfl)
theorem W134 {Z : State} {a0 : Array Value} (hw : ∀ d ∈ tables_1, d.before a0 Z = true) : (Jvm.Cond.selects "java/lang/StringBuilder" ({ cls := "java/lang/AbstractStringBuilder", name := "isLatin1", desc := "()Z" } : Jvm.MethodName) ({ cls := "java/lang/AbstractStringBuilder", name := "isLatin1", desc := "()Z" } : Jvm.MethodName)).before a0 Z = true := hw _ (List.mem_of_getElem? (i := 134) rfl)
theorem W133 {Z : State} {a0 : Array Value} (hw : ∀ d ∈ tables_1, d.before a0 Z = true) : (Jvm.Cond.instanceMethod ({ cls := "java/lang/AbstractStringBuilder", name := "isLatin1", desc := "()Z" } : Jvm.MethodName)).before a0 Z = true := hw _ (List.mem_of_getElem? (i := 133) rfl)
theorem W135 {Z : State} {a0 : Array Value} (hw : ∀ d ∈ tables_1, d.before a0 Z = true) : (Jvm.Cond.code ({ cls := "java/lang/AbstractStringBuilder", name := "isLatin1", desc := "()Z" } : Jvm.MethodName) jdk_68_method_68_code (1 : Nat) (Option.some Jvm.ClassFile.FieldType.boolean)).before a0 Z = true := hw _ (List.mem_of_getElem? (i := 135) rfl)
theorem d22_19 : decode jdk_42_method_150_code 19 = .ok (.ifCond .eq 22, 3) := by decide +kernel
theorem d22_22 : decode jdk_42_method_150_code 22 = .ok (.aload_n 0, 1) := by decide +kernel
theorem d22_23 : decode jdk_42_method_150_code 23 = .ok (.iconst 0, 1) := by decide +kernel
theorem d22_24 : decode jdk_42_method_150_code 24 = .ok (.putfield 15, 3) := by decide +kernel
theorem W30 {Z : State} {a0 : Array Value} (hw : ∀ d ∈ tables_1, d.before a0 Z = true) : (Jvm.Cond.laysFinal "java/lang/String" "java/lang/String" "coder" "B").before a0 Z = true := hw _ (List.mem_of_getElem? (i := 30) rfl)
theorem W4 {Z : State} {a0 : Array Value} (hw : ∀ d ∈ tables_1, d.before a0 Z = true) : (Jvm.Cond.instantiable "java/lang/String" (4 : Nat)).before a0 Z = true := hw _ (List.mem_of_getElem? (i := 4) rfl)
theorem W32 {Z : State} {a0 : Array Value} (hw : ∀ d ∈ tables_1, d.before a0 Z = true) : (Jvm.Cond.laysFinal "java/lang/String" "java/lang/String" "value" "[B").before a0 Z = true := hw _ (List.mem_of_getElem? (i := 32) rfl)
theorem d22_27 : decode jdk_42_method_150_code 27 = .ok (.aload_n 0, 1) := by decide +kernel
theorem d22_28 : decode jdk_42_method_150_code 28 = .ok (.aload_n 3, 1) := by decide +kernel
theorem d22_29 : decode jdk_42_method_150_code 29 = .ok (.iconst 0, 1) := by decide +kernel
theorem d22_30 : decode jdk_42_method_150_code 30 = .ok (.iload 4, 2) := by decide +kernel
theorem d22_32 : decode jdk_42_method_150_code 32 = .ok (.invokestatic 54, 3) := by decide +kernel
theorem W136 {Z : State} {a0 : Array Value} (hw : ∀ d ∈ tables_1, d.before a0 Z = true) : (Jvm.Cond.methodLink "java/lang/String" (54 : Nat) ({ cls := "java/util/Arrays", name := "copyOfRange", desc := "([BII)[B" } : Jvm.MethodName)).before a0 Z = true := hw _ (List.mem_of_getElem? (i := 136) rfl)
theorem W137 {Z : State} {a0 : Array Value} (hw : ∀ d ∈ tables_1, d.before a0 Z = true) : (Jvm.Cond.static ({ cls := "java/util/Arrays", name := "copyOfRange", desc := "([BII)[B" } : Jvm.MethodName)).before a0 Z = true := hw _ (List.mem_of_getElem? (i := 137) rfl)
theorem W139 {Z : State} {a0 : Array Value} (hw : ∀ d ∈ tables_1, d.before a0 Z = true) : (Jvm.Cond.code ({ cls := "java/util/Arrays", name := "copyOfRange", desc := "([BII)[B" } : Jvm.MethodName) jdk_65_method_132_code (3 : Nat) (Option.some (Jvm.ClassFile.FieldType.array Jvm.ClassFile.FieldType.byte))).before a0 Z = true := hw _ (List.mem_of_getElem? (i := 139) rfl)
theorem d22_35 : decode jdk_42_method_150_code 35 = .ok (.putfield 9, 3) := by decide +kernel
theorem d22_38 : decode jdk_42_method_150_code 38 = .ok (.goto 59, 3) := by decide +kernel
theorem d22_97 : decode jdk_42_method_150_code 97 = .ok (.return_, 1) := by decide +kernel
theorem d23_0 : decode jdk_42_method_53_code 0 = .ok (.aload_n 0, 1) := by decide +kernel
theorem d23_1 : decode jdk_42_method_53_code 1 = .ok (.aload_n 1, 1) := by decide +kernel
theorem d23_2 : decode jdk_42_method_53_code 2 = .ok (.aconst_null, 1) := by decide +kernel
theorem d23_3 : decode jdk_42_method_53_code 3 = .ok (.invokespecial 489, 3) := by decide +kernel
theorem W115 {Z : State} {a0 : Array Value} (hw : ∀ d ∈ tables_1, d.before a0 Z = true) : (Jvm.Cond.methodLink "java/lang/String" (489 : Nat) ({ cls := "java/lang/String", name := "<init>", desc := "(Ljava/lang/AbstractStringBuilder;Ljava/lang/Void;)V" } : Jvm.MethodName)).before a0 Z = true := hw _ (List.mem_of_getElem? (i := 115) rfl)
theorem pd_13 : parseMethodDescriptor "(Ljava/lang/AbstractStringBuilder;Ljava/lang/Void;)V" = some ⟨[(.object "java/lang/AbstractStringBuilder"), (.object "java/lang/Void")], none⟩ := by decide +kernel
theorem W116 {Z : State} {a0 : Array Value} (hw : ∀ d ∈ tables_1, d.before a0 Z = true) : (Jvm.Cond.instanceMethod ({ cls := "java/lang/String", name := "<init>", desc := "(Ljava/lang/AbstractStringBuilder;Ljava/lang/Void;)V" } : Jvm.MethodName)).before a0 Z = true := hw _ (List.mem_of_getElem? (i := 116) rfl)
theorem W117 {Z : State} {a0 : Array Value} (hw : ∀ d ∈ tables_1, d.before a0 Z = true) : (Jvm.Cond.code ({ cls := "java/lang/String", name := "<init>", desc := "(Ljava/lang/AbstractStringBuilder;Ljava/lang/Void;)V" } : Jvm.MethodName) jdk_42_method_150_code (5 : Nat) (Option.none : Option Jvm.ClassFile.FieldType)).before a0 Z = true := hw _ (List.mem_of_getElem? (i := 117) rfl)
theorem d23_6 : decode jdk_42_method_53_code 6 = .ok (.return_, 1) := by decide +kernel
theorem d24_0 : decode jdk_67_method_42_code 0 = .ok (.new 18, 3) := by decide +kernel
theorem W111 {Z : State} {a0 : Array Value} (hw : ∀ d ∈ tables_1, d.before a0 Z = true) : (Jvm.Cond.classLink "java/lang/StringBuilder" (18 : Nat) "java/lang/String").before a0 Z = true := hw _ (List.mem_of_getElem? (i := 111) rfl)
theorem d24_3 : decode jdk_67_method_42_code 3 = .ok (.dup, 1) := by decide +kernel
theorem d24_4 : decode jdk_67_method_42_code 4 = .ok (.aload_n 0, 1) := by decide +kernel
theorem d24_5 : decode jdk_67_method_42_code 5 = .ok (.invokespecial 137, 3) := by decide +kernel
theorem W112 {Z : State} {a0 : Array Value} (hw : ∀ d ∈ tables_1, d.before a0 Z = true) : (Jvm.Cond.methodLink "java/lang/StringBuilder" (137 : Nat) ({ cls := "java/lang/String", name := "<init>", desc := "(Ljava/lang/StringBuilder;)V" } : Jvm.MethodName)).before a0 Z = true := hw _ (List.mem_of_getElem? (i := 112) rfl)
theorem pd_20 : parseMethodDescriptor "(Ljava/lang/StringBuilder;)V" = some ⟨[(.object "java/lang/StringBuilder")], none⟩ := by decide +kernel
theorem W113 {Z : State} {a0 : Array Value} (hw : ∀ d ∈ tables_1, d.before a0 Z = true) : (Jvm.Cond.instanceMethod ({ cls := "java/lang/String", name := "<init>", desc := "(Ljava/lang/StringBuilder;)V" } : Jvm.MethodName)).before a0 Z = true := hw _ (List.mem_of_getElem? (i := 113) rfl)
theorem W114 {Z : State} {a0 : Array Value} (hw : ∀ d ∈ tables_1, d.before a0 Z = true) : (Jvm.Cond.code ({ cls := "java/lang/String", name := "<init>", desc := "(Ljava/lang/StringBuilder;)V" } : Jvm.MethodName) jdk_42_method_53_code (2 : Nat) (Option.none : Option Jvm.ClassFile.FieldType)).before a0 Z = true := hw _ (List.mem_of_getElem? (i := 114) rfl)
theorem d24_8 : decode jdk_67_method_42_code 8 = .ok (.areturn, 1) := by decide +kernel
theorem d25_0 : decode prog_7_method_6_code 0 = .ok (.iload_n 2, 1) := by decide +kernel
theorem d25_1 : decode prog_7_method_6_code 1 = .ok (.ifCond .eq 8, 3) := by decide +kernel
theorem d25_9 : decode prog_7_method_6_code 9 = .ok (.ldc 68, 2) := by decide +kernel
theorem W184 {Z : State} {a0 : Array Value} (hw : ∀ d ∈ tables_1, d.before a0 Z = true) : (Jvm.Cond.stringLink "com/example/frugal_orm/frugalorm/Dialect" (68 : Nat) "").before a0 Z = true := hw _ (List.mem_of_getElem? (i := 184) rfl)
theorem d25_11 : decode prog_7_method_6_code 11 = .ok (.astore 4, 2) := by decide +kernel
theorem d25_13 : decode prog_7_method_6_code 13 = .ok (.iload_n 3, 1) := by decide +kernel
theorem d25_14 : decode prog_7_method_6_code 14 = .ok (.ifCond .eq 53, 3) := by decide +kernel
theorem d25_67 : decode prog_7_method_6_code 67 = .ok (.new 70, 3) := by decide +kernel
theorem W41 {Z : State} {a0 : Array Value} (hw : ∀ d ∈ tables_1, d.before a0 Z = true) : (Jvm.Cond.classLink "com/example/frugal_orm/frugalorm/Dialect" (70 : Nat) "java/lang/StringBuilder").before a0 Z = true := hw _ (List.mem_of_getElem? (i := 41) rfl)
theorem d25_70 : decode prog_7_method_6_code 70 = .ok (.dup, 1) := by decide +kernel
theorem d25_71 : decode prog_7_method_6_code 71 = .ok (.invokespecial 72, 3) := by decide +kernel
theorem W44 {Z : State} {a0 : Array Value} (hw : ∀ d ∈ tables_1, d.before a0 Z = true) : (Jvm.Cond.methodLink "com/example/frugal_orm/frugalorm/Dialect" (72 : Nat) ({ cls := "java/lang/StringBuilder", name := "<init>", desc := "()V" } : Jvm.MethodName)).before a0 Z = true := hw _ (List.mem_of_getElem? (i := 44) rfl)
theorem pd_282956 : parseMethodDescriptor "()V" = some ⟨[], none⟩ := by decide +kernel
theorem W45 {Z : State} {a0 : Array Value} (hw : ∀ d ∈ tables_1, d.before a0 Z = true) : (Jvm.Cond.instanceMethod ({ cls := "java/lang/StringBuilder", name := "<init>", desc := "()V" } : Jvm.MethodName)).before a0 Z = true := hw _ (List.mem_of_getElem? (i := 45) rfl)
theorem W46 {Z : State} {a0 : Array Value} (hw : ∀ d ∈ tables_1, d.before a0 Z = true) : (Jvm.Cond.code ({ cls := "java/lang/StringBuilder", name := "<init>", desc := "()V" } : Jvm.MethodName) jdk_67_method_1_code (1 : Nat) (Option.none : Option Jvm.ClassFile.FieldType)).before a0 Z = true := hw _ (List.mem_of_getElem? (i := 46) rfl)
theorem d25_74 : decode prog_7_method_6_code 74 = .ok (.aload_n 1, 1) := by decide +kernel
theorem d25_75 : decode prog_7_method_6_code 75 = .ok (.invokevirtual 75, 3) := by decide +kernel
theorem W59 {Z : State} {a0 : Array Value} (hw : ∀ d ∈ tables_1, d.before a0 Z = true) : (Jvm.Cond.methodLink "com/example/frugal_orm/frugalorm/Dialect" (75 : Nat) ({ cls := "java/lang/StringBuilder", name := "append", desc := "(Ljava/lang/String;)Ljava/lang/StringBuilder;" } : Jvm.MethodName)).before a0 Z = true := hw _ (List.mem_of_getElem? (i := 59) rfl)
theorem pd_17 : parseMethodDescriptor "(Ljava/lang/String;)Ljava/lang/StringBuilder;" = some ⟨[(.object "java/lang/String")], (some (.object "java/lang/StringBuilder"))⟩ := by decide +kernel
theorem W60 {Z : State} {a0 : Array Value} (hw : ∀ d ∈ tables_1, d.before a0 Z = true) : (Jvm.Cond.declares ({ cls := "java/lang/StringBuilder", name := "append", desc := "(Ljava/lang/String;)Ljava/lang/StringBuilder;" } : Jvm.MethodName)).before a0 Z = true := hw _ (List.mem_of_getElem? (i := 60) rfl)
theorem W62 {Z : State} {a0 : Array Value} (hw : ∀ d ∈ tables_1, d.before a0 Z = true) : (Jvm.Cond.selects "java/lang/StringBuilder" ({ cls := "java/lang/StringBuilder", name := "append", desc := "(Ljava/lang/String;)Ljava/lang/StringBuilder;" } : Jvm.MethodName) ({ cls := "java/lang/StringBuilder", name := "append", desc := "(Ljava/lang/String;)Ljava/lang/StringBuilder;" } : Jvm.MethodName)).before a0 Z = true := hw _ (List.mem_of_getElem? (i := 62) rfl)
theorem W61 {Z : State} {a0 : Array Value} (hw : ∀ d ∈ tables_1, d.before a0 Z = true) : (Jvm.Cond.instanceMethod ({ cls := "java/lang/StringBuilder", name := "append", desc := "(Ljava/lang/String;)Ljava/lang/StringBuilder;" } : Jvm.MethodName)).before a0 Z = true := hw _ (List.mem_of_getElem? (i := 61) rfl)
theorem W63 {Z : State} {a0 : Array Value} (hw : ∀ d ∈ tables_1, d.before a0 Z = true) : (Jvm.Cond.code ({ cls := "java/lang/StringBuilder", name := "append", desc := "(Ljava/lang/String;)Ljava/lang/StringBuilder;" } : Jvm.MethodName) jdk_67_method_7_code (2 : Nat) (Option.some (Jvm.ClassFile.FieldType.object "java/lang/StringBuilder"))).before a0 Z = true := hw _ (List.mem_of_getElem? (i := 63) rfl)
theorem d25_78 : decode prog_7_method_6_code 78 = .ok (.aload 4, 2) := by decide +kernel
theorem d25_80 : decode prog_7_method_6_code 80 = .ok (.invokevirtual 75, 3) := by decide +kernel
theorem d25_83 : decode prog_7_method_6_code 83 = .ok (.invokevirtual 83, 3) := by decide +kernel
theorem W106 {Z : State} {a0 : Array Value} (hw : ∀ d ∈ tables_1, d.before a0 Z = true) : (Jvm.Cond.methodLink "com/example/frugal_orm/frugalorm/Dialect" (83 : Nat) ({ cls := "java/lang/StringBuilder", name := "toString", desc := "()Ljava/lang/String;" } : Jvm.MethodName)).before a0 Z = true := hw _ (List.mem_of_getElem? (i := 106) rfl)
theorem pd_2 : parseMethodDescriptor "()Ljava/lang/String;" = some ⟨[], (some (.object "java/lang/String"))⟩ := by decide +kernel
theorem W107 {Z : State} {a0 : Array Value} (hw : ∀ d ∈ tables_1, d.before a0 Z = true) : (Jvm.Cond.declares ({ cls := "java/lang/StringBuilder", name := "toString", desc := "()Ljava/lang/String;" } : Jvm.MethodName)).before a0 Z = true := hw _ (List.mem_of_getElem? (i := 107) rfl)
theorem W109 {Z : State} {a0 : Array Value} (hw : ∀ d ∈ tables_1, d.before a0 Z = true) : (Jvm.Cond.selects "java/lang/StringBuilder" ({ cls := "java/lang/StringBuilder", name := "toString", desc := "()Ljava/lang/String;" } : Jvm.MethodName) ({ cls := "java/lang/StringBuilder", name := "toString", desc := "()Ljava/lang/String;" } : Jvm.MethodName)).before a0 Z = true := hw _ (List.mem_of_getElem? (i := 109) rfl)
theorem W108 {Z : State} {a0 : Array Value} (hw : ∀ d ∈ tables_1, d.before a0 Z = true) : (Jvm.Cond.instanceMethod ({ cls := "java/lang/StringBuilder", name := "toString", desc := "()Ljava/lang/String;" } : Jvm.MethodName)).before a0 Z = true := hw _ (List.mem_of_getElem? (i := 108) rfl)
theorem W110 {Z : State} {a0 : Array Value} (hw : ∀ d ∈ tables_1, d.before a0 Z = true) : (Jvm.Cond.code ({ cls := "java/lang/StringBuilder", name := "toString", desc := "()Ljava/lang/String;" } : Jvm.MethodName) jdk_67_method_42_code (1 : Nat) (Option.some (Jvm.ClassFile.FieldType.object "java/lang/String"))).before a0 Z = true := hw _ (List.mem_of_getElem? (i := 110) rfl)
theorem d25_86 : decode prog_7_method_6_code 86 = .ok (.astore 5, 2) := by decide +kernel
theorem d25_88 : decode prog_7_method_6_code 88 = .ok (.aload 5, 2) := by decide +kernel
theorem d25_90 : decode prog_7_method_6_code 90 = .ok (.areturn, 1) := by decide +kernel
theorem pn_69616c656374_0 : plainName "com/example/frugal_orm/frugalorm/Dialect" = true := by first | (simp [plainName, overriddenIn]; done) | decide +kernel
theorem d25_17 : decode prog_7_method_6_code 17 = .ok (.aload_n 0, 1) := by decide +kernel
theorem d25_18 : decode prog_7_method_6_code 18 = .ok (.getfield 33, 3) := by decide +kernel
theorem W163 {Z : State} {a0 : Array Value} (hw : ∀ d ∈ tables_1, d.before a0 Z = true) : (Jvm.Cond.fieldLink "com/example/frugal_orm/frugalorm/Dialect" (33 : Nat) "com/example/frugal_orm/frugalorm/Dialect" "nullsFirst" "Z").before a0 Z = true := hw _ (List.mem_of_getElem? (i := 163) rfl)
theorem d25_21 : decode prog_7_method_6_code 21 = .ok (.ifCond .eq 46, 3) := by decide +kernel
theorem d25_24 : decode prog_7_method_6_code 24 = .ok (.new 70, 3) := by decide +kernel
theorem d25_27 : decode prog_7_method_6_code 27 = .ok (.dup, 1) := by decide +kernel
theorem d25_28 : decode prog_7_method_6_code 28 = .ok (.invokespecial 72, 3) := by decide +kernel
theorem d25_31 : decode prog_7_method_6_code 31 = .ok (.aload_n 1, 1) := by decide +kernel
theorem d25_32 : decode prog_7_method_6_code 32 = .ok (.invokevirtual 75, 3) := by decide +kernel
theorem d25_35 : decode prog_7_method_6_code 35 = .ok (.ldc 79, 2) := by decide +kernel
theorem W165 {Z : State} {a0 : Array Value} (hw : ∀ d ∈ tables_1, d.before a0 Z = true) : (Jvm.Cond.stringLink "com/example/frugal_orm/frugalorm/Dialect" (79 : Nat) " is null").before a0 Z = true := hw _ (List.mem_of_getElem? (i := 165) rfl)
theorem d25_37 : decode prog_7_method_6_code 37 = .ok (.invokevirtual 75, 3) := by decide +kernel
theorem d25_40 : decode prog_7_method_6_code 40 = .ok (.aload 4, 2) := by decide +kernel
theorem d25_42 : decode prog_7_method_6_code 42 = .ok (.invokevirtual 75, 3) := by decide +kernel
theorem d25_45 : decode prog_7_method_6_code 45 = .ok (.ldc 81, 2) := by decide +kernel
theorem W166 {Z : State} {a0 : Array Value} (hw : ∀ d ∈ tables_1, d.before a0 Z = true) : (Jvm.Cond.stringLink "com/example/frugal_orm/frugalorm/Dialect" (81 : Nat) ", ").before a0 Z = true := hw _ (List.mem_of_getElem? (i := 166) rfl)
theorem d25_47 : decode prog_7_method_6_code 47 = .ok (.invokevirtual 75, 3) := by decide +kernel
theorem d25_50 : decode prog_7_method_6_code 50 = .ok (.aload_n 1, 1) := by decide +kernel
theorem d25_51 : decode prog_7_method_6_code 51 = .ok (.invokevirtual 75, 3) := by decide +kernel
theorem d25_54 : decode prog_7_method_6_code 54 = .ok (.aload 4, 2) := by decide +kernel
theorem d25_56 : decode prog_7_method_6_code 56 = .ok (.invokevirtual 75, 3) := by decide +kernel
theorem d25_59 : decode prog_7_method_6_code 59 = .ok (.invokevirtual 83, 3) := by decide +kernel
theorem d25_62 : decode prog_7_method_6_code 62 = .ok (.astore 5, 2) := by decide +kernel
theorem d25_64 : decode prog_7_method_6_code 64 = .ok (.goto 24, 3) := by decide +kernel
theorem d25_4 : decode prog_7_method_6_code 4 = .ok (.ldc 66, 2) := by decide +kernel
theorem W38 {Z : State} {a0 : Array Value} (hw : ∀ d ∈ tables_1, d.before a0 Z = true) : (Jvm.Cond.stringLink "com/example/frugal_orm/frugalorm/Dialect" (66 : Nat) " desc").before a0 Z = true := hw _ (List.mem_of_getElem? (i := 38) rfl)
theorem d25_6 : decode prog_7_method_6_code 6 = .ok (.goto 5, 3) := by decide +kernel
theorem W0 {Z : State} {a0 : Array Value} (hw : ∀ d ∈ tables_1, d.before a0 Z = true) : (Jvm.Cond.fieldLink "com/example/frugal_orm/frugalorm/DialectOrderItemsPinLaw" (13 : Nat) "com/example/frugal_orm/frugalorm/Dialect" "POSTGRESQL" "Lcom/example/frugal_orm/frugalorm/Dialect;").before a0 Z = true := hw _ (List.mem_of_getElem? (i := 0) rfl)
theorem W3 {Z : State} {a0 : Array Value} (hw : ∀ d ∈ tables_1, d.before a0 Z = true) : (Jvm.Cond.classLink "com/example/frugal_orm/frugalorm/DialectOrderItemsPinLaw" (16 : Nat) "java/lang/String").before a0 Z = true := hw _ (List.mem_of_getElem? (i := 3) rfl)
theorem W6 {Z : State} {a0 : Array Value} (hw : ∀ d ∈ tables_1, d.before a0 Z = true) : (Jvm.Cond.arrayClass Jvm.ClassFile.FieldType.char).before a0 Z = true := hw _ (List.mem_of_getElem? (i := 6) rfl)
theorem W7 {Z : State} {a0 : Array Value} (hw : ∀ d ∈ tables_1, d.before a0 Z = true) : (Jvm.Cond.methodLink "com/example/frugal_orm/frugalorm/DialectOrderItemsPinLaw" (18 : Nat) ({ cls := "java/lang/String", name := "<init>", desc := "([C)V" } : Jvm.MethodName)).before a0 Z = true := hw _ (List.mem_of_getElem? (i := 7) rfl)
theorem W8 {Z : State} {a0 : Array Value} (hw : ∀ d ∈ tables_1, d.before a0 Z = true) : (Jvm.Cond.instanceMethod ({ cls := "java/lang/String", name := "<init>", desc := "([C)V" } : Jvm.MethodName)).before a0 Z = true := hw _ (List.mem_of_getElem? (i := 8) rfl)
theorem W9 {Z : State} {a0 : Array Value} (hw : ∀ d ∈ tables_1, d.before a0 Z = true) : (Jvm.Cond.code ({ cls := "java/lang/String", name := "<init>", desc := "([C)V" } : Jvm.MethodName) jdk_42_method_3_code (2 : Nat) (Option.none : Option Jvm.ClassFile.FieldType)).before a0 Z = true := hw _ (List.mem_of_getElem? (i := 9) rfl)
theorem pd_285b432956 : parseMethodDescriptor "([C)V" = some ⟨[(.array .char)], none⟩ := by decide +kernel
theorem W33 {Z : State} {a0 : Array Value} (hw : ∀ d ∈ tables_1, d.before a0 Z = true) : (Jvm.Cond.methodLink "com/example/frugal_orm/frugalorm/DialectOrderItemsPinLaw" (21 : Nat) ({ cls := "com/example/frugal_orm/frugalorm/Dialect", name := "orderItems", desc := "(Ljava/lang/String;ZZ)Ljava/lang/String;" } : Jvm.MethodName)).before a0 Z = true := hw _ (List.mem_of_getElem? (i := 33) rfl)
theorem pd_19 : parseMethodDescriptor "(Ljava/lang/String;ZZ)Ljava/lang/String;" = some ⟨[(.object "java/lang/String"), .boolean, .boolean], (some (.object "java/lang/String"))⟩ := by decide +kernel
theorem W34 {Z : State} {a0 : Array Value} (hw : ∀ d ∈ tables_1, d.before a0 Z = true) : (Jvm.Cond.declares ({ cls := "com/example/frugal_orm/frugalorm/Dialect", name := "orderItems", desc := "(Ljava/lang/String;ZZ)Ljava/lang/String;" } : Jvm.MethodName)).before a0 Z = true := hw _ (List.mem_of_getElem? (i := 34) rfl)
theorem W36 {Z : State} {a0 : Array Value} (hw : ∀ d ∈ tables_1, d.before a0 Z = true) : (Jvm.Cond.selects "com/example/frugal_orm/frugalorm/Dialect" ({ cls := "com/example/frugal_orm/frugalorm/Dialect", name := "orderItems", desc := "(Ljava/lang/String;ZZ)Ljava/lang/String;" } : Jvm.MethodName) ({ cls := "com/example/frugal_orm/frugalorm/Dialect", name := "orderItems", desc := "(Ljava/lang/String;ZZ)Ljava/lang/String;" } : Jvm.MethodName)).before a0 Z = true := hw _ (List.mem_of_getElem? (i := 36) rfl)
theorem W35 {Z : State} {a0 : Array Value} (hw : ∀ d ∈ tables_1, d.before a0 Z = true) : (Jvm.Cond.instanceMethod ({ cls := "com/example/frugal_orm/frugalorm/Dialect", name := "orderItems", desc := "(Ljava/lang/String;ZZ)Ljava/lang/String;" } : Jvm.MethodName)).before a0 Z = true := hw _ (List.mem_of_getElem? (i := 35) rfl)
theorem W37 {Z : State} {a0 : Array Value} (hw : ∀ d ∈ tables_1, d.before a0 Z = true) : (Jvm.Cond.code ({ cls := "com/example/frugal_orm/frugalorm/Dialect", name := "orderItems", desc := "(Ljava/lang/String;ZZ)Ljava/lang/String;" } : Jvm.MethodName) prog_7_method_6_code (6 : Nat) (Option.some (Jvm.ClassFile.FieldType.object "java/lang/String"))).before a0 Z = true := hw _ (List.mem_of_getElem? (i := 37) rfl)
theorem W1 {Z : State} {a0 : Array Value} (hw : ∀ d ∈ tables_1, d.before a0 Z = true) : (Jvm.Cond.initialized "com/example/frugal_orm/frugalorm/Dialect").before a0 Z = true := hw _ (List.mem_of_getElem? (i := 1) rfl)
theorem W151 {Z : State} {a0 : Array Value} (hw : ∀ d ∈ tables_1, d.before a0 Z = true) : (Jvm.Cond.methodLink "com/example/frugal_orm/frugalorm/DialectOrderItemsPinLaw" (25 : Nat) ({ cls := "java/lang/String", name := "equals", desc := "(Ljava/lang/Object;)Z" } : Jvm.MethodName)).before a0 Z = true := hw _ (List.mem_of_getElem? (i := 151) rfl)
theorem W152 {Z : State} {a0 : Array Value} (hw : ∀ d ∈ tables_1, d.before a0 Z = true) : (Jvm.Cond.declares ({ cls := "java/lang/String", name := "equals", desc := "(Ljava/lang/Object;)Z" } : Jvm.MethodName)).before a0 Z = true := hw _ (List.mem_of_getElem? (i := 152) rfl)
theorem W154 {Z : State} {a0 : Array Value} (hw : ∀ d ∈ tables_1, d.before a0 Z = true) : (Jvm.Cond.selects "java/lang/String" ({ cls := "java/lang/String", name := "equals", desc := "(Ljava/lang/Object;)Z" } : Jvm.MethodName) ({ cls := "java/lang/String", name := "equals", desc := "(Ljava/lang/Object;)Z" } : Jvm.MethodName)).before a0 Z = true := hw _ (List.mem_of_getElem? (i := 154) rfl)
theorem W153 {Z : State} {a0 : Array Value} (hw : ∀ d ∈ tables_1, d.before a0 Z = true) : (Jvm.Cond.instanceMethod ({ cls := "java/lang/String", name := "equals", desc := "(Ljava/lang/Object;)Z" } : Jvm.MethodName)).before a0 Z = true := hw _ (List.mem_of_getElem? (i := 153) rfl)
theorem pd_14 : parseMethodDescriptor "(Ljava/lang/Object;)Z" = some ⟨[(.object "java/lang/Object")], (some .boolean)⟩ := by decide +kernel
theorem W161 {Z : State} {a0 : Array Value} (hw : ∀ d ∈ tables_1, d.before a0 Z = true) : (Jvm.Cond.fieldLink "com/example/frugal_orm/frugalorm/DialectOrderItemsPinLaw" (7 : Nat) "com/example/frugal_orm/frugalorm/Dialect" "MARIADB" "Lcom/example/frugal_orm/frugalorm/Dialect;").before a0 Z = true := hw _ (List.mem_of_getElem? (i := 161) rfl)
theorem pn_50696e4c6177_1 : plainName "com/example/frugal_orm/frugalorm/DialectOrderItemsPinLaw" = true := by first | (simp [plainName, overriddenIn]; done) | decide +kernel
theorem W162 {Z : State} {a0 : Array Value} (hw : ∀ d ∈ tables_1, d.before a0 Z = true) : (Jvm.Cond.laysStatic "com/example/frugal_orm/frugalorm/Dialect" "MARIADB" "Lcom/example/frugal_orm/frugalorm/Dialect;").before a0 Z = true := hw _ (List.mem_of_getElem? (i := 162) rfl)
theorem W2 {Z : State} {a0 : Array Value} (hw : ∀ d ∈ tables_1, d.before a0 Z = true) : (Jvm.Cond.laysStatic "com/example/frugal_orm/frugalorm/Dialect" "POSTGRESQL" "Lcom/example/frugal_orm/frugalorm/Dialect;").before a0 Z = true := hw _ (List.mem_of_getElem? (i := 2) rfl)
def Glob (Z : State) (a0 : Array Value) (EL : List (String × Nat)) : Prop :=
  (∀ d ∈ tables_1, d.before a0 Z = true) ∧ EW Z a0 EL ∧ EL = consts_1 ∧ (∃ z : Int32, Sta Z Z.heap "java/lang/String" "COMPACT_STRINGS" "Z" (.int z) ∧ ¬ z = 0) ∧ (∃ v : Value, Sta Z Z.heap "jdk/internal/util/Preconditions" "SIOOBE_FORMATTER" "Ljava/util/function/BiFunction;" v ∧ v.isRef = true) ∧ (∃ dm dp : Addr, (Sta Z Z.heap "com/example/frugal_orm/frugalorm/Dialect" "MARIADB" "Lcom/example/frugal_orm/frugalorm/Dialect;" (.ref dm) ∧ Exa Z Z.heap dm "com/example/frugal_orm/frugalorm/Dialect" ∧ Fld Z Z.heap dm "com/example/frugal_orm/frugalorm/Dialect" "nullsFirst" "Z" (.int 1)) ∧ (Sta Z Z.heap "com/example/frugal_orm/frugalorm/Dialect" "POSTGRESQL" "Lcom/example/frugal_orm/frugalorm/Dialect;" (.ref dp) ∧ Exa Z Z.heap dp "com/example/frugal_orm/frugalorm/Dialect" ∧ Fld Z Z.heap dp "com/example/frugal_orm/frugalorm/Dialect" "nullsFirst" "Z" (.int 0)))
theorem Glob.hw {Z : State} {a0 : Array Value} {EL : List (String × Nat)} (G : Glob Z a0 EL) : ∀ d ∈ tables_1, d.before a0 Z = true := G.1
theorem Glob.ew {Z : State} {a0 : Array Value} {EL : List (String × Nat)} (G : Glob Z a0 EL) : EW Z a0 EL := G.2.1
theorem Glob.el {Z : State} {a0 : Array Value} {EL : List (String × Nat)} (G : Glob Z a0 EL) : EL = consts_1 := G.2.2.1
theorem Glob.cs {Z : State} {a0 : Array Value} {EL : List (String × Nat)} (G : Glob Z a0 EL) : ∃ z : Int32, Sta Z Z.heap "java/lang/String" "COMPACT_STRINGS" "Z" (.int z) ∧ ¬ z = 0 := G.2.2.2.1
theorem Glob.fm {Z : State} {a0 : Array Value} {EL : List (String × Nat)} (G : Glob Z a0 EL) : ∃ v : Value, Sta Z Z.heap "jdk/internal/util/Preconditions" "SIOOBE_FORMATTER" "Ljava/util/function/BiFunction;" v ∧ v.isRef = true := G.2.2.2.2.1
theorem Glob.di {Z : State} {a0 : Array Value} {EL : List (String × Nat)} (G : Glob Z a0 EL) : ∃ dm dp : Addr, (Sta Z Z.heap "com/example/frugal_orm/frugalorm/Dialect" "MARIADB" "Lcom/example/frugal_orm/frugalorm/Dialect;" (.ref dm) ∧ Exa Z Z.heap dm "com/example/frugal_orm/frugalorm/Dialect" ∧ Fld Z Z.heap dm "com/example/frugal_orm/frugalorm/Dialect" "nullsFirst" "Z" (.int 1)) ∧ (Sta Z Z.heap "com/example/frugal_orm/frugalorm/Dialect" "POSTGRESQL" "Lcom/example/frugal_orm/frugalorm/Dialect;" (.ref dp) ∧ Exa Z Z.heap dp "com/example/frugal_orm/frugalorm/Dialect" ∧ Fld Z Z.heap dp "com/example/frugal_orm/frugalorm/Dialect" "nullsFirst" "Z" (.int 0)) := G.2.2.2.2.2
theorem Glob.wS {Z : State} {a0 : Array Value} {EL : List (String × Nat)} (G : Glob Z a0 EL) : ∀ a ∈ Bundle.stringAtoms, a.before a0 Z = true := fun d hd => G.hw d ((by decide +kernel : ∀ d ∈ Bundle.stringAtoms, d ∈ tables_1) d hd)
theorem Glob.w_backV {Z : State} {a0 : Array Value} {EL : List (String × Nat)} (G : Glob Z a0 EL) : ∀ d ∈ StrChars.Road.words, d.before a0 Z = true := fun d hd => G.hw d ((by decide +kernel : ∀ d ∈ StrChars.Road.words, d ∈ tables_1) d hd)
theorem Glob.w_eqW {Z : State} {a0 : Array Value} {EL : List (String × Nat)} (G : Glob Z a0 EL) : ∀ d ∈ StrChars.Road.wordsEq, d.before a0 Z = true := fun d hd => G.hw d ((by decide +kernel : ∀ d ∈ StrChars.Road.wordsEq, d ∈ tables_1) d hd)
set_option maxRecDepth 65536 in
set_option maxHeartbeats 40000000 in
theorem rm_coder (l : Launch) (Z : State) (a0 : Array Value) (EL : List (String × Nat)) (G : Glob Z a0 EL) (a : Addr) (h : Heap) (O : Ext Z.heap h) (F0 : Fld Z h a "java/lang/String" "coder" "B" (.int (0 : Int32))) :
    Met l Z EL true (⟨"java/lang/String", "coder", "()B"⟩ : MethodName) jdk_42_method_152_code 1 (some .byte) [] ({ frames := 0, cells := 0, slots := 0, locals := 0 } : Room) #[(.ref a)] h [] (fun r h' => r = some (.int (0 : Int32)) ∧ h = h') := by
  have hw := G.hw
  obtain ⟨zc, Sc, hzc⟩ := G.cs
  obtain ⟨vf, Sf, hvf⟩ := G.fm
  refine Met.of (plainFor_of_name pn_537472696e67_5) G.ew O ?_
  intro p e s m below meth c T0 C0 S0
  refine Endw.eq (g' := mkF m 0 #[.val (.ref a)] []) (by first | rfl | (simp [entryFrame, mkF, argsToLocals, own_cI, own_cR, own_cN, own_cJ, own_cD, maxLocals]; done)) ?_
  refine C0.getS (W17 hw) Sc d0_0 (pc' := 3) rfl ?_
  intro T1 C1
  show Endw p e below T1 (mkF m 3 #[.val (.ref a)] [(.int zc)]) _
  refine Endw.st (T' := T1) (g' := (mkF m 7 #[.val (.ref a)] [(.ref a)])) (fun tt_ kk_ => XS.ifNo C1.here C1.hx rfl (C1.dec d0_3) rfl (XT.i0_eq_f hzc) (XS.aloadN C1.here C1.hx rfl (C1.dec d0_6) rfl rfl kk_)) ?_
  refine C1.getF (W29 hw) F0 d0_7 (pc' := 10) rfl ?_
  intro T2 C2
  show Endw p e below T2 (mkF m 10 #[.val (.ref a)] [(.int (0 : Int32))]) _
  refine Endw.st (T' := T2) (g' := (mkF m 14 #[.val (.ref a)] [(.int (0 : Int32))])) (fun tt_ kk_ => XS.goto C2.here C2.hx rfl (pc0 := 10) rfl (C2.dec d0_10) (by decide) rfl kk_) ?_
  exact C2.retI (t := .byte) rfl (by simp) rfl d0_14 (by decide) (by decide) ⟨rfl, rfl⟩
set_option maxRecDepth 65536 in
set_option maxHeartbeats 40000000 in
theorem rm_strLen (l : Launch) (Z : State) (a0 : Array Value) (EL : List (String × Nat)) (G : Glob Z a0 EL) (a t : Addr) (kb : ClassId) (cs : List Int32) (h : Heap) (O : Ext Z.heap h) (S : Str Z h a t kb cs) :
    Met l Z EL true (⟨"java/lang/String", "length", "()I"⟩ : MethodName) jdk_42_method_54_code 1 (some .int) [] ({ frames := 1, cells := 0, slots := 0, locals := 13 } : Room) #[(.ref a)] h [] (fun r h' => r = some (.int (Int32.ofNat cs.length)) ∧ h = h') := by
  have hw := G.hw
  obtain ⟨zc, Sc, hzc⟩ := G.cs
  obtain ⟨vf, Sf, hvf⟩ := G.fm
  refine Met.of (plainFor_of_name pn_537472696e67_5) G.ew O ?_
  intro p e s m below meth c T0 C0 S0
  refine Endw.eq (g' := mkF m 0 #[.val (.ref a)] []) (by first | rfl | (simp [entryFrame, mkF, argsToLocals, own_cI, own_cR, own_cN, own_cJ, own_cD, maxLocals]; done)) ?_
  refine Endw.st (T' := T0) (g' := (mkF m 1 #[.val (.ref a)] [(.ref a)])) (fun tt_ kk_ => XS.aloadN C0.here C0.hx rfl (C0.dec d1_0) rfl rfl kk_) ?_
  refine C0.getF (W31 hw) S.2.2.1 d1_1 (pc' := 4) rfl ?_
  intro T1 C1
  show Endw p e below T1 (mkF m 4 #[.val (.ref a)] [(.ref t)]) _
  refine C1.len S.2.2.2.1 d1_4 (pc' := 5) rfl ?_
  show Endw p e below T1 (mkF m 5 #[.val (.ref a)] [(.int (Int32.ofNat cs.length))]) _
  refine Endw.st (T' := T1) (g' := (mkF m 6 #[.val (.ref a)] [(.ref a), (.int (Int32.ofNat cs.length))])) (fun tt_ kk_ => XS.aloadN C1.here C1.hx rfl (C1.dec d1_5) rfl rfl kk_) ?_
  refine C1.virtual (y := (⟨"java/lang/String", "coder", "()B"⟩ : MethodName)) (z := (⟨"java/lang/String", "coder", "()B"⟩ : MethodName)) (W := 1) (a := a) (argsL := []) (rest := [(.int (Int32.ofNat cs.length))]) (W74 hw) (W75 hw) (fun _ q => notFace_of_selects (args := #[]) (mvT q (W77 hw))) (W77 hw) (W76 hw) (W78 hw) (W5 hw) (by decide) (rm_coder l Z a0 EL G a h C1.old S.2.1) (fun _ => rfl) rfl S.1 all0 (by decide) (by decide) (by decide) (by decide) (lenOf pd_282942 rfl) rfl (Nat.le_of_ble_eq_true rfl) rfl d1_6 (pc' := 9) rfl ?_
  intro vm2 T2 h2 v2 C2 A2 M2 q2
  obtain ⟨rfl, rfl⟩ := q2
  show Endw p e below T2 (mkF m 9 #[.val (.ref a)] [(.int (0 : Int32)), (.int (Int32.ofNat cs.length))]) _
  refine Endw.st (T' := T2) (g' := (mkF m 10 #[.val (.ref a)] [(.int ((Int32.ofNat cs.length) >>> ((0 : Int32) &&& 31)))])) (fun tt_ kk_ => XS.ishr C2.here C2.hx rfl (C2.dec d1_9) rfl kk_) ?_
  rw [own_shr0]
  exact C2.retI (t := .int) rfl (by simp) rfl d1_10 (by decide) (by decide) ⟨rfl, rfl⟩
set_option maxRecDepth 65536 in
set_option maxHeartbeats 40000000 in
theorem rm_inflIf (l : Launch) (Z : State) (a0 : Array Value) (EL : List (String × Nat)) (G : Glob Z a0 EL) (b a : Addr) (h : Heap) (O : Ext Z.heap h) (E0 : Exa Z h a "java/lang/String") (F0 : Fld Z h b "java/lang/AbstractStringBuilder" "coder" "B" (.int (0 : Int32))) (F1 : Fld Z h a "java/lang/String" "coder" "B" (.int (0 : Int32))) :
    Met l Z EL true (⟨"java/lang/AbstractStringBuilder", "inflateIfNeededFor", "(Ljava/lang/String;)V"⟩ : MethodName) jdk_68_method_71_code 2 none [] ({ frames := 1, cells := 0, slots := 0, locals := 13 } : Room) #[(.ref b), (.ref a)] h [] (fun r h' => r = none ∧ h = h') := by
  have hw := G.hw
  obtain ⟨zc, Sc, hzc⟩ := G.cs
  obtain ⟨vf, Sf, hvf⟩ := G.fm
  refine Met.of (plainFor_of_name pn_75696c646572_2) G.ew O ?_
  intro p e s m below meth c T0 C0 S0
  refine Endw.eq (g' := mkF m 0 #[.val (.ref b), .val (.ref a)] []) (by first | rfl | (simp [entryFrame, mkF, argsToLocals, own_cI, own_cR, own_cN, own_cJ, own_cD, maxLocals]; done)) ?_
  refine C0.getS (W54 hw) Sc d2_0 (pc' := 3) rfl ?_
  intro T1 C1
  show Endw p e below T1 (mkF m 3 #[.val (.ref b), .val (.ref a)] [(.int zc)]) _
  refine Endw.st (T' := T1) (g' := (mkF m 7 #[.val (.ref b), .val (.ref a)] [(.ref b)])) (fun tt_ kk_ => XS.ifNo C1.here C1.hx rfl (C1.dec d2_3) rfl (XT.i0_eq_f hzc) (XS.aloadN C1.here C1.hx rfl (C1.dec d2_6) rfl rfl kk_)) ?_
  refine C1.getF (W57 hw) F0 d2_7 (pc' := 10) rfl ?_
  intro T2 C2
  show Endw p e below T2 (mkF m 10 #[.val (.ref b), .val (.ref a)] [(.int (0 : Int32))]) _
  refine Endw.st (T' := T2) (g' := (mkF m 11 #[.val (.ref b), .val (.ref a)] [(.ref a), (.int (0 : Int32))])) (fun tt_ kk_ => XS.aloadN C2.here C2.hx rfl (C2.dec d2_10) rfl rfl kk_) ?_
  refine C2.virtual (y := (⟨"java/lang/String", "coder", "()B"⟩ : MethodName)) (z := (⟨"java/lang/String", "coder", "()B"⟩ : MethodName)) (W := 1) (a := a) (argsL := []) (rest := [(.int (0 : Int32))]) (W96 hw) (W75 hw) (fun _ q => notFace_of_selects (args := #[]) (mvT q (W77 hw))) (W77 hw) (W76 hw) (W78 hw) (W5 hw) (by decide) (rm_coder l Z a0 EL G a h C2.old F1) (fun _ => rfl) rfl E0 all0 (by decide) (by decide) (by decide) (by decide) (lenOf pd_282942 rfl) rfl (Nat.le_of_ble_eq_true rfl) rfl d2_11 (pc' := 14) rfl ?_
  intro vm3 T3 h3 v3 C3 A3 M3 q3
  obtain ⟨rfl, rfl⟩ := q3
  show Endw p e below T3 (mkF m 14 #[.val (.ref b), .val (.ref a)] [(.int (0 : Int32)), (.int (0 : Int32))]) _
  refine Endw.st (T' := T3) (g' := (mkF m 21 #[.val (.ref b), .val (.ref a)] [])) (fun tt_ kk_ => XS.icmpYes C3.here C3.hx rfl (pc0 := 14) rfl (C3.dec d2_14) rfl (XT.ii_eq_t (by decide)) (by decide) rfl kk_) ?_
  exact C3.retV d2_21 (by decide) (by decide) ⟨rfl, rfl⟩
set_option maxRecDepth 65536 in
set_option maxHeartbeats 40000000 in
theorem rm_getBytes (l : Launch) (Z : State) (a0 : Array Value) (EL : List (String × Nat)) (G : Glob Z a0 EL) (a t : Addr) (kb : ClassId) (cs : List Int32) (d : Addr) (kd : ClassId) (ps : List Int32) (cap : Nat) (h : Heap) (O : Ext Z.heap h) (S : Str Z h a t kb cs) (V : Arv Z h d kd .byte (Int32.ofNat cap) (bys ps) (.int 0)) (hle : ps.length + cs.length ≤ cap) (hcap : cap ≤ 4000) (zd : Z.heap.size ≤ d) :
    Met l Z EL true (⟨"java/lang/String", "getBytes", "([BIB)V"⟩ : MethodName) jdk_42_method_147_code 4 none [] ({ frames := 1, cells := 0, slots := 0, locals := 18 } : Room) #[(.ref a), (.ref d), (.int (Int32.ofNat ps.length)), (.int (0 : Int32))] h [d] (fun r h' => r = none ∧ Keep h h' [d] ∧ Arv Z h' d kd .byte (Int32.ofNat cap) (bys (ps ++ cs)) (.int 0)) := by
  have hw := G.hw
  obtain ⟨zc, Sc, hzc⟩ := G.cs
  obtain ⟨vf, Sf, hvf⟩ := G.fm
  refine Met.of (plainFor_of_name pn_537472696e67_5) G.ew O ?_
  intro p e s m below meth c T0 C0 S0
  refine Endw.eq (g' := mkF m 0 #[.val (.ref a), .val (.ref d), .val (.int (Int32.ofNat ps.length)), .val (.int (0 : Int32))] []) (by first | rfl | (simp [entryFrame, mkF, argsToLocals, own_cI, own_cR, own_cN, own_cJ, own_cD, maxLocals]; done)) ?_
  refine Endw.st (T' := T0) (g' := (mkF m 1 #[.val (.ref a), .val (.ref d), .val (.int (Int32.ofNat ps.length)), .val (.int (0 : Int32))] [(.ref a)])) (fun tt_ kk_ => XS.aloadN C0.here C0.hx rfl (C0.dec d3_0) rfl rfl kk_) ?_
  refine C0.virtual (y := (⟨"java/lang/String", "coder", "()B"⟩ : MethodName)) (z := (⟨"java/lang/String", "coder", "()B"⟩ : MethodName)) (W := 0) (a := a) (argsL := []) (rest := []) (W74 hw) (W75 hw) (fun _ q => notFace_of_selects (args := #[]) (mvT q (W77 hw))) (W77 hw) (W76 hw) (W78 hw) (W5 hw) (by decide) (rm_coder l Z a0 EL G a h C0.old S.2.1) (fun _ => rfl) rfl S.1 all0 (by decide) (by decide) (by decide) (by decide) (lenOf pd_282942 rfl) rfl (Nat.le_of_ble_eq_true rfl) rfl d3_1 (pc' := 4) rfl ?_
  intro vm1 T1 h1 v1 C1 A1 M1 q1
  obtain ⟨rfl, rfl⟩ := q1
  show Endw p e below T1 (mkF m 4 #[.val (.ref a), .val (.ref d), .val (.int (Int32.ofNat ps.length)), .val (.int (0 : Int32))] [(.int (0 : Int32))]) _
  refine Endw.st (T' := T1) (g' := (mkF m 9 #[.val (.ref a), .val (.ref d), .val (.int (Int32.ofNat ps.length)), .val (.int (0 : Int32))] [(.ref a)])) (fun tt_ kk_ => XS.iloadN C1.here C1.hx rfl (C1.dec d3_4) rfl (XS.icmpNo C1.here C1.hx rfl (C1.dec d3_5) rfl (XT.ii_ne_f (by decide)) (XS.aloadN C1.here C1.hx rfl (C1.dec d3_8) rfl rfl kk_))) ?_
  refine C1.getF (W31 hw) S.2.2.1 d3_9 (pc' := 12) rfl ?_
  intro T2 C2
  show Endw p e below T2 (mkF m 12 #[.val (.ref a), .val (.ref d), .val (.int (Int32.ofNat ps.length)), .val (.int (0 : Int32))] [(.ref t)]) _
  refine Endw.st (T' := T2) (g' := (mkF m 17 #[.val (.ref a), .val (.ref d), .val (.int (Int32.ofNat ps.length)), .val (.int (0 : Int32))] [(.int ((Int32.ofNat ps.length) <<< ((0 : Int32) &&& 31))), (.ref d), (.int (0 : Int32)), (.ref t)])) (fun tt_ kk_ => XS.iconst C2.here C2.hx rfl (C2.dec d3_12) (XS.aloadN C2.here C2.hx rfl (C2.dec d3_13) rfl rfl (XS.iloadN C2.here C2.hx rfl (C2.dec d3_14) rfl (XS.iloadN C2.here C2.hx rfl (C2.dec d3_15) rfl (XS.ishl C2.here C2.hx rfl (C2.dec d3_16) rfl kk_))))) ?_
  rw [own_shl0]
  refine Endw.st (T' := T2) (g' := (mkF m 18 #[.val (.ref a), .val (.ref d), .val (.int (Int32.ofNat ps.length)), .val (.int (0 : Int32))] [(.ref a), (.int (Int32.ofNat ps.length)), (.ref d), (.int (0 : Int32)), (.ref t)])) (fun tt_ kk_ => XS.aloadN C2.here C2.hx rfl (C2.dec d3_17) rfl rfl kk_) ?_
  refine C2.getF (W31 hw) S.2.2.1 d3_18 (pc' := 21) rfl ?_
  intro T3 C3
  show Endw p e below T3 (mkF m 21 #[.val (.ref a), .val (.ref d), .val (.int (Int32.ofNat ps.length)), .val (.int (0 : Int32))] [(.ref t), (.int (Int32.ofNat ps.length)), (.ref d), (.int (0 : Int32)), (.ref t)]) _
  refine C3.len S.2.2.2.1 d3_21 (pc' := 22) rfl ?_
  show Endw p e below T3 (mkF m 22 #[.val (.ref a), .val (.ref d), .val (.int (Int32.ofNat ps.length)), .val (.int (0 : Int32))] [(.int (Int32.ofNat cs.length)), (.int (Int32.ofNat ps.length)), (.ref d), (.int (0 : Int32)), (.ref t)]) _
  have f5 := (A1.safe V.lt (S0 d (by simp)))
  refine C3.acopyCat (cs := ps) (ds := cs) (cap := cap) (W := 0) (W102 hw) (W105 hw) (W103 hw) (W104 hw) S.2.2.2.1 V hle hcap zd f5 rfl d3_22 (pc' := 25) rfl (by decide) (Nat.le_of_ble_eq_true rfl) (by decide) ?_
  intro T4 h4 C4 K4 A4 V4
  show Endw p e below T4 (mkF m 25 #[.val (.ref a), .val (.ref d), .val (.int (Int32.ofNat ps.length)), .val (.int (0 : Int32))] []) _
  refine Endw.st (T' := T4) (g' := (mkF m 43 #[.val (.ref a), .val (.ref d), .val (.int (Int32.ofNat ps.length)), .val (.int (0 : Int32))] [])) (fun tt_ kk_ => XS.goto C4.here C4.hx rfl (pc0 := 25) rfl (C4.dec d3_25) (by decide) rfl kk_) ?_
  exact C4.retV d3_43 (by decide) (by decide) ⟨rfl, (Keep.trans (Keep.refl h [d]) K4 (allS (Or.inl (by simp)) all0)), V4⟩
set_option maxRecDepth 65536 in
set_option maxHeartbeats 40000000 in
theorem rm_putStr (l : Launch) (Z : State) (a0 : Array Value) (EL : List (String × Nat)) (G : Glob Z a0 EL) (b tb : Addr) (kb : ClassId) (ps : List Int32) (cap : Nat) (a t : Addr) (kc : ClassId) (cs : List Int32) (h : Heap) (O : Ext Z.heap h) (B : Sb Z h b tb kb ps cap) (S : Str Z h a t kc cs) (hle : ps.length + cs.length ≤ cap) (zt : Z.heap.size ≤ tb) :
    Met l Z EL true (⟨"java/lang/AbstractStringBuilder", "putStringAt", "(ILjava/lang/String;)V"⟩ : MethodName) jdk_68_method_73_code 3 none [] ({ frames := 2, cells := 0, slots := 0, locals := 33 } : Room) #[(.ref b), (.int (Int32.ofNat ps.length)), (.ref a)] h [tb] (fun r h' => r = none ∧ Keep h h' [tb] ∧ Arv Z h' tb kb .byte (Int32.ofNat cap) (bys (ps ++ cs)) (.int 0)) := by
  have hw := G.hw
  obtain ⟨zc, Sc, hzc⟩ := G.cs
  obtain ⟨vf, Sf, hvf⟩ := G.fm
  refine Met.of (plainFor_of_name pn_75696c646572_2) G.ew O ?_
  intro p e s m below meth c T0 C0 S0
  refine Endw.eq (g' := mkF m 0 #[.val (.ref b), .val (.int (Int32.ofNat ps.length)), .val (.ref a)] []) (by first | rfl | (simp [entryFrame, mkF, argsToLocals, own_cI, own_cR, own_cN, own_cJ, own_cD, maxLocals]; done)) ?_
  refine Endw.st (T' := T0) (g' := (mkF m 2 #[.val (.ref b), .val (.int (Int32.ofNat ps.length)), .val (.ref a)] [(.ref a), (.ref b)])) (fun tt_ kk_ => XS.aloadN C0.here C0.hx rfl (C0.dec d4_0) rfl rfl (XS.aloadN C0.here C0.hx rfl (C0.dec d4_1) rfl rfl kk_)) ?_
  refine C0.priv (y := (⟨"java/lang/AbstractStringBuilder", "inflateIfNeededFor", "(Ljava/lang/String;)V"⟩ : MethodName)) (W := 0) (a := b) (argsL := [(.ref a)]) (rest := []) (W91 hw) (W92 hw) (own_plain (y := ({ cls := "java/lang/AbstractStringBuilder", name := "ensureCapacityInternal", desc := "(I)V" } : Jvm.MethodName)) (W84 hw) (W82 hw)) (W93 hw) (W95 hw) (W51 hw) (by decide) (rm_inflIf l Z a0 EL G b a h C0.old S.1 B.2.1.1 S.2.1) (fun _ => rfl) rfl B.1 all0 (by decide) (by decide) (by decide) (by decide) (lenOf pd_18 rfl) rfl (Nat.le_of_ble_eq_true rfl) rfl d4_2 (pc' := 5) rfl ?_
  intro vm1 T1 h1 v1 C1 A1 M1 q1
  obtain ⟨rfl, rfl⟩ := q1
  show Endw p e below T1 (mkF m 5 #[.val (.ref b), .val (.int (Int32.ofNat ps.length)), .val (.ref a)] []) _
  refine Endw.st (T' := T1) (g' := (mkF m 7 #[.val (.ref b), .val (.int (Int32.ofNat ps.length)), .val (.ref a)] [(.ref b), (.ref a)])) (fun tt_ kk_ => XS.aloadN C1.here C1.hx rfl (C1.dec d4_5) rfl rfl (XS.aloadN C1.here C1.hx rfl (C1.dec d4_6) rfl rfl kk_)) ?_
  refine C1.getF (W55 hw) B.2.2.1 d4_7 (pc' := 10) rfl ?_
  intro T2 C2
  show Endw p e below T2 (mkF m 10 #[.val (.ref b), .val (.int (Int32.ofNat ps.length)), .val (.ref a)] [(.ref tb), (.ref a)]) _
  refine Endw.st (T' := T2) (g' := (mkF m 12 #[.val (.ref b), .val (.int (Int32.ofNat ps.length)), .val (.ref a)] [(.ref b), (.int (Int32.ofNat ps.length)), (.ref tb), (.ref a)])) (fun tt_ kk_ => XS.iloadN C2.here C2.hx rfl (C2.dec d4_10) rfl (XS.aloadN C2.here C2.hx rfl (C2.dec d4_11) rfl rfl kk_)) ?_
  refine C2.getF (W57 hw) B.2.1.1 d4_12 (pc' := 15) rfl ?_
  intro T3 C3
  show Endw p e below T3 (mkF m 15 #[.val (.ref b), .val (.int (Int32.ofNat ps.length)), .val (.ref a)] [(.int (0 : Int32)), (.int (Int32.ofNat ps.length)), (.ref tb), (.ref a)]) _
  have f5 := (A1.safe B.2.2.2.1.lt (S0 tb (by simp)))
  refine C3.virtual (y := (⟨"java/lang/String", "getBytes", "([BIB)V"⟩ : MethodName)) (z := (⟨"java/lang/String", "getBytes", "([BIB)V"⟩ : MethodName)) (W := 0) (a := a) (argsL := [(.ref tb), (.int (Int32.ofNat ps.length)), (.int (0 : Int32))]) (rest := []) (W97 hw) (W98 hw) (fun _ q => notFace_of_selects (args := #[]) (mvT q (W100 hw))) (W100 hw) (W99 hw) (W101 hw) (W5 hw) (by decide) (rm_getBytes l Z a0 EL G a t kc cs tb kb ps cap h C3.old S B.2.2.2.1 hle B.le4 zt) (fun _ => rfl) rfl S.1 (allS ⟨B.2.2.2.1.lt, f5⟩ all0) (by decide) (by decide) (by decide) (by decide) (lenOf pd_285b4249422956 rfl) rfl (Nat.le_of_ble_eq_true rfl) rfl d4_15 (pc' := 18) rfl ?_
  intro vm4 T4 h4 v4 C4 A4 M4 q4
  obtain ⟨rfl, K4, V4⟩ := q4
  show Endw p e below T4 (mkF m 18 #[.val (.ref b), .val (.int (Int32.ofNat ps.length)), .val (.ref a)] []) _
  exact C4.retV d4_18 (by decide) (by decide) ⟨rfl, (Keep.trans (Keep.refl h [tb]) K4 (allS (Or.inl (by simp)) all0)), V4⟩
set_option maxRecDepth 65536 in
set_option maxHeartbeats 40000000 in
theorem rm_ensure (l : Launch) (Z : State) (a0 : Array Value) (EL : List (String × Nat)) (G : Glob Z a0 EL) (b tb : Addr) (kb : ClassId) (ps : List Int32) (cap kk : Nat) (h : Heap) (O : Ext Z.heap h) (B : Sb Z h b tb kb ps cap) (hk : kk ≤ cap) :
    Met l Z EL true (⟨"java/lang/AbstractStringBuilder", "ensureCapacityInternal", "(I)V"⟩ : MethodName) jdk_68_method_9_code 3 none [] ({ frames := 0, cells := 0, slots := 0, locals := 0 } : Room) #[(.ref b), (.int (Int32.ofNat kk))] h [] (fun r h' => r = none ∧ h = h') := by
  have hw := G.hw
  obtain ⟨zc, Sc, hzc⟩ := G.cs
  obtain ⟨vf, Sf, hvf⟩ := G.fm
  refine Met.of (plainFor_of_name pn_75696c646572_2) G.ew O ?_
  intro p e s m below meth c T0 C0 S0
  refine Endw.eq (g' := mkF m 0 #[.val (.ref b), .val (.int (Int32.ofNat kk)), .unset] []) (by first | rfl | (simp [entryFrame, mkF, argsToLocals, own_cI, own_cR, own_cN, own_cJ, own_cD, maxLocals]; done)) ?_
  refine Endw.st (T' := T0) (g' := (mkF m 1 #[.val (.ref b), .val (.int (Int32.ofNat kk)), .unset] [(.ref b)])) (fun tt_ kk_ => XS.aloadN C0.here C0.hx rfl (C0.dec d5_0) rfl rfl kk_) ?_
  refine C0.getF (W55 hw) B.2.2.1 d5_1 (pc' := 4) rfl ?_
  intro T1 C1
  show Endw p e below T1 (mkF m 4 #[.val (.ref b), .val (.int (Int32.ofNat kk)), .unset] [(.ref tb)]) _
  refine C1.len B.2.2.2.1 d5_4 (pc' := 5) rfl ?_
  show Endw p e below T1 (mkF m 5 #[.val (.ref b), .val (.int (Int32.ofNat kk)), .unset] [(.int (Int32.ofNat cap))]) _
  refine Endw.st (T' := T1) (g' := (mkF m 6 #[.val (.ref b), .val (.int (Int32.ofNat kk)), .unset] [(.ref b), (.int (Int32.ofNat cap))])) (fun tt_ kk_ => XS.aloadN C1.here C1.hx rfl (C1.dec d5_5) rfl rfl kk_) ?_
  refine C1.getF (W57 hw) B.2.1.1 d5_6 (pc' := 9) rfl ?_
  intro T2 C2
  show Endw p e below T2 (mkF m 9 #[.val (.ref b), .val (.int (Int32.ofNat kk)), .unset] [(.int (0 : Int32)), (.int (Int32.ofNat cap))]) _
  refine Endw.st (T' := T2) (g' := (mkF m 10 #[.val (.ref b), .val (.int (Int32.ofNat kk)), .unset] [(.int ((Int32.ofNat cap) >>> ((0 : Int32) &&& 31)))])) (fun tt_ kk_ => XS.ishr C2.here C2.hx rfl (C2.dec d5_9) rfl kk_) ?_
  rw [own_shr0]
  refine Endw.st (T' := T2) (g' := (mkF m 38 #[.val (.ref b), .val (.int (Int32.ofNat kk)), .val (.int (Int32.ofNat cap))] [])) (fun tt_ kk_ => XS.istoreN C2.here C2.hx rfl (C2.dec d5_10) rfl (l' := #[.val (.ref b), .val (.int (Int32.ofNat kk)), .val (.int (Int32.ofNat cap))]) rfl (XS.iloadN C2.here C2.hx rfl (C2.dec d5_11) rfl (XS.iloadN C2.here C2.hx rfl (C2.dec d5_12) rfl (XS.isub C2.here C2.hx rfl (C2.dec d5_13) rfl (XS.ifYes C2.here C2.hx rfl (pc0 := 14) rfl (C2.dec d5_14) rfl (XT.i0_le_t (own_sub_le hk B.le4)) (by decide) rfl kk_))))) ?_
  exact C2.retV d5_38 (by decide) (by decide) ⟨rfl, rfl⟩
set_option maxRecDepth 65536 in
set_option maxHeartbeats 40000000 in
theorem rm_min (l : Launch) (Z : State) (a0 : Array Value) (EL : List (String × Nat)) (G : Glob Z a0 EL) (x y : Int32) (h : Heap) (O : Ext Z.heap h)  :
    Met l Z EL true (⟨"java/lang/Math", "min", "(II)I"⟩ : MethodName) jdk_29_method_69_code 2 (some .int) [] ({ frames := 0, cells := 0, slots := 0, locals := 0 } : Room) #[(.int x), (.int y)] h [] (fun r h' => r = some (.int (if y < x then y else x)) ∧ h = h') := by
  have hw := G.hw
  obtain ⟨zc, Sc, hzc⟩ := G.cs
  obtain ⟨vf, Sf, hvf⟩ := G.fm
  refine Met.of (by decide +kernel) G.ew O ?_
  intro p e s m below meth c T0 C0 S0
  refine Endw.eq (g' := mkF m 0 #[.val (.int x), .val (.int y)] []) (by first | rfl | (simp [entryFrame, mkF, argsToLocals, own_cI, own_cR, own_cN, own_cJ, own_cD, maxLocals]; done)) ?_
  refine Endw.st (T' := T0) (g' := (mkF m 2 #[.val (.int x), .val (.int y)] [(.int y), (.int x)])) (fun tt_ kk_ => XS.iloadN C0.here C0.hx rfl (C0.dec d6_0) rfl (XS.iloadN C0.here C0.hx rfl (C0.dec d6_1) rfl kk_)) ?_
  by_cases c1 : y < x
  · refine Endw.st (T' := T0) (g' := (mkF m 10 #[.val (.int x), .val (.int y)] [(.int y)])) (fun tt_ kk_ => XS.icmpYes C0.here C0.hx rfl (pc0 := 2) rfl (C0.dec d6_2) rfl (XT.ii_gt_t c1) (by decide) rfl (XS.iloadN C0.here C0.hx rfl (C0.dec d6_9) rfl kk_)) ?_
    exact C0.retI (t := .int) rfl (by simp) rfl d6_10 (by decide) (by decide) ⟨by rw [if_pos c1], rfl⟩
  · refine Endw.st (T' := T0) (g' := (mkF m 10 #[.val (.int x), .val (.int y)] [(.int x)])) (fun tt_ kk_ => XS.icmpNo C0.here C0.hx rfl (C0.dec d6_2) rfl (XT.ii_gt_f c1) (XS.iloadN C0.here C0.hx rfl (C0.dec d6_5) rfl (XS.goto C0.here C0.hx rfl (pc0 := 6) rfl (C0.dec d6_6) (by decide) rfl kk_))) ?_
    exact C0.retI (t := .int) rfl (by simp) rfl d6_10 (by decide) (by decide) ⟨by rw [if_neg c1], rfl⟩
set_option maxRecDepth 65536 in
set_option maxHeartbeats 40000000 in
theorem rm_max (l : Launch) (Z : State) (a0 : Array Value) (EL : List (String × Nat)) (G : Glob Z a0 EL) (x y : Int32) (h : Heap) (O : Ext Z.heap h)  :
    Met l Z EL true (⟨"java/lang/Math", "max", "(II)I"⟩ : MethodName) jdk_29_method_65_code 2 (some .int) [] ({ frames := 0, cells := 0, slots := 0, locals := 0 } : Room) #[(.int x), (.int y)] h [] (fun r h' => r = some (.int (if x < y then y else x)) ∧ h = h') := by
  have hw := G.hw
  obtain ⟨zc, Sc, hzc⟩ := G.cs
  obtain ⟨vf, Sf, hvf⟩ := G.fm
  refine Met.of (by decide +kernel) G.ew O ?_
  intro p e s m below meth c T0 C0 S0
  refine Endw.eq (g' := mkF m 0 #[.val (.int x), .val (.int y)] []) (by first | rfl | (simp [entryFrame, mkF, argsToLocals, own_cI, own_cR, own_cN, own_cJ, own_cD, maxLocals]; done)) ?_
  refine Endw.st (T' := T0) (g' := (mkF m 2 #[.val (.int x), .val (.int y)] [(.int y), (.int x)])) (fun tt_ kk_ => XS.iloadN C0.here C0.hx rfl (C0.dec d7_0) rfl (XS.iloadN C0.here C0.hx rfl (C0.dec d7_1) rfl kk_)) ?_
  by_cases c1 : x < y
  · refine Endw.st (T' := T0) (g' := (mkF m 10 #[.val (.int x), .val (.int y)] [(.int y)])) (fun tt_ kk_ => XS.icmpYes C0.here C0.hx rfl (pc0 := 2) rfl (C0.dec d7_2) rfl (XT.ii_lt_t c1) (by decide) rfl (XS.iloadN C0.here C0.hx rfl (C0.dec d7_9) rfl kk_)) ?_
    exact C0.retI (t := .int) rfl (by simp) rfl d7_10 (by decide) (by decide) ⟨by rw [if_pos c1], rfl⟩
  · refine Endw.st (T' := T0) (g' := (mkF m 10 #[.val (.int x), .val (.int y)] [(.int x)])) (fun tt_ kk_ => XS.icmpNo C0.here C0.hx rfl (C0.dec d7_2) rfl (XT.ii_lt_f c1) (XS.iloadN C0.here C0.hx rfl (C0.dec d7_5) rfl (XS.goto C0.here C0.hx rfl (pc0 := 6) rfl (C0.dec d7_6) (by decide) rfl kk_))) ?_
    exact C0.retI (t := .int) rfl (by simp) rfl d7_10 (by decide) (by decide) ⟨by rw [if_neg c1], rfl⟩
set_option maxRecDepth 65536 in
set_option maxHeartbeats 40000000 in
theorem rm_newLen (l : Launch) (Z : State) (a0 : Array Value) (EL : List (String × Nat)) (G : Glob Z a0 EL) (cap d pr nl : Nat) (hnl : nl = cap + Nat.max d pr) (hp : 0 < nl) (hl : nl ≤ 4000) (h : Heap) (O : Ext Z.heap h)  :
    Met l Z EL true (⟨"jdk/internal/util/ArraysSupport", "newLength", "(III)I"⟩ : MethodName) jdk_48_method_27_code 4 (some .int) [] ({ frames := 1, cells := 0, slots := 0, locals := 14 } : Room) #[(.int (Int32.ofNat cap)), (.int (Int32.ofNat d)), (.int (Int32.ofNat pr))] h [] (fun r h' => r = some (.int (Int32.ofNat nl)) ∧ h = h') := by
  have hw := G.hw
  obtain ⟨zc, Sc, hzc⟩ := G.cs
  obtain ⟨vf, Sf, hvf⟩ := G.fm
  refine Met.of (plainFor_of_name pn_7570706f7274_10) G.ew O ?_
  intro p e s m below meth c T0 C0 S0
  refine Endw.eq (g' := mkF m 0 #[.val (.int (Int32.ofNat cap)), .val (.int (Int32.ofNat d)), .val (.int (Int32.ofNat pr)), .unset] []) (by first | rfl | (simp [entryFrame, mkF, argsToLocals, own_cI, own_cR, own_cN, own_cJ, own_cD, maxLocals]; done)) ?_
  refine Endw.st (T' := T0) (g' := (mkF m 3 #[.val (.int (Int32.ofNat cap)), .val (.int (Int32.ofNat d)), .val (.int (Int32.ofNat pr)), .unset] [(.int (Int32.ofNat pr)), (.int (Int32.ofNat d)), (.int (Int32.ofNat cap))])) (fun tt_ kk_ => XS.iloadN C0.here C0.hx rfl (C0.dec d8_0) rfl (XS.iloadN C0.here C0.hx rfl (C0.dec d8_1) rfl (XS.iloadN C0.here C0.hx rfl (C0.dec d8_2) rfl kk_))) ?_
  refine C0.static (y := (⟨"java/lang/Math", "max", "(II)I"⟩ : MethodName)) (W := 1) (argsL := [(.int (Int32.ofNat d)), (.int (Int32.ofNat pr))]) (rest := [(.int (Int32.ofNat cap))]) (W176 hw) (W177 hw) (W178 hw) (W148 hw) (by decide) (rm_max l Z a0 EL G (Int32.ofNat d) (Int32.ofNat pr) h C0.old) (fun _ => rfl) rfl all0 (by decide) (by decide) (by decide) (by decide) (lenOf pd_2849492949 rfl) rfl (Nat.le_of_ble_eq_true rfl) rfl d8_3 (pc' := 6) rfl ?_
  intro vm1 T1 h1 v1 C1 A1 M1 q1
  rw [(own_max (by have : d ≤ Nat.max d pr := Nat.le_max_left d pr; omega) (by have : pr ≤ Nat.max d pr := Nat.le_max_right d pr; omega))] at q1
  obtain ⟨rfl, rfl⟩ := q1
  show Endw p e below T1 (mkF m 6 #[.val (.int (Int32.ofNat cap)), .val (.int (Int32.ofNat d)), .val (.int (Int32.ofNat pr)), .unset] [(.int (Int32.ofNat (Nat.max d pr))), (.int (Int32.ofNat cap))]) _
  refine Endw.st (T' := T1) (g' := (mkF m 7 #[.val (.int (Int32.ofNat cap)), .val (.int (Int32.ofNat d)), .val (.int (Int32.ofNat pr)), .unset] [(.int ((Int32.ofNat cap) + (Int32.ofNat (Nat.max d pr))))])) (fun tt_ kk_ => XS.iadd C1.here C1.hx rfl (C1.dec d8_6) rfl kk_) ?_
  rw [show ((Int32.ofNat cap) + (Int32.ofNat (Nat.max d pr))) = (Int32.ofNat nl) from by rw [own_add, hnl]]
  refine Endw.st (T' := T1) (g' := (mkF m 20 #[.val (.int (Int32.ofNat cap)), .val (.int (Int32.ofNat d)), .val (.int (Int32.ofNat pr)), .val (.int (Int32.ofNat nl))] [(.int (Int32.ofNat nl))])) (fun tt_ kk_ => XS.istoreN C1.here C1.hx rfl (C1.dec d8_7) rfl (l' := #[.val (.int (Int32.ofNat cap)), .val (.int (Int32.ofNat d)), .val (.int (Int32.ofNat pr)), .val (.int (Int32.ofNat nl))]) rfl (XS.iconst C1.here C1.hx rfl (C1.dec d8_8) (XS.iloadN C1.here C1.hx rfl (C1.dec d8_9) rfl (XS.icmpNo C1.here C1.hx rfl (C1.dec d8_10) rfl (XT.ii_ge_f (own_pos hp (by omega))) (XS.iloadN C1.here C1.hx rfl (C1.dec d8_13) rfl (own_ldcI C1 (W179 hw) rfl d8_14 (XS.icmpNo C1.here C1.hx rfl (C1.dec d8_16) rfl (XT.ii_gt_f (own_small (by omega))) (XS.iloadN C1.here C1.hx rfl (C1.dec d8_19) rfl kk_)))))))) ?_
  exact C1.retI (t := .int) rfl (by simp) rfl d8_20 (by decide) (by decide) ⟨rfl, rfl⟩
set_option maxRecDepth 65536 in
set_option maxHeartbeats 40000000 in
theorem rm_newCap (l : Launch) (Z : State) (a0 : Array Value) (EL : List (String × Nat)) (G : Glob Z a0 EL) (b tb : Addr) (kb : ClassId) (ps : List Int32) (cap kk nc : Nat) (h : Heap) (O : Ext Z.heap h) (B : Sb Z h b tb kb ps cap) (hgt : cap < kk) (hG : Grow cap kk nc) (hnc : nc ≤ 40) :
    Met l Z EL true (⟨"java/lang/AbstractStringBuilder", "newCapacity", "(I)I"⟩ : MethodName) jdk_68_method_10_code 6 (some .int) [] ({ frames := 2, cells := 0, slots := 0, locals := 29 } : Room) #[(.ref b), (.int (Int32.ofNat kk))] h [] (fun r h' => r = some (.int (Int32.ofNat nc)) ∧ h = h') := by
  have hw := G.hw
  obtain ⟨zc, Sc, hzc⟩ := G.cs
  obtain ⟨vf, Sf, hvf⟩ := G.fm
  refine Met.of (plainFor_of_name pn_75696c646572_2) G.ew O ?_
  intro p e s m below meth c T0 C0 S0
  refine Endw.eq (g' := mkF m 0 #[.val (.ref b), .val (.int (Int32.ofNat kk)), .unset, .unset, .unset, .unset] []) (by first | rfl | (simp [entryFrame, mkF, argsToLocals, own_cI, own_cR, own_cN, own_cJ, own_cD, maxLocals]; done)) ?_
  refine Endw.st (T' := T0) (g' := (mkF m 1 #[.val (.ref b), .val (.int (Int32.ofNat kk)), .unset, .unset, .unset, .unset] [(.ref b)])) (fun tt_ kk_ => XS.aloadN C0.here C0.hx rfl (C0.dec d9_0) rfl rfl kk_) ?_
  refine C0.getF (W55 hw) B.2.2.1 d9_1 (pc' := 4) rfl ?_
  intro T1 C1
  show Endw p e below T1 (mkF m 4 #[.val (.ref b), .val (.int (Int32.ofNat kk)), .unset, .unset, .unset, .unset] [(.ref tb)]) _
  refine C1.len B.2.2.2.1 d9_4 (pc' := 5) rfl ?_
  show Endw p e below T1 (mkF m 5 #[.val (.ref b), .val (.int (Int32.ofNat kk)), .unset, .unset, .unset, .unset] [(.int (Int32.ofNat cap))]) _
  refine Endw.st (T' := T1) (g' := (mkF m 8 #[.val (.ref b), .val (.int (Int32.ofNat kk)), .val (.int (Int32.ofNat cap)), .unset, .unset, .unset] [(.ref b), (.int (Int32.ofNat kk))])) (fun tt_ kk_ => XS.istoreN C1.here C1.hx rfl (C1.dec d9_5) rfl (l' := #[.val (.ref b), .val (.int (Int32.ofNat kk)), .val (.int (Int32.ofNat cap)), .unset, .unset, .unset]) rfl (XS.iloadN C1.here C1.hx rfl (C1.dec d9_6) rfl (XS.aloadN C1.here C1.hx rfl (C1.dec d9_7) rfl rfl kk_))) ?_
  refine C1.getF (W57 hw) B.2.1.1 d9_8 (pc' := 11) rfl ?_
  intro T2 C2
  show Endw p e below T2 (mkF m 11 #[.val (.ref b), .val (.int (Int32.ofNat kk)), .val (.int (Int32.ofNat cap)), .unset, .unset, .unset] [(.int (0 : Int32)), (.int (Int32.ofNat kk))]) _
  refine Endw.st (T' := T2) (g' := (mkF m 12 #[.val (.ref b), .val (.int (Int32.ofNat kk)), .val (.int (Int32.ofNat cap)), .unset, .unset, .unset] [(.int ((Int32.ofNat kk) <<< ((0 : Int32) &&& 31)))])) (fun tt_ kk_ => XS.ishl C2.here C2.hx rfl (C2.dec d9_11) rfl kk_) ?_
  rw [own_shl0]
  refine Endw.st (T' := T2) (g' := (mkF m 16 #[.val (.ref b), .val (.int (Int32.ofNat kk)), .val (.int (Int32.ofNat cap)), .val (.int (Int32.ofNat kk)), .unset, .unset] [(.int ((Int32.ofNat kk) - (Int32.ofNat cap)))])) (fun tt_ kk_ => XS.istoreN C2.here C2.hx rfl (C2.dec d9_12) rfl (l' := #[.val (.ref b), .val (.int (Int32.ofNat kk)), .val (.int (Int32.ofNat cap)), .val (.int (Int32.ofNat kk)), .unset, .unset]) rfl (XS.iloadN C2.here C2.hx rfl (C2.dec d9_13) rfl (XS.iloadN C2.here C2.hx rfl (C2.dec d9_14) rfl (XS.isub C2.here C2.hx rfl (C2.dec d9_15) rfl kk_)))) ?_
  rw [show ((Int32.ofNat kk) - (Int32.ofNat cap)) = (Int32.ofNat (kk - cap)) from own_sub (by omega)]
  refine Endw.st (T' := T2) (g' := (mkF m 24 #[.val (.ref b), .val (.int (Int32.ofNat kk)), .val (.int (Int32.ofNat cap)), .val (.int (Int32.ofNat kk)), .val (.int (Int32.ofNat (kk - cap))), .unset] [(.ref b), (.int (2 : Int32)), (.int (Int32.ofNat cap)), (.int (Int32.ofNat (kk - cap))), (.int (Int32.ofNat cap))])) (fun tt_ kk_ => XS.istore C2.here C2.hx rfl (C2.dec d9_16) rfl (l' := #[.val (.ref b), .val (.int (Int32.ofNat kk)), .val (.int (Int32.ofNat cap)), .val (.int (Int32.ofNat kk)), .val (.int (Int32.ofNat (kk - cap))), .unset]) rfl (XS.iloadN C2.here C2.hx rfl (C2.dec d9_18) rfl (XS.iload C2.here C2.hx rfl (C2.dec d9_19) rfl (XS.iloadN C2.here C2.hx rfl (C2.dec d9_21) rfl (XS.iconst C2.here C2.hx rfl (C2.dec d9_22) (XS.aloadN C2.here C2.hx rfl (C2.dec d9_23) rfl rfl kk_)))))) ?_
  refine C2.getF (W57 hw) B.2.1.1 d9_24 (pc' := 27) rfl ?_
  intro T3 C3
  show Endw p e below T3 (mkF m 27 #[.val (.ref b), .val (.int (Int32.ofNat kk)), .val (.int (Int32.ofNat cap)), .val (.int (Int32.ofNat kk)), .val (.int (Int32.ofNat (kk - cap))), .unset] [(.int (0 : Int32)), (.int (2 : Int32)), (.int (Int32.ofNat cap)), (.int (Int32.ofNat (kk - cap))), (.int (Int32.ofNat cap))]) _
  refine Endw.st (T' := T3) (g' := (mkF m 28 #[.val (.ref b), .val (.int (Int32.ofNat kk)), .val (.int (Int32.ofNat cap)), .val (.int (Int32.ofNat kk)), .val (.int (Int32.ofNat (kk - cap))), .unset] [(.int ((2 : Int32) <<< ((0 : Int32) &&& 31))), (.int (Int32.ofNat cap)), (.int (Int32.ofNat (kk - cap))), (.int (Int32.ofNat cap))])) (fun tt_ kk_ => XS.ishl C3.here C3.hx rfl (C3.dec d9_27) rfl kk_) ?_
  rw [own_shl0]
  refine Endw.st (T' := T3) (g' := (mkF m 29 #[.val (.ref b), .val (.int (Int32.ofNat kk)), .val (.int (Int32.ofNat cap)), .val (.int (Int32.ofNat kk)), .val (.int (Int32.ofNat (kk - cap))), .unset] [(.int ((Int32.ofNat cap) + (2 : Int32))), (.int (Int32.ofNat (kk - cap))), (.int (Int32.ofNat cap))])) (fun tt_ kk_ => XS.iadd C3.here C3.hx rfl (C3.dec d9_28) rfl kk_) ?_
  rw [show ((Int32.ofNat cap) + (2 : Int32)) = (Int32.ofNat (cap + 2)) from own_add cap 2]
  refine C3.static (y := (⟨"jdk/internal/util/ArraysSupport", "newLength", "(III)I"⟩ : MethodName)) (W := 0) (argsL := [(.int (Int32.ofNat cap)), (.int (Int32.ofNat (kk - cap))), (.int (Int32.ofNat (cap + 2)))]) (rest := []) (W172 hw) (W173 hw) (W175 hw) (W174 hw) (by decide) (rm_newLen l Z a0 EL G cap (kk - cap) (cap + 2) nc hG.2 (by have := hG.1; omega) (by omega) h C3.old) (fun _ => rfl) rfl all0 (by decide) (by decide) (by decide) (by decide) (lenOf pd_284949492949 rfl) rfl (Nat.le_of_ble_eq_true rfl) rfl d9_29 (pc' := 32) rfl ?_
  intro vm4 T4 h4 v4 C4 A4 M4 q4
  obtain ⟨rfl, rfl⟩ := q4
  show Endw p e below T4 (mkF m 32 #[.val (.ref b), .val (.int (Int32.ofNat kk)), .val (.int (Int32.ofNat cap)), .val (.int (Int32.ofNat kk)), .val (.int (Int32.ofNat (kk - cap))), .unset] [(.int (Int32.ofNat nc))]) _
  refine Endw.st (T' := T4) (g' := (mkF m 54 #[.val (.ref b), .val (.int (Int32.ofNat kk)), .val (.int (Int32.ofNat cap)), .val (.int (Int32.ofNat kk)), .val (.int (Int32.ofNat (kk - cap))), .val (.int (Int32.ofNat nc))] [(.ref b), (.int (Int32.ofNat nc))])) (fun tt_ kk_ => XS.istore C4.here C4.hx rfl (C4.dec d9_32) rfl (l' := #[.val (.ref b), .val (.int (Int32.ofNat kk)), .val (.int (Int32.ofNat cap)), .val (.int (Int32.ofNat kk)), .val (.int (Int32.ofNat (kk - cap))), .val (.int (Int32.ofNat nc))]) rfl (XS.iload C4.here C4.hx rfl (C4.dec d9_34) rfl (own_ldcI C4 (W180 hw) rfl d9_36 (XS.icmpYes C4.here C4.hx rfl (pc0 := 38) rfl (C4.dec d9_38) rfl (XT.ii_ne_t (own_nmax (by omega))) (by decide) rfl (XS.iload C4.here C4.hx rfl (C4.dec d9_51) rfl (XS.aloadN C4.here C4.hx rfl (C4.dec d9_53) rfl rfl kk_)))))) ?_
  refine C4.getF (W57 hw) B.2.1.1 d9_54 (pc' := 57) rfl ?_
  intro T5 C5
  show Endw p e below T5 (mkF m 57 #[.val (.ref b), .val (.int (Int32.ofNat kk)), .val (.int (Int32.ofNat cap)), .val (.int (Int32.ofNat kk)), .val (.int (Int32.ofNat (kk - cap))), .val (.int (Int32.ofNat nc))] [(.int (0 : Int32)), (.int (Int32.ofNat nc))]) _
  refine Endw.st (T' := T5) (g' := (mkF m 58 #[.val (.ref b), .val (.int (Int32.ofNat kk)), .val (.int (Int32.ofNat cap)), .val (.int (Int32.ofNat kk)), .val (.int (Int32.ofNat (kk - cap))), .val (.int (Int32.ofNat nc))] [(.int ((Int32.ofNat nc) >>> ((0 : Int32) &&& 31)))])) (fun tt_ kk_ => XS.ishr C5.here C5.hx rfl (C5.dec d9_57) rfl kk_) ?_
  rw [own_shr0]
  exact C5.retI (t := .int) rfl (by simp) rfl d9_58 (by decide) (by decide) ⟨rfl, rfl⟩
set_option maxRecDepth 65536 in
set_option maxHeartbeats 40000000 in
theorem rm_copyOf (l : Launch) (Z : State) (a0 : Array Value) (EL : List (String × Nat)) (G : Glob Z a0 EL) (t : Addr) (kb : ClassId) (ps : List Int32) (cap nc : Nat) (h : Heap) (O : Ext Z.heap h) (V : Arv Z h t kb .byte (Int32.ofNat cap) (bys ps) (.int 0)) (hle : ps.length ≤ cap) (hgt : cap < nc) (hnc : nc ≤ 40) :
    Met l Z EL true (⟨"java/util/Arrays", "copyOf", "([BI)[B"⟩ : MethodName) jdk_65_method_121_code 3 (some (.array .byte)) [] ({ frames := 1, cells := 1, slots := 40, locals := 18 } : Room) #[(.ref t), (.int (Int32.ofNat nc))] h [] (fun r h' => ∃ (d : Addr) (kd : ClassId), r = some (.ref d) ∧ Keep h h' [] ∧ h.size ≤ d ∧ Z.heap.size ≤ d ∧ Arv Z h' d kd .byte (Int32.ofNat nc) (bys ps) (.int 0)) := by
  have hw := G.hw
  obtain ⟨zc, Sc, hzc⟩ := G.cs
  obtain ⟨vf, Sf, hvf⟩ := G.fm
  refine Met.of (plainFor_of_name pn_417272617973_9) G.ew O ?_
  intro p e s m below meth c T0 C0 S0
  refine Endw.eq (g' := mkF m 0 #[.val (.ref t), .val (.int (Int32.ofNat nc)), .unset] []) (by first | rfl | (simp [entryFrame, mkF, argsToLocals, own_cI, own_cR, own_cN, own_cJ, own_cD, maxLocals]; done)) ?_
  refine Endw.st (T' := T0) (g' := (mkF m 2 #[.val (.ref t), .val (.int (Int32.ofNat nc)), .unset] [(.ref t), (.int (Int32.ofNat nc))])) (fun tt_ kk_ => XS.iloadN C0.here C0.hx rfl (C0.dec d10_0) rfl (XS.aloadN C0.here C0.hx rfl (C0.dec d10_1) rfl rfl kk_)) ?_
  refine C0.len V d10_2 (pc' := 3) rfl ?_
  show Endw p e below T0 (mkF m 3 #[.val (.ref t), .val (.int (Int32.ofNat nc)), .unset] [(.int (Int32.ofNat cap)), (.int (Int32.ofNat nc))]) _
  refine Endw.st (T' := T0) (g' := (mkF m 15 #[.val (.ref t), .val (.int (Int32.ofNat nc)), .unset] [(.int (Int32.ofNat nc))])) (fun tt_ kk_ => XS.icmpYes C0.here C0.hx rfl (pc0 := 3) rfl (C0.dec d10_3) rfl (XT.ii_ne_t (fun q => absurd ((own_ieq (by omega) (by omega)).mp q) (by omega))) (by decide) rfl (XS.iloadN C0.here C0.hx rfl (C0.dec d10_14) rfl kk_)) ?_
  refine C0.newA (aty := .byte) (z := (Int32.ofNat nc)) (cap := 40) (vs := []) (W22 hw) d10_15 (pc' := 17) rfl (own_nn (by omega)) (by rw [own_nc (by omega)]; exact hnc) (by decide) (by decide) (by decide) rfl ?_
  intro T1 h1 a1 kA1 C1 K1 A1 ge1 zg1 V1 S1
  show Endw p e below T1 (mkF m 17 #[.val (.ref t), .val (.int (Int32.ofNat nc)), .unset] [(.ref a1)]) _
  refine Endw.st (T' := T1) (g' := (mkF m 23 #[.val (.ref t), .val (.int (Int32.ofNat nc)), .val (.ref a1)] [(.ref t), (.int (0 : Int32)), (.ref a1), (.int (0 : Int32)), (.ref t)])) (fun tt_ kk_ => XS.astoreN C1.here C1.hx rfl (C1.dec d10_17) rfl rfl (l' := #[.val (.ref t), .val (.int (Int32.ofNat nc)), .val (.ref a1)]) rfl (XS.aloadN C1.here C1.hx rfl (C1.dec d10_18) rfl rfl (XS.iconst C1.here C1.hx rfl (C1.dec d10_19) (XS.aloadN C1.here C1.hx rfl (C1.dec d10_20) rfl rfl (XS.iconst C1.here C1.hx rfl (C1.dec d10_21) (XS.aloadN C1.here C1.hx rfl (C1.dec d10_22) rfl rfl kk_)))))) ?_
  have f2 := (V.keep K1 nin0)
  refine C1.len f2 d10_23 (pc' := 24) rfl ?_
  show Endw p e below T1 (mkF m 24 #[.val (.ref t), .val (.int (Int32.ofNat nc)), .val (.ref a1)] [(.int (Int32.ofNat cap)), (.int (0 : Int32)), (.ref a1), (.int (0 : Int32)), (.ref t)]) _
  refine Endw.st (T' := T1) (g' := (mkF m 25 #[.val (.ref t), .val (.int (Int32.ofNat nc)), .val (.ref a1)] [(.int (Int32.ofNat nc)), (.int (Int32.ofNat cap)), (.int (0 : Int32)), (.ref a1), (.int (0 : Int32)), (.ref t)])) (fun tt_ kk_ => XS.iloadN C1.here C1.hx rfl (C1.dec d10_24) rfl kk_) ?_
  refine C1.static (y := (⟨"java/lang/Math", "min", "(II)I"⟩ : MethodName)) (W := 4) (argsL := [(.int (Int32.ofNat cap)), (.int (Int32.ofNat nc))]) (rest := [(.int (0 : Int32)), (.ref a1), (.int (0 : Int32)), (.ref t)]) (W146 hw) (W147 hw) (W149 hw) (W148 hw) (by decide) (rm_min l Z a0 EL G (Int32.ofNat cap) (Int32.ofNat nc) h1 C1.old) (fun _ => rfl) rfl all0 (by decide) (by decide) (by decide) (by decide) (lenOf pd_2849492949 rfl) rfl (Nat.le_of_ble_eq_true rfl) rfl d10_25 (pc' := 28) rfl ?_
  intro vm3 T3 h3 v3 C3 A3 M3 q3
  rw [(own_min_l (by omega) (by omega))] at q3
  obtain ⟨rfl, rfl⟩ := q3
  show Endw p e below T3 (mkF m 28 #[.val (.ref t), .val (.int (Int32.ofNat nc)), .val (.ref a1)] [(.int (Int32.ofNat cap)), (.int (0 : Int32)), (.ref a1), (.int (0 : Int32)), (.ref t)]) _
  have f5 := (A3.safe V1.lt S1)
  refine C3.acopyNew (cs := ps) (cap := cap) (N := nc) (M := cap) (W := 0) (W150 hw) (W105 hw) (W103 hw) (W104 hw) f2 V1 hle (Nat.le_refl _) (by omega) (by omega) (by omega) zg1 f5 rfl d10_28 (pc' := 31) rfl (by decide) (Nat.le_of_ble_eq_true rfl) (by decide) ?_
  intro T4 h4 C4 K4 A4 V4
  show Endw p e below T4 (mkF m 31 #[.val (.ref t), .val (.int (Int32.ofNat nc)), .val (.ref a1)] []) _
  refine Endw.st (T' := T4) (g' := (mkF m 32 #[.val (.ref t), .val (.int (Int32.ofNat nc)), .val (.ref a1)] [(.ref a1)])) (fun tt_ kk_ => XS.aloadN C4.here C4.hx rfl (C4.dec d10_31) rfl rfl kk_) ?_
  exact C4.retA (t := (.array .byte)) rfl rfl rfl rfl d10_32 (by decide) (by decide) ⟨a1, kA1, rfl, (Keep.trans (Keep.trans (Keep.refl h []) K1 all0) K4 (allS (Or.inr ge1) all0)), ge1, zg1, V4⟩
set_option maxRecDepth 65536 in
set_option maxHeartbeats 40000000 in
theorem rm_ensureG (l : Launch) (Z : State) (a0 : Array Value) (EL : List (String × Nat)) (G : Glob Z a0 EL) (b tb : Addr) (kb : ClassId) (ps : List Int32) (cap kk nc : Nat) (h : Heap) (O : Ext Z.heap h) (B : Sb Z h b tb kb ps cap) (hgt : cap < kk) (hG : Grow cap kk nc) (hnc : nc ≤ 40) (hk4 : kk ≤ 4000) (zb : Z.heap.size ≤ b) :
    Met l Z EL true (⟨"java/lang/AbstractStringBuilder", "ensureCapacityInternal", "(I)V"⟩ : MethodName) jdk_68_method_9_code 3 none [] ({ frames := 3, cells := 1, slots := 40, locals := 48 } : Room) #[(.ref b), (.int (Int32.ofNat kk))] h [] (fun r h' => r = none ∧ ∃ (tn : Addr) (kn : ClassId), Keep h h' [b] ∧ h.size ≤ tn ∧ Z.heap.size ≤ tn ∧ Sb Z h' b tn kn ps nc) := by
  have hw := G.hw
  obtain ⟨zc, Sc, hzc⟩ := G.cs
  obtain ⟨vf, Sf, hvf⟩ := G.fm
  refine Met.of (plainFor_of_name pn_75696c646572_2) G.ew O ?_
  intro p e s m below meth c T0 C0 S0
  refine Endw.eq (g' := mkF m 0 #[.val (.ref b), .val (.int (Int32.ofNat kk)), .unset] []) (by first | rfl | (simp [entryFrame, mkF, argsToLocals, own_cI, own_cR, own_cN, own_cJ, own_cD, maxLocals]; done)) ?_
  refine Endw.st (T' := T0) (g' := (mkF m 1 #[.val (.ref b), .val (.int (Int32.ofNat kk)), .unset] [(.ref b)])) (fun tt_ kk_ => XS.aloadN C0.here C0.hx rfl (C0.dec d5_0) rfl rfl kk_) ?_
  refine C0.getF (W55 hw) B.2.2.1 d5_1 (pc' := 4) rfl ?_
  intro T1 C1
  show Endw p e below T1 (mkF m 4 #[.val (.ref b), .val (.int (Int32.ofNat kk)), .unset] [(.ref tb)]) _
  refine C1.len B.2.2.2.1 d5_4 (pc' := 5) rfl ?_
  show Endw p e below T1 (mkF m 5 #[.val (.ref b), .val (.int (Int32.ofNat kk)), .unset] [(.int (Int32.ofNat cap))]) _
  refine Endw.st (T' := T1) (g' := (mkF m 6 #[.val (.ref b), .val (.int (Int32.ofNat kk)), .unset] [(.ref b), (.int (Int32.ofNat cap))])) (fun tt_ kk_ => XS.aloadN C1.here C1.hx rfl (C1.dec d5_5) rfl rfl kk_) ?_
  refine C1.getF (W57 hw) B.2.1.1 d5_6 (pc' := 9) rfl ?_
  intro T2 C2
  show Endw p e below T2 (mkF m 9 #[.val (.ref b), .val (.int (Int32.ofNat kk)), .unset] [(.int (0 : Int32)), (.int (Int32.ofNat cap))]) _
  refine Endw.st (T' := T2) (g' := (mkF m 10 #[.val (.ref b), .val (.int (Int32.ofNat kk)), .unset] [(.int ((Int32.ofNat cap) >>> ((0 : Int32) &&& 31)))])) (fun tt_ kk_ => XS.ishr C2.here C2.hx rfl (C2.dec d5_9) rfl kk_) ?_
  rw [own_shr0]
  refine Endw.st (T' := T2) (g' := (mkF m 19 #[.val (.ref b), .val (.int (Int32.ofNat kk)), .val (.int (Int32.ofNat cap))] [(.ref b), (.ref b)])) (fun tt_ kk_ => XS.istoreN C2.here C2.hx rfl (C2.dec d5_10) rfl (l' := #[.val (.ref b), .val (.int (Int32.ofNat kk)), .val (.int (Int32.ofNat cap))]) rfl (XS.iloadN C2.here C2.hx rfl (C2.dec d5_11) rfl (XS.iloadN C2.here C2.hx rfl (C2.dec d5_12) rfl (XS.isub C2.here C2.hx rfl (C2.dec d5_13) rfl (XS.ifNo C2.here C2.hx rfl (C2.dec d5_14) rfl (XT.i0_le_f (own_sub_gt hgt hk4)) (XS.aloadN C2.here C2.hx rfl (C2.dec d5_17) rfl rfl (XS.aloadN C2.here C2.hx rfl (C2.dec d5_18) rfl rfl kk_))))))) ?_
  refine C2.getF (W55 hw) B.2.2.1 d5_19 (pc' := 22) rfl ?_
  intro T3 C3
  show Endw p e below T3 (mkF m 22 #[.val (.ref b), .val (.int (Int32.ofNat kk)), .val (.int (Int32.ofNat cap))] [(.ref tb), (.ref b)]) _
  refine Endw.st (T' := T3) (g' := (mkF m 24 #[.val (.ref b), .val (.int (Int32.ofNat kk)), .val (.int (Int32.ofNat cap))] [(.int (Int32.ofNat kk)), (.ref b), (.ref tb), (.ref b)])) (fun tt_ kk_ => XS.aloadN C3.here C3.hx rfl (C3.dec d5_22) rfl rfl (XS.iloadN C3.here C3.hx rfl (C3.dec d5_23) rfl kk_)) ?_
  refine C3.priv (y := (⟨"java/lang/AbstractStringBuilder", "newCapacity", "(I)I"⟩ : MethodName)) (W := 2) (a := b) (argsL := [(.int (Int32.ofNat kk))]) (rest := [(.ref tb), (.ref b)]) (W167 hw) (W168 hw) (own_plain (y := ({ cls := "java/lang/AbstractStringBuilder", name := "ensureCapacityInternal", desc := "(I)V" } : Jvm.MethodName)) (W84 hw) (W82 hw)) (W169 hw) (W171 hw) (W51 hw) (by decide) (rm_newCap l Z a0 EL G b tb kb ps cap kk nc h C3.old B hgt hG hnc) (fun _ => rfl) rfl B.1 all0 (by decide) (by decide) (by decide) (by decide) (lenOf pd_28492949 rfl) rfl (Nat.le_of_ble_eq_true rfl) rfl d5_24 (pc' := 27) rfl ?_
  intro vm4 T4 h4 v4 C4 A4 M4 q4
  obtain ⟨rfl, rfl⟩ := q4
  show Endw p e below T4 (mkF m 27 #[.val (.ref b), .val (.int (Int32.ofNat kk)), .val (.int (Int32.ofNat cap))] [(.int (Int32.ofNat nc)), (.ref tb), (.ref b)]) _
  refine Endw.st (T' := T4) (g' := (mkF m 28 #[.val (.ref b), .val (.int (Int32.ofNat kk)), .val (.int (Int32.ofNat cap))] [(.ref b), (.int (Int32.ofNat nc)), (.ref tb), (.ref b)])) (fun tt_ kk_ => XS.aloadN C4.here C4.hx rfl (C4.dec d5_27) rfl rfl kk_) ?_
  refine C4.getF (W57 hw) B.2.1.1 d5_28 (pc' := 31) rfl ?_
  intro T5 C5
  show Endw p e below T5 (mkF m 31 #[.val (.ref b), .val (.int (Int32.ofNat kk)), .val (.int (Int32.ofNat cap))] [(.int (0 : Int32)), (.int (Int32.ofNat nc)), (.ref tb), (.ref b)]) _
  refine Endw.st (T' := T5) (g' := (mkF m 32 #[.val (.ref b), .val (.int (Int32.ofNat kk)), .val (.int (Int32.ofNat cap))] [(.int ((Int32.ofNat nc) <<< ((0 : Int32) &&& 31))), (.ref tb), (.ref b)])) (fun tt_ kk_ => XS.ishl C5.here C5.hx rfl (C5.dec d5_31) rfl kk_) ?_
  rw [own_shl0]
  refine C5.static (y := (⟨"java/util/Arrays", "copyOf", "([BI)[B"⟩ : MethodName)) (W := 1) (argsL := [(.ref tb), (.int (Int32.ofNat nc))]) (rest := [(.ref b)]) (W181 hw) (W182 hw) (W183 hw) (W138 hw) (by decide) (rm_copyOf l Z a0 EL G tb kb ps cap nc h C5.old B.2.2.2.1 B.le (by have := hG.1; omega) hnc) (fun _ => rfl) rfl all0 (by decide) (by decide) (by decide) (by decide) (lenOf pd_285b4249295b42 rfl) rfl (Nat.le_of_ble_eq_true rfl) rfl d5_32 (pc' := 35) rfl ?_
  intro vm6 T6 h6 v6 C6 A6 M6 q6
  obtain ⟨d6, kd6, rfl, K6, ge6, zg6, V6⟩ := q6
  show Endw p e below T6 (mkF m 35 #[.val (.ref b), .val (.int (Int32.ofNat kk)), .val (.int (Int32.ofNat cap))] [(.ref d6), (.ref b)]) _
  have f7 := (B.1.keep K6)
  have f8 := (B.2.2.1.keep K6 nin0)
  have f10 := (B.2.1.1.keep K6 nin0)
  have f11 := (B.2.1.2.keep K6 nin0)
  refine C6.putF (v := (.ref d6)) (W55 hw) f8 f7 (Or.inl (W56 hw)) (W42 hw) (ty := (.array .byte)) (by decide) rfl rfl zb (Safe.exa C6.warm.alike f7 (by decide) (by decide)) d5_35 (pc' := 38) rfl ?_
  intro T9 h9 C9 K9 A9 Wr9
  have f12 := f8.same Wr9
  have f13 := f10.other Wr9 (Or.inr (slot_ne (Or.inl (W58 hw)) (Or.inl (W56 hw)) (by decide) (t := .byte) (t' := (.array .byte)) (by decide) (by decide)))
  have f14 := f11.other Wr9 (Or.inr (slot_ne (Or.inl (W80 hw)) (Or.inl (W56 hw)) (by decide) (t := .int) (t' := (.array .byte)) (by decide) (by decide)))
  show Endw p e below T9 (mkF m 38 #[.val (.ref b), .val (.int (Int32.ofNat kk)), .val (.int (Int32.ofNat cap))] []) _
  have f15 := (V6.keep K9 (ninS (Ne.symm (Nat.ne_of_lt (Nat.lt_of_lt_of_le B.1.lt ge6))) nin0))
  have f16 := (f7.keep K9)
  exact C9.retV d5_38 (by decide) (by decide) ⟨rfl, d6, kd6, (Keep.trans (Keep.trans (Keep.refl h [b]) K6 all0) K9 (allS (Or.inl (by simp)) all0)), ge6, zg6, ⟨f16, ⟨f13, f14⟩, f12, f15, B.2.2.2.2.1, by have := B.le; have := hG.1; omega, by omega⟩⟩
set_option maxRecDepth 65536 in
set_option maxHeartbeats 40000000 in
theorem rm_asbAppend (l : Launch) (Z : State) (a0 : Array Value) (EL : List (String × Nat)) (G : Glob Z a0 EL) (b tb : Addr) (kb : ClassId) (ps : List Int32) (cap : Nat) (a t : Addr) (kc : ClassId) (cs : List Int32) (h : Heap) (O : Ext Z.heap h) (B : Sb Z h b tb kb ps cap) (S : Str Z h a t kc cs) (hle : ps.length + cs.length ≤ cap) (zb : Z.heap.size ≤ b) (zt : Z.heap.size ≤ tb) :
    Met l Z EL true (⟨"java/lang/AbstractStringBuilder", "append", "(Ljava/lang/String;)Ljava/lang/AbstractStringBuilder;"⟩ : MethodName) jdk_68_method_22_code 3 (some (.object "java/lang/AbstractStringBuilder")) [] ({ frames := 3, cells := 0, slots := 0, locals := 47 } : Room) #[(.ref b), (.ref a)] h [tb] (fun r h' => r = some (.ref b) ∧ Keep h h' [b, tb] ∧ Sb Z h' b tb kb (ps ++ cs) cap) := by
  have hw := G.hw
  obtain ⟨zc, Sc, hzc⟩ := G.cs
  obtain ⟨vf, Sf, hvf⟩ := G.fm
  refine Met.of (plainFor_of_name pn_75696c646572_2) G.ew O ?_
  intro p e s m below meth c T0 C0 S0
  refine Endw.eq (g' := mkF m 0 #[.val (.ref b), .val (.ref a), .unset] []) (by first | rfl | (simp [entryFrame, mkF, argsToLocals, own_cI, own_cR, own_cN, own_cJ, own_cD, maxLocals]; done)) ?_
  refine Endw.st (T' := T0) (g' := (mkF m 10 #[.val (.ref b), .val (.ref a), .unset] [(.ref a)])) (fun tt_ kk_ => XS.aloadN C0.here C0.hx rfl (C0.dec d11_0) rfl rfl (XS.ifnonnullYes C0.here C0.hx rfl (pc0 := 1) rfl (C0.dec d11_1) rfl (by decide) rfl (XS.aloadN C0.here C0.hx rfl (C0.dec d11_9) rfl rfl kk_))) ?_
  refine C0.virtual (y := (⟨"java/lang/String", "length", "()I"⟩ : MethodName)) (z := (⟨"java/lang/String", "length", "()I"⟩ : MethodName)) (W := 0) (a := a) (argsL := []) (rest := []) (W69 hw) (W70 hw) (fun _ q => notFace_of_selects (args := #[]) (mvT q (W72 hw))) (W72 hw) (W71 hw) (W73 hw) (W5 hw) (by decide) (rm_strLen l Z a0 EL G a t kc cs h C0.old S) (fun _ => rfl) rfl S.1 all0 (by decide) (by decide) (by decide) (by decide) (lenOf pd_282949 rfl) rfl (Nat.le_of_ble_eq_true rfl) rfl d11_10 (pc' := 13) rfl ?_
  intro vm1 T1 h1 v1 C1 A1 M1 q1
  obtain ⟨rfl, rfl⟩ := q1
  show Endw p e below T1 (mkF m 13 #[.val (.ref b), .val (.ref a), .unset] [(.int (Int32.ofNat cs.length))]) _
  refine Endw.st (T' := T1) (g' := (mkF m 16 #[.val (.ref b), .val (.ref a), .val (.int (Int32.ofNat cs.length))] [(.ref b), (.ref b)])) (fun tt_ kk_ => XS.istoreN C1.here C1.hx rfl (C1.dec d11_13) rfl (l' := #[.val (.ref b), .val (.ref a), .val (.int (Int32.ofNat cs.length))]) rfl (XS.aloadN C1.here C1.hx rfl (C1.dec d11_14) rfl rfl (XS.aloadN C1.here C1.hx rfl (C1.dec d11_15) rfl rfl kk_))) ?_
  refine C1.getF (W79 hw) B.2.1.2 d11_16 (pc' := 19) rfl ?_
  intro T2 C2
  show Endw p e below T2 (mkF m 19 #[.val (.ref b), .val (.ref a), .val (.int (Int32.ofNat cs.length))] [(.int (Int32.ofNat ps.length)), (.ref b)]) _
  refine Endw.st (T' := T2) (g' := (mkF m 21 #[.val (.ref b), .val (.ref a), .val (.int (Int32.ofNat cs.length))] [(.int ((Int32.ofNat ps.length) + (Int32.ofNat cs.length))), (.ref b)])) (fun tt_ kk_ => XS.iloadN C2.here C2.hx rfl (C2.dec d11_19) rfl (XS.iadd C2.here C2.hx rfl (C2.dec d11_20) rfl kk_)) ?_
  rw [show ((Int32.ofNat ps.length) + (Int32.ofNat cs.length)) = (Int32.ofNat (ps ++ cs).length) from by rw [own_add, List.length_append]]
  refine C2.priv (y := (⟨"java/lang/AbstractStringBuilder", "ensureCapacityInternal", "(I)V"⟩ : MethodName)) (W := 0) (a := b) (argsL := [(.int (Int32.ofNat (ps ++ cs).length))]) (rest := []) (W81 hw) (W82 hw) (own_plain (y := ({ cls := "java/lang/AbstractStringBuilder", name := "ensureCapacityInternal", desc := "(I)V" } : Jvm.MethodName)) (W84 hw) (W82 hw)) (W83 hw) (W85 hw) (W51 hw) (by decide) (rm_ensure l Z a0 EL G b tb kb ps cap (ps ++ cs).length h C2.old B (by rw [List.length_append]; exact hle)) (fun _ => rfl) rfl B.1 all0 (by decide) (by decide) (by decide) (by decide) (lenOf pd_28492956 rfl) rfl (Nat.le_of_ble_eq_true rfl) rfl d11_21 (pc' := 24) rfl ?_
  intro vm3 T3 h3 v3 C3 A3 M3 q3
  obtain ⟨rfl, rfl⟩ := q3
  show Endw p e below T3 (mkF m 24 #[.val (.ref b), .val (.ref a), .val (.int (Int32.ofNat cs.length))] []) _
  refine Endw.st (T' := T3) (g' := (mkF m 26 #[.val (.ref b), .val (.ref a), .val (.int (Int32.ofNat cs.length))] [(.ref b), (.ref b)])) (fun tt_ kk_ => XS.aloadN C3.here C3.hx rfl (C3.dec d11_24) rfl rfl (XS.aloadN C3.here C3.hx rfl (C3.dec d11_25) rfl rfl kk_)) ?_
  refine C3.getF (W79 hw) B.2.1.2 d11_26 (pc' := 29) rfl ?_
  intro T4 C4
  show Endw p e below T4 (mkF m 29 #[.val (.ref b), .val (.ref a), .val (.int (Int32.ofNat cs.length))] [(.int (Int32.ofNat ps.length)), (.ref b)]) _
  refine Endw.st (T' := T4) (g' := (mkF m 30 #[.val (.ref b), .val (.ref a), .val (.int (Int32.ofNat cs.length))] [(.ref a), (.int (Int32.ofNat ps.length)), (.ref b)])) (fun tt_ kk_ => XS.aloadN C4.here C4.hx rfl (C4.dec d11_29) rfl rfl kk_) ?_
  have f6 := (A3.safe B.2.2.2.1.lt (A1.safe B.2.2.2.1.lt (S0 tb (by simp))))
  refine C4.priv (y := (⟨"java/lang/AbstractStringBuilder", "putStringAt", "(ILjava/lang/String;)V"⟩ : MethodName)) (W := 0) (a := b) (argsL := [(.int (Int32.ofNat ps.length)), (.ref a)]) (rest := []) (W86 hw) (W87 hw) (own_plain (y := ({ cls := "java/lang/AbstractStringBuilder", name := "ensureCapacityInternal", desc := "(I)V" } : Jvm.MethodName)) (W84 hw) (W82 hw)) (W88 hw) (W90 hw) (W51 hw) (by decide) (rm_putStr l Z a0 EL G b tb kb ps cap a t kc cs h C4.old B S hle zt) (fun _ => rfl) rfl B.1 (allS ⟨B.2.2.2.1.lt, f6⟩ all0) (by decide) (by decide) (by decide) (by decide) (lenOf pd_12 rfl) rfl (Nat.le_of_ble_eq_true rfl) rfl d11_30 (pc' := 33) rfl ?_
  intro vm5 T5 h5 v5 C5 A5 M5 q5
  obtain ⟨rfl, K5, V5⟩ := q5
  show Endw p e below T5 (mkF m 33 #[.val (.ref b), .val (.ref a), .val (.int (Int32.ofNat cs.length))] []) _
  refine Endw.st (T' := T5) (g' := (mkF m 35 #[.val (.ref b), .val (.ref a), .val (.int (Int32.ofNat cs.length))] [(.ref b), (.ref b)])) (fun tt_ kk_ => XS.aloadN C5.here C5.hx rfl (C5.dec d11_33) rfl rfl (XS.dup C5.here C5.hx rfl (C5.dec d11_34) rfl rfl kk_)) ?_
  have f7 := (B.2.1.2.keep K5 (ninS (RoadKit.Exa.neArv B.1 B.2.2.2.1 (W42 hw)) nin0))
  refine C5.getF (W79 hw) f7 d11_35 (pc' := 38) rfl ?_
  intro T8 C8
  show Endw p e below T8 (mkF m 38 #[.val (.ref b), .val (.ref a), .val (.int (Int32.ofNat cs.length))] [(.int (Int32.ofNat ps.length)), (.ref b)]) _
  refine Endw.st (T' := T8) (g' := (mkF m 40 #[.val (.ref b), .val (.ref a), .val (.int (Int32.ofNat cs.length))] [(.int ((Int32.ofNat ps.length) + (Int32.ofNat cs.length))), (.ref b)])) (fun tt_ kk_ => XS.iloadN C8.here C8.hx rfl (C8.dec d11_38) rfl (XS.iadd C8.here C8.hx rfl (C8.dec d11_39) rfl kk_)) ?_
  rw [show ((Int32.ofNat ps.length) + (Int32.ofNat cs.length)) = (Int32.ofNat (ps ++ cs).length) from by rw [own_add, List.length_append]]
  have f9 := (B.1.keep K5)
  have f11 := (B.2.1.1.keep K5 (ninS (RoadKit.Exa.neArv B.1 B.2.2.2.1 (W42 hw)) nin0))
  have f12 := (B.2.2.1.keep K5 (ninS (RoadKit.Exa.neArv B.1 B.2.2.2.1 (W42 hw)) nin0))
  refine C8.putF (v := (.int (Int32.ofNat (ps ++ cs).length))) (W79 hw) f7 f9 (Or.inl (W80 hw)) (W42 hw) (ty := .int) (by decide) rfl rfl zb (Safe.exa C8.warm.alike f9 (by decide) (by decide)) d11_40 (pc' := 43) rfl ?_
  intro T10 h10 C10 K10 A10 Wr10
  have f13 := f7.same Wr10
  have f14 := f11.other Wr10 (Or.inr (slot_ne (Or.inl (W58 hw)) (Or.inl (W80 hw)) (by decide) (t := .byte) (t' := .int) (by decide) (by decide)))
  have f15 := f12.other Wr10 (Or.inr (slot_ne (Or.inl (W56 hw)) (Or.inl (W80 hw)) (by decide) (t := (.array .byte)) (t' := .int) (by decide) (by decide)))
  show Endw p e below T10 (mkF m 43 #[.val (.ref b), .val (.ref a), .val (.int (Int32.ofNat cs.length))] []) _
  refine Endw.st (T' := T10) (g' := (mkF m 44 #[.val (.ref b), .val (.ref a), .val (.int (Int32.ofNat cs.length))] [(.ref b)])) (fun tt_ kk_ => XS.aloadN C10.here C10.hx rfl (C10.dec d11_43) rfl rfl kk_) ?_
  have f16 := (f9.keep K10)
  have f17 := (V5.keep K10 (ninS (Ne.symm (RoadKit.Exa.neArv B.1 B.2.2.2.1 (W42 hw))) nin0))
  exact C10.retA (t := (.object "java/lang/AbstractStringBuilder")) rfl rfl rfl rfl d11_44 (by decide) (by decide) ⟨rfl, (Keep.trans (Keep.trans (Keep.refl h [b, tb]) K5 (allS (Or.inl (by simp)) all0)) K10 (allS (Or.inl (by simp)) all0)), ⟨f16, ⟨f14, f13⟩, f15, f17, own_all_app B.2.2.2.2.1 S.2.2.2.2.1, by rw [List.length_append]; exact hle, B.le4⟩⟩
set_option maxRecDepth 65536 in
set_option maxHeartbeats 40000000 in
theorem rm_asbAppendG (l : Launch) (Z : State) (a0 : Array Value) (EL : List (String × Nat)) (G : Glob Z a0 EL) (b tb : Addr) (kb : ClassId) (ps : List Int32) (cap : Nat) (a t : Addr) (kc : ClassId) (cs : List Int32) (nc : Nat) (h : Heap) (O : Ext Z.heap h) (B : Sb Z h b tb kb ps cap) (S : Str Z h a t kc cs) (hgt : cap < ps.length + cs.length) (hG : Grow cap (ps.length + cs.length) nc) (hnc : nc ≤ 40) (zb : Z.heap.size ≤ b) :
    Met l Z EL true (⟨"java/lang/AbstractStringBuilder", "append", "(Ljava/lang/String;)Ljava/lang/AbstractStringBuilder;"⟩ : MethodName) jdk_68_method_22_code 3 (some (.object "java/lang/AbstractStringBuilder")) [] ({ frames := 4, cells := 1, slots := 40, locals := 62 } : Room) #[(.ref b), (.ref a)] h [] (fun r h' => r = some (.ref b) ∧ ∃ (tn : Addr) (kn : ClassId), Keep h h' [b] ∧ h.size ≤ tn ∧ Z.heap.size ≤ tn ∧ Sb Z h' b tn kn (ps ++ cs) nc) := by
  have hw := G.hw
  obtain ⟨zc, Sc, hzc⟩ := G.cs
  obtain ⟨vf, Sf, hvf⟩ := G.fm
  refine Met.of (plainFor_of_name pn_75696c646572_2) G.ew O ?_
  intro p e s m below meth c T0 C0 S0
  refine Endw.eq (g' := mkF m 0 #[.val (.ref b), .val (.ref a), .unset] []) (by first | rfl | (simp [entryFrame, mkF, argsToLocals, own_cI, own_cR, own_cN, own_cJ, own_cD, maxLocals]; done)) ?_
  refine Endw.st (T' := T0) (g' := (mkF m 10 #[.val (.ref b), .val (.ref a), .unset] [(.ref a)])) (fun tt_ kk_ => XS.aloadN C0.here C0.hx rfl (C0.dec d11_0) rfl rfl (XS.ifnonnullYes C0.here C0.hx rfl (pc0 := 1) rfl (C0.dec d11_1) rfl (by decide) rfl (XS.aloadN C0.here C0.hx rfl (C0.dec d11_9) rfl rfl kk_))) ?_
  refine C0.virtual (y := (⟨"java/lang/String", "length", "()I"⟩ : MethodName)) (z := (⟨"java/lang/String", "length", "()I"⟩ : MethodName)) (W := 0) (a := a) (argsL := []) (rest := []) (W69 hw) (W70 hw) (fun _ q => notFace_of_selects (args := #[]) (mvT q (W72 hw))) (W72 hw) (W71 hw) (W73 hw) (W5 hw) (by decide) (rm_strLen l Z a0 EL G a t kc cs h C0.old S) (fun _ => rfl) rfl S.1 all0 (by decide) (by decide) (by decide) (by decide) (lenOf pd_282949 rfl) rfl (Nat.le_of_ble_eq_true rfl) rfl d11_10 (pc' := 13) rfl ?_
  intro vm1 T1 h1 v1 C1 A1 M1 q1
  obtain ⟨rfl, rfl⟩ := q1
  show Endw p e below T1 (mkF m 13 #[.val (.ref b), .val (.ref a), .unset] [(.int (Int32.ofNat cs.length))]) _
  refine Endw.st (T' := T1) (g' := (mkF m 16 #[.val (.ref b), .val (.ref a), .val (.int (Int32.ofNat cs.length))] [(.ref b), (.ref b)])) (fun tt_ kk_ => XS.istoreN C1.here C1.hx rfl (C1.dec d11_13) rfl (l' := #[.val (.ref b), .val (.ref a), .val (.int (Int32.ofNat cs.length))]) rfl (XS.aloadN C1.here C1.hx rfl (C1.dec d11_14) rfl rfl (XS.aloadN C1.here C1.hx rfl (C1.dec d11_15) rfl rfl kk_))) ?_
  refine C1.getF (W79 hw) B.2.1.2 d11_16 (pc' := 19) rfl ?_
  intro T2 C2
  show Endw p e below T2 (mkF m 19 #[.val (.ref b), .val (.ref a), .val (.int (Int32.ofNat cs.length))] [(.int (Int32.ofNat ps.length)), (.ref b)]) _
  refine Endw.st (T' := T2) (g' := (mkF m 21 #[.val (.ref b), .val (.ref a), .val (.int (Int32.ofNat cs.length))] [(.int ((Int32.ofNat ps.length) + (Int32.ofNat cs.length))), (.ref b)])) (fun tt_ kk_ => XS.iloadN C2.here C2.hx rfl (C2.dec d11_19) rfl (XS.iadd C2.here C2.hx rfl (C2.dec d11_20) rfl kk_)) ?_
  rw [show ((Int32.ofNat ps.length) + (Int32.ofNat cs.length)) = (Int32.ofNat (ps ++ cs).length) from by rw [own_add, List.length_append]]
  refine C2.priv (y := (⟨"java/lang/AbstractStringBuilder", "ensureCapacityInternal", "(I)V"⟩ : MethodName)) (W := 0) (a := b) (argsL := [(.int (Int32.ofNat (ps ++ cs).length))]) (rest := []) (W81 hw) (W82 hw) (own_plain (y := ({ cls := "java/lang/AbstractStringBuilder", name := "ensureCapacityInternal", desc := "(I)V" } : Jvm.MethodName)) (W84 hw) (W82 hw)) (W83 hw) (W85 hw) (W51 hw) (by decide) (rm_ensureG l Z a0 EL G b tb kb ps cap (ps ++ cs).length nc h C2.old B (by rw [List.length_append]; exact hgt) (by rw [List.length_append]; exact hG) hnc (by rw [List.length_append]; have := hG.1; omega) zb) (fun _ => rfl) rfl B.1 all0 (by decide) (by decide) (by decide) (by decide) (lenOf pd_28492956 rfl) rfl (Nat.le_of_ble_eq_true rfl) rfl d11_21 (pc' := 24) rfl ?_
  intro vm3 T3 h3 v3 C3 A3 M3 q3
  obtain ⟨rfl, t3, kb3, K3, ge3, zg3, Z3⟩ := q3
  show Endw p e below T3 (mkF m 24 #[.val (.ref b), .val (.ref a), .val (.int (Int32.ofNat cs.length))] []) _
  refine Endw.st (T' := T3) (g' := (mkF m 26 #[.val (.ref b), .val (.ref a), .val (.int (Int32.ofNat cs.length))] [(.ref b), (.ref b)])) (fun tt_ kk_ => XS.aloadN C3.here C3.hx rfl (C3.dec d11_24) rfl rfl (XS.aloadN C3.here C3.hx rfl (C3.dec d11_25) rfl rfl kk_)) ?_
  refine C3.getF (W79 hw) Z3.2.1.2 d11_26 (pc' := 29) rfl ?_
  intro T4 C4
  show Endw p e below T4 (mkF m 29 #[.val (.ref b), .val (.ref a), .val (.int (Int32.ofNat cs.length))] [(.int (Int32.ofNat ps.length)), (.ref b)]) _
  refine Endw.st (T' := T4) (g' := (mkF m 30 #[.val (.ref b), .val (.ref a), .val (.int (Int32.ofNat cs.length))] [(.ref a), (.int (Int32.ofNat ps.length)), (.ref b)])) (fun tt_ kk_ => XS.aloadN C4.here C4.hx rfl (C4.dec d11_29) rfl rfl kk_) ?_
  have f5 := (S.keep K3 (ninS (RoadKit.Exa.ne S.1 B.1 (by decide)) nin0) (ninS (Ne.symm (RoadKit.Exa.neArv B.1 S.2.2.2.1 (W42 hw))) nin0))
  refine C4.priv (y := (⟨"java/lang/AbstractStringBuilder", "putStringAt", "(ILjava/lang/String;)V"⟩ : MethodName)) (W := 0) (a := b) (argsL := [(.int (Int32.ofNat ps.length)), (.ref a)]) (rest := []) (W86 hw) (W87 hw) (own_plain (y := ({ cls := "java/lang/AbstractStringBuilder", name := "ensureCapacityInternal", desc := "(I)V" } : Jvm.MethodName)) (W84 hw) (W82 hw)) (W88 hw) (W90 hw) (W51 hw) (by decide) (rm_putStr l Z a0 EL G b t3 kb3 ps nc a t kc cs h3 C4.old Z3 f5 (by have := hG.1; omega) zg3) (fun _ => rfl) rfl Z3.1 (allS ⟨Z3.2.2.2.1.lt, (own_safe_new (M3 rfl) ge3)⟩ all0) (by decide) (by decide) (by decide) (by decide) (lenOf pd_12 rfl) rfl (Nat.le_of_ble_eq_true rfl) rfl d11_30 (pc' := 33) rfl ?_
  intro vm6 T6 h6 v6 C6 A6 M6 q6
  obtain ⟨rfl, K6, V6⟩ := q6
  show Endw p e below T6 (mkF m 33 #[.val (.ref b), .val (.ref a), .val (.int (Int32.ofNat cs.length))] []) _
  refine Endw.st (T' := T6) (g' := (mkF m 35 #[.val (.ref b), .val (.ref a), .val (.int (Int32.ofNat cs.length))] [(.ref b), (.ref b)])) (fun tt_ kk_ => XS.aloadN C6.here C6.hx rfl (C6.dec d11_33) rfl rfl (XS.dup C6.here C6.hx rfl (C6.dec d11_34) rfl rfl kk_)) ?_
  have f7 := (Z3.2.1.2.keep K6 (ninS (Nat.ne_of_lt (Nat.lt_of_lt_of_le B.1.lt ge3)) nin0))
  refine C6.getF (W79 hw) f7 d11_35 (pc' := 38) rfl ?_
  intro T8 C8
  show Endw p e below T8 (mkF m 38 #[.val (.ref b), .val (.ref a), .val (.int (Int32.ofNat cs.length))] [(.int (Int32.ofNat ps.length)), (.ref b)]) _
  refine Endw.st (T' := T8) (g' := (mkF m 40 #[.val (.ref b), .val (.ref a), .val (.int (Int32.ofNat cs.length))] [(.int ((Int32.ofNat ps.length) + (Int32.ofNat cs.length))), (.ref b)])) (fun tt_ kk_ => XS.iloadN C8.here C8.hx rfl (C8.dec d11_38) rfl (XS.iadd C8.here C8.hx rfl (C8.dec d11_39) rfl kk_)) ?_
  rw [show ((Int32.ofNat ps.length) + (Int32.ofNat cs.length)) = (Int32.ofNat (ps ++ cs).length) from by rw [own_add, List.length_append]]
  have f9 := (Z3.1.keep K6)
  have f11 := (Z3.2.1.1.keep K6 (ninS (Nat.ne_of_lt (Nat.lt_of_lt_of_le B.1.lt ge3)) nin0))
  have f12 := (Z3.2.2.1.keep K6 (ninS (Nat.ne_of_lt (Nat.lt_of_lt_of_le B.1.lt ge3)) nin0))
  refine C8.putF (v := (.int (Int32.ofNat (ps ++ cs).length))) (W79 hw) f7 f9 (Or.inl (W80 hw)) (W42 hw) (ty := .int) (by decide) rfl rfl zb (Safe.exa C8.warm.alike f9 (by decide) (by decide)) d11_40 (pc' := 43) rfl ?_
  intro T10 h10 C10 K10 A10 Wr10
  have f13 := f7.same Wr10
  have f14 := f11.other Wr10 (Or.inr (slot_ne (Or.inl (W58 hw)) (Or.inl (W80 hw)) (by decide) (t := .byte) (t' := .int) (by decide) (by decide)))
  have f15 := f12.other Wr10 (Or.inr (slot_ne (Or.inl (W56 hw)) (Or.inl (W80 hw)) (by decide) (t := (.array .byte)) (t' := .int) (by decide) (by decide)))
  show Endw p e below T10 (mkF m 43 #[.val (.ref b), .val (.ref a), .val (.int (Int32.ofNat cs.length))] []) _
  refine Endw.st (T' := T10) (g' := (mkF m 44 #[.val (.ref b), .val (.ref a), .val (.int (Int32.ofNat cs.length))] [(.ref b)])) (fun tt_ kk_ => XS.aloadN C10.here C10.hx rfl (C10.dec d11_43) rfl rfl kk_) ?_
  have f16 := (f9.keep K10)
  have f17 := (V6.keep K10 (ninS (Ne.symm (Nat.ne_of_lt (Nat.lt_of_lt_of_le B.1.lt ge3))) nin0))
  exact C10.retA (t := (.object "java/lang/AbstractStringBuilder")) rfl rfl rfl rfl d11_44 (by decide) (by decide) ⟨rfl, t3, kb3, (Keep.trans (Keep.trans (Keep.trans (Keep.refl h [b]) K3 (allS (Or.inl (by simp)) all0)) K6 (allS (Or.inr ge3) all0)) K10 (allS (Or.inl (by simp)) all0)), ge3, zg3, ⟨f16, ⟨f14, f13⟩, f15, f17, own_all_app B.2.2.2.2.1 S.2.2.2.2.1, by rw [List.length_append]; exact hG.1, by omega⟩⟩
set_option maxRecDepth 65536 in
set_option maxHeartbeats 40000000 in
theorem rm_sbAppend (l : Launch) (Z : State) (a0 : Array Value) (EL : List (String × Nat)) (G : Glob Z a0 EL) (b tb : Addr) (kb : ClassId) (ps : List Int32) (cap : Nat) (a t : Addr) (kc : ClassId) (cs : List Int32) (h : Heap) (O : Ext Z.heap h) (B : Sb Z h b tb kb ps cap) (S : Str Z h a t kc cs) (hle : ps.length + cs.length ≤ cap) (zb : Z.heap.size ≤ b) (zt : Z.heap.size ≤ tb) :
    Met l Z EL true (⟨"java/lang/StringBuilder", "append", "(Ljava/lang/String;)Ljava/lang/StringBuilder;"⟩ : MethodName) jdk_67_method_7_code 2 (some (.object "java/lang/StringBuilder")) [] ({ frames := 4, cells := 0, slots := 0, locals := 61 } : Room) #[(.ref b), (.ref a)] h [tb] (fun r h' => r = some (.ref b) ∧ Keep h h' [b, tb] ∧ Sb Z h' b tb kb (ps ++ cs) cap) := by
  have hw := G.hw
  obtain ⟨zc, Sc, hzc⟩ := G.cs
  obtain ⟨vf, Sf, hvf⟩ := G.fm
  refine Met.of (plainFor_of_name pn_75696c646572_6) G.ew O ?_
  intro p e s m below meth c T0 C0 S0
  refine Endw.eq (g' := mkF m 0 #[.val (.ref b), .val (.ref a)] []) (by first | rfl | (simp [entryFrame, mkF, argsToLocals, own_cI, own_cR, own_cN, own_cJ, own_cD, maxLocals]; done)) ?_
  refine Endw.st (T' := T0) (g' := (mkF m 2 #[.val (.ref b), .val (.ref a)] [(.ref a), (.ref b)])) (fun tt_ kk_ => XS.aloadN C0.here C0.hx rfl (C0.dec d12_0) rfl rfl (XS.aloadN C0.here C0.hx rfl (C0.dec d12_1) rfl rfl kk_)) ?_
  refine C0.super (y := (⟨"java/lang/AbstractStringBuilder", "append", "(Ljava/lang/String;)Ljava/lang/AbstractStringBuilder;"⟩ : MethodName)) (W := 0) (a := b) (argsL := [(.ref a)]) (rest := []) (by decide) (W64 hw) (own_same (W67 hw) (own_plain (y := ({ cls := "java/lang/AbstractStringBuilder", name := "ensureCapacityInternal", desc := "(I)V" } : Jvm.MethodName)) (W84 hw) (W82 hw)) (by decide)) (W65 hw) (W66 hw) (W68 hw) (W51 hw) (rm_asbAppend l Z a0 EL G b tb kb ps cap a t kc cs h C0.old B S hle zb zt) (fun _ => rfl) rfl B.1 (allS ⟨B.2.2.2.1.lt, (S0 tb (by simp))⟩ all0) (by decide) (by decide) (by decide) (by decide) (lenOf pd_16 rfl) rfl (Nat.le_of_ble_eq_true rfl) rfl d12_2 (pc' := 5) rfl ?_
  intro vm1 T1 h1 v1 C1 A1 M1 q1
  obtain ⟨rfl, K1, Z1⟩ := q1
  show Endw p e below T1 (mkF m 5 #[.val (.ref b), .val (.ref a)] [(.ref b)]) _
  refine Endw.st (T' := T1) (g' := (mkF m 7 #[.val (.ref b), .val (.ref a)] [(.ref b)])) (fun tt_ kk_ => XS.pop C1.here C1.hx rfl (C1.dec d12_5) rfl rfl (XS.aloadN C1.here C1.hx rfl (C1.dec d12_6) rfl rfl kk_)) ?_
  exact C1.retA (t := (.object "java/lang/StringBuilder")) rfl rfl rfl rfl d12_7 (by decide) (by decide) ⟨rfl, (Keep.trans (Keep.refl h [b, tb]) K1 (allS (Or.inl (by simp)) (allS (Or.inl (by simp)) all0))), Z1⟩
set_option maxRecDepth 65536 in
set_option maxHeartbeats 40000000 in
theorem rm_sbAppendG (l : Launch) (Z : State) (a0 : Array Value) (EL : List (String × Nat)) (G : Glob Z a0 EL) (b tb : Addr) (kb : ClassId) (ps : List Int32) (cap : Nat) (a t : Addr) (kc : ClassId) (cs : List Int32) (nc : Nat) (h : Heap) (O : Ext Z.heap h) (B : Sb Z h b tb kb ps cap) (S : Str Z h a t kc cs) (hgt : cap < ps.length + cs.length) (hG : Grow cap (ps.length + cs.length) nc) (hnc : nc ≤ 40) (zb : Z.heap.size ≤ b) :
    Met l Z EL true (⟨"java/lang/StringBuilder", "append", "(Ljava/lang/String;)Ljava/lang/StringBuilder;"⟩ : MethodName) jdk_67_method_7_code 2 (some (.object "java/lang/StringBuilder")) [] ({ frames := 5, cells := 1, slots := 40, locals := 76 } : Room) #[(.ref b), (.ref a)] h [] (fun r h' => r = some (.ref b) ∧ ∃ (tn : Addr) (kn : ClassId), Keep h h' [b] ∧ h.size ≤ tn ∧ Z.heap.size ≤ tn ∧ Sb Z h' b tn kn (ps ++ cs) nc) := by
  have hw := G.hw
  obtain ⟨zc, Sc, hzc⟩ := G.cs
  obtain ⟨vf, Sf, hvf⟩ := G.fm
  refine Met.of (plainFor_of_name pn_75696c646572_6) G.ew O ?_
  intro p e s m below meth c T0 C0 S0
  refine Endw.eq (g' := mkF m 0 #[.val (.ref b), .val (.ref a)] []) (by first | rfl | (simp [entryFrame, mkF, argsToLocals, own_cI, own_cR, own_cN, own_cJ, own_cD, maxLocals]; done)) ?_
  refine Endw.st (T' := T0) (g' := (mkF m 2 #[.val (.ref b), .val (.ref a)] [(.ref a), (.ref b)])) (fun tt_ kk_ => XS.aloadN C0.here C0.hx rfl (C0.dec d12_0) rfl rfl (XS.aloadN C0.here C0.hx rfl (C0.dec d12_1) rfl rfl kk_)) ?_
  refine C0.super (y := (⟨"java/lang/AbstractStringBuilder", "append", "(Ljava/lang/String;)Ljava/lang/AbstractStringBuilder;"⟩ : MethodName)) (W := 0) (a := b) (argsL := [(.ref a)]) (rest := []) (by decide) (W64 hw) (own_same (W67 hw) (own_plain (y := ({ cls := "java/lang/AbstractStringBuilder", name := "ensureCapacityInternal", desc := "(I)V" } : Jvm.MethodName)) (W84 hw) (W82 hw)) (by decide)) (W65 hw) (W66 hw) (W68 hw) (W51 hw) (rm_asbAppendG l Z a0 EL G b tb kb ps cap a t kc cs nc h C0.old B S hgt hG hnc zb) (fun _ => rfl) rfl B.1 all0 (by decide) (by decide) (by decide) (by decide) (lenOf pd_16 rfl) rfl (Nat.le_of_ble_eq_true rfl) rfl d12_2 (pc' := 5) rfl ?_
  intro vm1 T1 h1 v1 C1 A1 M1 q1
  obtain ⟨rfl, t1, kb1, K1, ge1, zg1, Z1⟩ := q1
  show Endw p e below T1 (mkF m 5 #[.val (.ref b), .val (.ref a)] [(.ref b)]) _
  refine Endw.st (T' := T1) (g' := (mkF m 7 #[.val (.ref b), .val (.ref a)] [(.ref b)])) (fun tt_ kk_ => XS.pop C1.here C1.hx rfl (C1.dec d12_5) rfl rfl (XS.aloadN C1.here C1.hx rfl (C1.dec d12_6) rfl rfl kk_)) ?_
  exact C1.retA (t := (.object "java/lang/StringBuilder")) rfl rfl rfl rfl d12_7 (by decide) (by decide) ⟨rfl, t1, kb1, (Keep.trans (Keep.refl h [b]) K1 (allS (Or.inl (by simp)) all0)), ge1, zg1, Z1⟩
set_option maxRecDepth 65536 in
set_option maxHeartbeats 40000000 in
theorem rm_asbInit (l : Launch) (Z : State) (a0 : Array Value) (EL : List (String × Nat)) (G : Glob Z a0 EL) (b : Addr) (h : Heap) (O : Ext Z.heap h) (E0 : Exa Z h b "java/lang/StringBuilder") (F0 : Fld Z h b "java/lang/AbstractStringBuilder" "value" "[B" .null) (F1 : Fld Z h b "java/lang/AbstractStringBuilder" "coder" "B" (.int (0 : Int32))) (F2 : Fld Z h b "java/lang/AbstractStringBuilder" "count" "I" (.int (0 : Int32))) (zb : Z.heap.size ≤ b) :
    Met l Z EL true (⟨"java/lang/AbstractStringBuilder", "<init>", "(I)V"⟩ : MethodName) jdk_68_method_2_code 2 none [] ({ frames := 1, cells := 1, slots := 16, locals := 12 } : Room) #[(.ref b), (.int (16 : Int32))] h [] (fun r h' => r = none ∧ ∃ (t : Addr) (kb : ClassId), Keep h h' [b] ∧ h.size ≤ t ∧ Z.heap.size ≤ t ∧ Sb Z h' b t kb [] 16) := by
  have hw := G.hw
  obtain ⟨zc, Sc, hzc⟩ := G.cs
  obtain ⟨vf, Sf, hvf⟩ := G.fm
  refine Met.of (plainFor_of_name pn_75696c646572_2) G.ew O ?_
  intro p e s m below meth c T0 C0 S0
  refine Endw.eq (g' := mkF m 0 #[.val (.ref b), .val (.int (16 : Int32))] []) (by first | rfl | (simp [entryFrame, mkF, argsToLocals, own_cI, own_cR, own_cN, own_cJ, own_cD, maxLocals]; done)) ?_
  refine Endw.st (T' := T0) (g' := (mkF m 1 #[.val (.ref b), .val (.int (16 : Int32))] [(.ref b)])) (fun tt_ kk_ => XS.aloadN C0.here C0.hx rfl (C0.dec d13_0) rfl rfl kk_) ?_
  refine C0.initO (W53 hw) (W15 hw) (W16 hw) rfl d13_1 (pc' := 4) rfl (by decide) (W := 0) (Nat.le_of_ble_eq_true rfl) (by decide) ?_
  intro T1 C1
  show Endw p e below T1 (mkF m 4 #[.val (.ref b), .val (.int (16 : Int32))] []) _
  refine C1.getS (W54 hw) Sc d13_4 (pc' := 7) rfl ?_
  intro T2 C2
  show Endw p e below T2 (mkF m 7 #[.val (.ref b), .val (.int (16 : Int32))] [(.int zc)]) _
  refine Endw.st (T' := T2) (g' := (mkF m 12 #[.val (.ref b), .val (.int (16 : Int32))] [(.int (16 : Int32)), (.ref b)])) (fun tt_ kk_ => XS.ifNo C2.here C2.hx rfl (C2.dec d13_7) rfl (XT.i0_eq_f hzc) (XS.aloadN C2.here C2.hx rfl (C2.dec d13_10) rfl rfl (XS.iloadN C2.here C2.hx rfl (C2.dec d13_11) rfl kk_))) ?_
  refine C2.newA (aty := .byte) (z := (16 : Int32)) (cap := 16) (vs := []) (W22 hw) d13_12 (pc' := 14) rfl (by decide) (by decide) (by decide) (by decide) (by decide) rfl ?_
  intro T3 h3 a3 kA3 C3 K3 A3 ge3 zg3 V3 S3
  show Endw p e below T3 (mkF m 14 #[.val (.ref b), .val (.int (16 : Int32))] [(.ref a3), (.ref b)]) _
  have f4 := (E0.keep K3)
  have f5 := (F0.keep K3 nin0)
  have f7 := (F1.keep K3 nin0)
  have f8 := (F2.keep K3 nin0)
  refine C3.putF (v := (.ref a3)) (W55 hw) f5 f4 (Or.inl (W56 hw)) (W42 hw) (ty := (.array .byte)) (by decide) rfl rfl zb (Safe.exa C3.warm.alike f4 (by decide) (by decide)) d13_14 (pc' := 17) rfl ?_
  intro T6 h6 C6 K6 A6 Wr6
  have f9 := f5.same Wr6
  have f10 := f7.other Wr6 (Or.inr (slot_ne (Or.inl (W58 hw)) (Or.inl (W56 hw)) (by decide) (t := .byte) (t' := (.array .byte)) (by decide) (by decide)))
  have f11 := f8.other Wr6 (Or.inr (slot_ne (Or.inl (W80 hw)) (Or.inl (W56 hw)) (by decide) (t := .int) (t' := (.array .byte)) (by decide) (by decide)))
  show Endw p e below T6 (mkF m 17 #[.val (.ref b), .val (.int (16 : Int32))] []) _
  refine Endw.st (T' := T6) (g' := (mkF m 19 #[.val (.ref b), .val (.int (16 : Int32))] [(.int (0 : Int32)), (.ref b)])) (fun tt_ kk_ => XS.aloadN C6.here C6.hx rfl (C6.dec d13_17) rfl rfl (XS.iconst C6.here C6.hx rfl (C6.dec d13_18) kk_)) ?_
  have f12 := (f4.keep K6)
  refine C6.putF (v := (.int (0 : Int32))) (W57 hw) f10 f12 (Or.inl (W58 hw)) (W42 hw) (ty := .byte) (by decide) rfl rfl zb (Safe.exa C6.warm.alike f12 (by decide) (by decide)) d13_19 (pc' := 22) rfl ?_
  intro T13 h13 C13 K13 A13 Wr13
  have f14 := f10.same Wr13
  have f15 := f9.other Wr13 (Or.inr (slot_ne (Or.inl (W56 hw)) (Or.inl (W58 hw)) (by decide) (t := (.array .byte)) (t' := .byte) (by decide) (by decide)))
  have f16 := f11.other Wr13 (Or.inr (slot_ne (Or.inl (W80 hw)) (Or.inl (W58 hw)) (by decide) (t := .int) (t' := .byte) (by decide) (by decide)))
  show Endw p e below T13 (mkF m 22 #[.val (.ref b), .val (.int (16 : Int32))] []) _
  refine Endw.st (T' := T13) (g' := (mkF m 38 #[.val (.ref b), .val (.int (16 : Int32))] [])) (fun tt_ kk_ => XS.goto C13.here C13.hx rfl (pc0 := 22) rfl (C13.dec d13_22) (by decide) rfl kk_) ?_
  have f17 := ((V3.keep K6 (ninS (Ne.symm (Nat.ne_of_lt (Nat.lt_of_lt_of_le E0.lt ge3))) nin0)).keep K13 (ninS (Ne.symm (Nat.ne_of_lt (Nat.lt_of_lt_of_le E0.lt ge3))) nin0))
  have f18 := (f12.keep K13)
  exact C13.retV d13_38 (by decide) (by decide) ⟨rfl, a3, kA3, (Keep.trans (Keep.trans (Keep.trans (Keep.refl h [b]) K3 all0) K6 (allS (Or.inl (by simp)) all0)) K13 (allS (Or.inl (by simp)) all0)), ge3, zg3, ⟨f18, ⟨f14, f16⟩, f15, f17, own_c0, by decide, by decide⟩⟩
set_option maxRecDepth 65536 in
set_option maxHeartbeats 40000000 in
theorem rm_sbInit (l : Launch) (Z : State) (a0 : Array Value) (EL : List (String × Nat)) (G : Glob Z a0 EL) (b : Addr) (h : Heap) (O : Ext Z.heap h) (E0 : Exa Z h b "java/lang/StringBuilder") (F0 : Fld Z h b "java/lang/AbstractStringBuilder" "value" "[B" .null) (F1 : Fld Z h b "java/lang/AbstractStringBuilder" "coder" "B" (.int (0 : Int32))) (F2 : Fld Z h b "java/lang/AbstractStringBuilder" "count" "I" (.int (0 : Int32))) (zb : Z.heap.size ≤ b) :
    Met l Z EL true (⟨"java/lang/StringBuilder", "<init>", "()V"⟩ : MethodName) jdk_67_method_1_code 1 none [] ({ frames := 2, cells := 1, slots := 16, locals := 25 } : Room) #[(.ref b)] h [] (fun r h' => r = none ∧ ∃ (t : Addr) (kb : ClassId), Keep h h' [b] ∧ h.size ≤ t ∧ Z.heap.size ≤ t ∧ Sb Z h' b t kb [] 16) := by
  have hw := G.hw
  obtain ⟨zc, Sc, hzc⟩ := G.cs
  obtain ⟨vf, Sf, hvf⟩ := G.fm
  refine Met.of (plainFor_of_name pn_75696c646572_6) G.ew O ?_
  intro p e s m below meth c T0 C0 S0
  refine Endw.eq (g' := mkF m 0 #[.val (.ref b)] []) (by first | rfl | (simp [entryFrame, mkF, argsToLocals, own_cI, own_cR, own_cN, own_cJ, own_cD, maxLocals]; done)) ?_
  refine Endw.st (T' := T0) (g' := (mkF m 3 #[.val (.ref b)] [(.int (16 : Int32)), (.ref b)])) (fun tt_ kk_ => XS.aloadN C0.here C0.hx rfl (C0.dec d14_0) rfl rfl (XS.bipush C0.here C0.hx rfl (C0.dec d14_1) kk_)) ?_
  refine C0.special (y := (⟨"java/lang/AbstractStringBuilder", "<init>", "(I)V"⟩ : MethodName)) (W := 0) (a := b) (argsL := [(.int (16 : Int32))]) (rest := []) rfl (W47 hw) (W48 hw) (W52 hw) (W51 hw) (by decide) (rm_asbInit l Z a0 EL G b h C0.old E0 F0 F1 F2 zb) (fun _ => rfl) rfl all0 (by decide) (by decide) (by decide) (by decide) (lenOf pd_28492956 rfl) rfl (Nat.le_of_ble_eq_true rfl) rfl d14_3 (pc' := 6) rfl ?_
  intro vm1 T1 h1 v1 C1 A1 M1 q1
  obtain ⟨rfl, t1, kb1, K1, ge1, zg1, Z1⟩ := q1
  show Endw p e below T1 (mkF m 6 #[.val (.ref b)] []) _
  exact C1.retV d14_6 (by decide) (by decide) ⟨rfl, t1, kb1, (Keep.trans (Keep.refl h [b]) K1 (allS (Or.inl (by simp)) all0)), ge1, zg1, Z1⟩
set_option maxRecDepth 65536 in
set_option maxHeartbeats 40000000 in
theorem rm_getValue (l : Launch) (Z : State) (a0 : Array Value) (EL : List (String × Nat)) (G : Glob Z a0 EL) (b t : Addr) (h : Heap) (O : Ext Z.heap h) (F0 : Fld Z h b "java/lang/AbstractStringBuilder" "value" "[B" (.ref t)) :
    Met l Z EL true (⟨"java/lang/AbstractStringBuilder", "getValue", "()[B"⟩ : MethodName) jdk_68_method_64_code 1 (some (.array .byte)) [] ({ frames := 0, cells := 0, slots := 0, locals := 0 } : Room) #[(.ref b)] h [] (fun r h' => r = some (.ref t) ∧ h = h') := by
  have hw := G.hw
  obtain ⟨zc, Sc, hzc⟩ := G.cs
  obtain ⟨vf, Sf, hvf⟩ := G.fm
  refine Met.of (plainFor_of_name pn_75696c646572_2) G.ew O ?_
  intro p e s m below meth c T0 C0 S0
  refine Endw.eq (g' := mkF m 0 #[.val (.ref b)] []) (by first | rfl | (simp [entryFrame, mkF, argsToLocals, own_cI, own_cR, own_cN, own_cJ, own_cD, maxLocals]; done)) ?_
  refine Endw.st (T' := T0) (g' := (mkF m 1 #[.val (.ref b)] [(.ref b)])) (fun tt_ kk_ => XS.aloadN C0.here C0.hx rfl (C0.dec d15_0) rfl rfl kk_) ?_
  refine C0.getF (W55 hw) F0 d15_1 (pc' := 4) rfl ?_
  intro T1 C1
  show Endw p e below T1 (mkF m 4 #[.val (.ref b)] [(.ref t)]) _
  exact C1.retA (t := (.array .byte)) rfl rfl rfl rfl d15_4 (by decide) (by decide) ⟨rfl, rfl⟩
set_option maxRecDepth 65536 in
set_option maxHeartbeats 40000000 in
theorem rm_asbLen (l : Launch) (Z : State) (a0 : Array Value) (EL : List (String × Nat)) (G : Glob Z a0 EL) (b : Addr) (x : Int32) (h : Heap) (O : Ext Z.heap h) (E0 : Exa Z h b "java/lang/StringBuilder") (F0 : Fld Z h b "java/lang/AbstractStringBuilder" "count" "I" (.int x)) :
    Met l Z EL true (⟨"java/lang/AbstractStringBuilder", "length", "()I"⟩ : MethodName) jdk_68_method_6_code 1 (some .int) [] ({ frames := 0, cells := 0, slots := 0, locals := 0 } : Room) #[(.ref b)] h [] (fun r h' => r = some (.int x) ∧ h = h') := by
  have hw := G.hw
  obtain ⟨zc, Sc, hzc⟩ := G.cs
  obtain ⟨vf, Sf, hvf⟩ := G.fm
  refine Met.of (plainFor_of_name pn_75696c646572_2) G.ew O ?_
  intro p e s m below meth c T0 C0 S0
  refine Endw.eq (g' := mkF m 0 #[.val (.ref b)] []) (by first | rfl | (simp [entryFrame, mkF, argsToLocals, own_cI, own_cR, own_cN, own_cJ, own_cD, maxLocals]; done)) ?_
  refine Endw.st (T' := T0) (g' := (mkF m 1 #[.val (.ref b)] [(.ref b)])) (fun tt_ kk_ => XS.aloadN C0.here C0.hx rfl (C0.dec d16_0) rfl rfl kk_) ?_
  refine C0.getF (W79 hw) F0 d16_1 (pc' := 4) rfl ?_
  intro T1 C1
  show Endw p e below T1 (mkF m 4 #[.val (.ref b)] [(.int x)]) _
  exact C1.retI (t := .int) rfl (by simp) rfl d16_4 (by decide) (by decide) ⟨rfl, rfl⟩
set_option maxRecDepth 65536 in
set_option maxHeartbeats 40000000 in
theorem rm_sbLen (l : Launch) (Z : State) (a0 : Array Value) (EL : List (String × Nat)) (G : Glob Z a0 EL) (b : Addr) (x : Int32) (h : Heap) (O : Ext Z.heap h) (E0 : Exa Z h b "java/lang/StringBuilder") (F0 : Fld Z h b "java/lang/AbstractStringBuilder" "count" "I" (.int x)) :
    Met l Z EL true (⟨"java/lang/StringBuilder", "length", "()I"⟩ : MethodName) jdk_67_method_93_code 1 (some .int) [] ({ frames := 1, cells := 0, slots := 0, locals := 12 } : Room) #[(.ref b)] h [] (fun r h' => r = some (.int x) ∧ h = h') := by
  have hw := G.hw
  obtain ⟨zc, Sc, hzc⟩ := G.cs
  obtain ⟨vf, Sf, hvf⟩ := G.fm
  refine Met.of (plainFor_of_name pn_75696c646572_6) G.ew O ?_
  intro p e s m below meth c T0 C0 S0
  refine Endw.eq (g' := mkF m 0 #[.val (.ref b)] []) (by first | rfl | (simp [entryFrame, mkF, argsToLocals, own_cI, own_cR, own_cN, own_cJ, own_cD, maxLocals]; done)) ?_
  refine Endw.st (T' := T0) (g' := (mkF m 1 #[.val (.ref b)] [(.ref b)])) (fun tt_ kk_ => XS.aloadN C0.here C0.hx rfl (C0.dec d17_0) rfl rfl kk_) ?_
  refine C0.super (y := (⟨"java/lang/AbstractStringBuilder", "length", "()I"⟩ : MethodName)) (W := 0) (a := b) (argsL := []) (rest := []) (by decide) (W129 hw) (own_same (W124 hw) (own_plain (y := ({ cls := "java/lang/AbstractStringBuilder", name := "ensureCapacityInternal", desc := "(I)V" } : Jvm.MethodName)) (W84 hw) (W82 hw)) (by decide)) (W125 hw) (W66 hw) (W130 hw) (W51 hw) (rm_asbLen l Z a0 EL G b x h C0.old E0 F0) (fun _ => rfl) rfl E0 all0 (by decide) (by decide) (by decide) (by decide) (lenOf pd_282949 rfl) rfl (Nat.le_of_ble_eq_true rfl) rfl d17_1 (pc' := 4) rfl ?_
  intro vm1 T1 h1 v1 C1 A1 M1 q1
  obtain ⟨rfl, rfl⟩ := q1
  show Endw p e below T1 (mkF m 4 #[.val (.ref b)] [(.int x)]) _
  exact C1.retI (t := .int) rfl (by simp) rfl d17_4 (by decide) (by decide) ⟨rfl, rfl⟩
set_option maxRecDepth 65536 in
set_option maxHeartbeats 40000000 in
theorem rm_asbLat (l : Launch) (Z : State) (a0 : Array Value) (EL : List (String × Nat)) (G : Glob Z a0 EL) (b : Addr) (h : Heap) (O : Ext Z.heap h) (F0 : Fld Z h b "java/lang/AbstractStringBuilder" "coder" "B" (.int (0 : Int32))) :
    Met l Z EL true (⟨"java/lang/AbstractStringBuilder", "isLatin1", "()Z"⟩ : MethodName) jdk_68_method_68_code 1 (some .boolean) [] ({ frames := 0, cells := 0, slots := 0, locals := 0 } : Room) #[(.ref b)] h [] (fun r h' => r = some (.int (1 : Int32)) ∧ h = h') := by
  have hw := G.hw
  obtain ⟨zc, Sc, hzc⟩ := G.cs
  obtain ⟨vf, Sf, hvf⟩ := G.fm
  refine Met.of (plainFor_of_name pn_75696c646572_2) G.ew O ?_
  intro p e s m below meth c T0 C0 S0
  refine Endw.eq (g' := mkF m 0 #[.val (.ref b)] []) (by first | rfl | (simp [entryFrame, mkF, argsToLocals, own_cI, own_cR, own_cN, own_cJ, own_cD, maxLocals]; done)) ?_
  refine C0.getS (W54 hw) Sc d18_0 (pc' := 3) rfl ?_
  intro T1 C1
  show Endw p e below T1 (mkF m 3 #[.val (.ref b)] [(.int zc)]) _
  refine Endw.st (T' := T1) (g' := (mkF m 7 #[.val (.ref b)] [(.ref b)])) (fun tt_ kk_ => XS.ifNo C1.here C1.hx rfl (C1.dec d18_3) rfl (XT.i0_eq_f hzc) (XS.aloadN C1.here C1.hx rfl (C1.dec d18_6) rfl rfl kk_)) ?_
  refine C1.getF (W57 hw) F0 d18_7 (pc' := 10) rfl ?_
  intro T2 C2
  show Endw p e below T2 (mkF m 10 #[.val (.ref b)] [(.int (0 : Int32))]) _
  refine Endw.st (T' := T2) (g' := (mkF m 18 #[.val (.ref b)] [(.int (1 : Int32))])) (fun tt_ kk_ => XS.ifNo C2.here C2.hx rfl (C2.dec d18_10) rfl (XT.i0_ne_f (by decide)) (XS.iconst C2.here C2.hx rfl (C2.dec d18_13) (XS.goto C2.here C2.hx rfl (pc0 := 14) rfl (C2.dec d18_14) (by decide) rfl kk_))) ?_
  exact C2.retI (t := .boolean) rfl (by simp) rfl d18_18 (by decide) (by decide) ⟨rfl, rfl⟩
set_option maxRecDepth 65536 in
set_option maxHeartbeats 40000000 in
theorem rm_checkLen (l : Launch) (Z : State) (a0 : Array Value) (EL : List (String × Nat)) (G : Glob Z a0 EL) (x y : Int32) (hxy : ¬ y < x) (h : Heap) (O : Ext Z.heap h)  :
    Met l Z EL true (⟨"java/util/Arrays", "checkLength", "(II)V"⟩ : MethodName) jdk_65_method_131_code 2 none [] ({ frames := 0, cells := 0, slots := 0, locals := 0 } : Room) #[(.int x), (.int y)] h [] (fun r h' => r = none ∧ h = h') := by
  have hw := G.hw
  obtain ⟨zc, Sc, hzc⟩ := G.cs
  obtain ⟨vf, Sf, hvf⟩ := G.fm
  refine Met.of (plainFor_of_name pn_417272617973_9) G.ew O ?_
  intro p e s m below meth c T0 C0 S0
  refine Endw.eq (g' := mkF m 0 #[.val (.int x), .val (.int y)] []) (by first | rfl | (simp [entryFrame, mkF, argsToLocals, own_cI, own_cR, own_cN, own_cJ, own_cD, maxLocals]; done)) ?_
  refine Endw.st (T' := T0) (g' := (mkF m 37 #[.val (.int x), .val (.int y)] [])) (fun tt_ kk_ => XS.iloadN C0.here C0.hx rfl (C0.dec d19_0) rfl (XS.iloadN C0.here C0.hx rfl (C0.dec d19_1) rfl (XS.icmpYes C0.here C0.hx rfl (pc0 := 2) rfl (C0.dec d19_2) rfl (XT.ii_ge_t hxy) (by decide) rfl kk_))) ?_
  exact C0.retV d19_37 (by decide) (by decide) ⟨rfl, rfl⟩
set_option maxRecDepth 65536 in
set_option maxHeartbeats 40000000 in
theorem rm_copyRB (l : Launch) (Z : State) (a0 : Array Value) (EL : List (String × Nat)) (G : Glob Z a0 EL) (t : Addr) (kb : ClassId) (cs : List Int32) (cap : Nat) (h : Heap) (O : Ext Z.heap h) (V : Arv Z h t kb .byte (Int32.ofNat cap) (bys cs) (.int 0)) (hlt : cs.length < cap) (hcap : cap ≤ 4000) (hl : cs.length ≤ 40) :
    Met l Z EL true (⟨"java/util/Arrays", "copyOfRangeByte", "([BII)[B"⟩ : MethodName) jdk_65_method_133_code 5 (some (.array .byte)) [] ({ frames := 1, cells := 1, slots := 40, locals := 18 } : Room) #[(.ref t), (.int (0 : Int32)), (.int (Int32.ofNat cs.length))] h [] (fun r h' => ∃ (d : Addr) (kd : ClassId), r = some (.ref d) ∧ Keep h h' [] ∧ h.size ≤ d ∧ Z.heap.size ≤ d ∧ Arv Z h' d kd .byte (Int32.ofNat cs.length) (bys cs) (.int 0)) := by
  have hw := G.hw
  obtain ⟨zc, Sc, hzc⟩ := G.cs
  obtain ⟨vf, Sf, hvf⟩ := G.fm
  refine Met.of (plainFor_of_name pn_417272617973_9) G.ew O ?_
  intro p e s m below meth c T0 C0 S0
  refine Endw.eq (g' := mkF m 0 #[.val (.ref t), .val (.int (0 : Int32)), .val (.int (Int32.ofNat cs.length)), .unset, .unset] []) (by first | rfl | (simp [entryFrame, mkF, argsToLocals, own_cI, own_cR, own_cN, own_cJ, own_cD, maxLocals]; done)) ?_
  refine Endw.st (T' := T0) (g' := (mkF m 2 #[.val (.ref t), .val (.int (0 : Int32)), .val (.int (Int32.ofNat cs.length)), .unset, .unset] [(.int (Int32.ofNat cs.length)), (.int (0 : Int32))])) (fun tt_ kk_ => XS.iloadN C0.here C0.hx rfl (C0.dec d20_0) rfl (XS.iloadN C0.here C0.hx rfl (C0.dec d20_1) rfl kk_)) ?_
  refine C0.static (y := (⟨"java/util/Arrays", "checkLength", "(II)V"⟩ : MethodName)) (W := 0) (argsL := [(.int (0 : Int32)), (.int (Int32.ofNat cs.length))]) (rest := []) (W143 hw) (W144 hw) (W145 hw) (W138 hw) (by decide) (rm_checkLen l Z a0 EL G (0 : Int32) (Int32.ofNat cs.length) (own_nn (by omega)) h C0.old) (fun _ => rfl) rfl all0 (by decide) (by decide) (by decide) (by decide) (lenOf pd_2849492956 rfl) rfl (Nat.le_of_ble_eq_true rfl) rfl d20_2 (pc' := 5) rfl ?_
  intro vm1 T1 h1 v1 C1 A1 M1 q1
  obtain ⟨rfl, rfl⟩ := q1
  show Endw p e below T1 (mkF m 5 #[.val (.ref t), .val (.int (0 : Int32)), .val (.int (Int32.ofNat cs.length)), .unset, .unset] []) _
  refine Endw.st (T' := T1) (g' := (mkF m 8 #[.val (.ref t), .val (.int (0 : Int32)), .val (.int (Int32.ofNat cs.length)), .unset, .unset] [(.int ((Int32.ofNat cs.length) - (0 : Int32)))])) (fun tt_ kk_ => XS.iloadN C1.here C1.hx rfl (C1.dec d20_5) rfl (XS.iloadN C1.here C1.hx rfl (C1.dec d20_6) rfl (XS.isub C1.here C1.hx rfl (C1.dec d20_7) rfl kk_))) ?_
  rw [show ((Int32.ofNat cs.length) - (0 : Int32)) = (Int32.ofNat cs.length) from own_sub0 _]
  refine Endw.st (T' := T1) (g' := (mkF m 10 #[.val (.ref t), .val (.int (0 : Int32)), .val (.int (Int32.ofNat cs.length)), .val (.int (Int32.ofNat cs.length)), .unset] [(.int (Int32.ofNat cs.length))])) (fun tt_ kk_ => XS.istoreN C1.here C1.hx rfl (C1.dec d20_8) rfl (l' := #[.val (.ref t), .val (.int (0 : Int32)), .val (.int (Int32.ofNat cs.length)), .val (.int (Int32.ofNat cs.length)), .unset]) rfl (XS.iloadN C1.here C1.hx rfl (C1.dec d20_9) rfl kk_)) ?_
  refine C1.newA (aty := .byte) (z := (Int32.ofNat cs.length)) (cap := 40) (vs := []) (W22 hw) d20_10 (pc' := 12) rfl (own_nn (by omega)) (by rw [own_nc (by omega)]; exact hl) (by decide) (by decide) (by decide) rfl ?_
  intro T2 h2 a2 kA2 C2 K2 A2 ge2 zg2 V2 S2
  show Endw p e below T2 (mkF m 12 #[.val (.ref t), .val (.int (0 : Int32)), .val (.int (Int32.ofNat cs.length)), .val (.int (Int32.ofNat cs.length)), .unset] [(.ref a2)]) _
  refine Endw.st (T' := T2) (g' := (mkF m 20 #[.val (.ref t), .val (.int (0 : Int32)), .val (.int (Int32.ofNat cs.length)), .val (.int (Int32.ofNat cs.length)), .val (.ref a2)] [(.ref t), (.int (0 : Int32)), (.ref a2), (.int (0 : Int32)), (.ref t)])) (fun tt_ kk_ => XS.astore C2.here C2.hx rfl (C2.dec d20_12) rfl rfl (l' := #[.val (.ref t), .val (.int (0 : Int32)), .val (.int (Int32.ofNat cs.length)), .val (.int (Int32.ofNat cs.length)), .val (.ref a2)]) rfl (XS.aloadN C2.here C2.hx rfl (C2.dec d20_14) rfl rfl (XS.iloadN C2.here C2.hx rfl (C2.dec d20_15) rfl (XS.aload C2.here C2.hx rfl (C2.dec d20_16) rfl rfl (XS.iconst C2.here C2.hx rfl (C2.dec d20_18) (XS.aloadN C2.here C2.hx rfl (C2.dec d20_19) rfl rfl kk_)))))) ?_
  have f3 := (V.keep K2 nin0)
  refine C2.len f3 d20_20 (pc' := 21) rfl ?_
  show Endw p e below T2 (mkF m 21 #[.val (.ref t), .val (.int (0 : Int32)), .val (.int (Int32.ofNat cs.length)), .val (.int (Int32.ofNat cs.length)), .val (.ref a2)] [(.int (Int32.ofNat cap)), (.int (0 : Int32)), (.ref a2), (.int (0 : Int32)), (.ref t)]) _
  refine Endw.st (T' := T2) (g' := (mkF m 23 #[.val (.ref t), .val (.int (0 : Int32)), .val (.int (Int32.ofNat cs.length)), .val (.int (Int32.ofNat cs.length)), .val (.ref a2)] [(.int ((Int32.ofNat cap) - (0 : Int32))), (.int (0 : Int32)), (.ref a2), (.int (0 : Int32)), (.ref t)])) (fun tt_ kk_ => XS.iloadN C2.here C2.hx rfl (C2.dec d20_21) rfl (XS.isub C2.here C2.hx rfl (C2.dec d20_22) rfl kk_)) ?_
  rw [show ((Int32.ofNat cap) - (0 : Int32)) = (Int32.ofNat cap) from own_sub0 _]
  refine Endw.st (T' := T2) (g' := (mkF m 24 #[.val (.ref t), .val (.int (0 : Int32)), .val (.int (Int32.ofNat cs.length)), .val (.int (Int32.ofNat cs.length)), .val (.ref a2)] [(.int (Int32.ofNat cs.length)), (.int (Int32.ofNat cap)), (.int (0 : Int32)), (.ref a2), (.int (0 : Int32)), (.ref t)])) (fun tt_ kk_ => XS.iloadN C2.here C2.hx rfl (C2.dec d20_23) rfl kk_) ?_
  refine C2.static (y := (⟨"java/lang/Math", "min", "(II)I"⟩ : MethodName)) (W := 4) (argsL := [(.int (Int32.ofNat cap)), (.int (Int32.ofNat cs.length))]) (rest := [(.int (0 : Int32)), (.ref a2), (.int (0 : Int32)), (.ref t)]) (W146 hw) (W147 hw) (W149 hw) (W148 hw) (by decide) (rm_min l Z a0 EL G (Int32.ofNat cap) (Int32.ofNat cs.length) h2 C2.old) (fun _ => rfl) rfl all0 (by decide) (by decide) (by decide) (by decide) (lenOf pd_2849492949 rfl) rfl (Nat.le_of_ble_eq_true rfl) rfl d20_24 (pc' := 27) rfl ?_
  intro vm4 T4 h4 v4 C4 A4 M4 q4
  rw [(own_min_r (by omega) (by omega))] at q4
  obtain ⟨rfl, rfl⟩ := q4
  show Endw p e below T4 (mkF m 27 #[.val (.ref t), .val (.int (0 : Int32)), .val (.int (Int32.ofNat cs.length)), .val (.int (Int32.ofNat cs.length)), .val (.ref a2)] [(.int (Int32.ofNat cs.length)), (.int (0 : Int32)), (.ref a2), (.int (0 : Int32)), (.ref t)]) _
  have f6 := (A4.safe V2.lt S2)
  refine C4.acopyNew (cs := cs) (cap := cap) (N := cs.length) (M := cs.length) (W := 0) (W150 hw) (W105 hw) (W103 hw) (W104 hw) f3 V2 (Nat.le_refl _) (by omega) (Nat.le_refl _) hcap (by omega) zg2 f6 rfl d20_27 (pc' := 30) rfl (by decide) (Nat.le_of_ble_eq_true rfl) (by decide) ?_
  intro T5 h5 C5 K5 A5 V5
  show Endw p e below T5 (mkF m 30 #[.val (.ref t), .val (.int (0 : Int32)), .val (.int (Int32.ofNat cs.length)), .val (.int (Int32.ofNat cs.length)), .val (.ref a2)] []) _
  refine Endw.st (T' := T5) (g' := (mkF m 32 #[.val (.ref t), .val (.int (0 : Int32)), .val (.int (Int32.ofNat cs.length)), .val (.int (Int32.ofNat cs.length)), .val (.ref a2)] [(.ref a2)])) (fun tt_ kk_ => XS.aload C5.here C5.hx rfl (C5.dec d20_30) rfl rfl kk_) ?_
  exact C5.retA (t := (.array .byte)) rfl rfl rfl rfl d20_32 (by decide) (by decide) ⟨a2, kA2, rfl, (Keep.trans (Keep.trans (Keep.refl h []) K2 all0) K5 (allS (Or.inr ge2) all0)), ge2, zg2, V5⟩
set_option maxRecDepth 65536 in
set_option maxHeartbeats 40000000 in
theorem rm_copyR (l : Launch) (Z : State) (a0 : Array Value) (EL : List (String × Nat)) (G : Glob Z a0 EL) (t : Addr) (kb : ClassId) (cs : List Int32) (cap : Nat) (h : Heap) (O : Ext Z.heap h) (V : Arv Z h t kb .byte (Int32.ofNat cap) (bys cs) (.int 0)) (hlt : cs.length < cap) (hcap : cap ≤ 4000) (hl : cs.length ≤ 40) :
    Met l Z EL true (⟨"java/util/Arrays", "copyOfRange", "([BII)[B"⟩ : MethodName) jdk_65_method_132_code 3 (some (.array .byte)) [] ({ frames := 2, cells := 1, slots := 40, locals := 34 } : Room) #[(.ref t), (.int (0 : Int32)), (.int (Int32.ofNat cs.length))] h [] (fun r h' => ∃ (d : Addr) (kd : ClassId), r = some (.ref d) ∧ Keep h h' [] ∧ h.size ≤ d ∧ Z.heap.size ≤ d ∧ Arv Z h' d kd .byte (Int32.ofNat cs.length) (bys cs) (.int 0)) := by
  have hw := G.hw
  obtain ⟨zc, Sc, hzc⟩ := G.cs
  obtain ⟨vf, Sf, hvf⟩ := G.fm
  refine Met.of (plainFor_of_name pn_417272617973_9) G.ew O ?_
  intro p e s m below meth c T0 C0 S0
  refine Endw.eq (g' := mkF m 0 #[.val (.ref t), .val (.int (0 : Int32)), .val (.int (Int32.ofNat cs.length))] []) (by first | rfl | (simp [entryFrame, mkF, argsToLocals, own_cI, own_cR, own_cN, own_cJ, own_cD, maxLocals]; done)) ?_
  refine Endw.st (T' := T0) (g' := (mkF m 6 #[.val (.ref t), .val (.int (0 : Int32)), .val (.int (Int32.ofNat cs.length))] [(.ref t), (.int (Int32.ofNat cs.length))])) (fun tt_ kk_ => XS.iloadN C0.here C0.hx rfl (C0.dec d21_0) rfl (XS.ifNo C0.here C0.hx rfl (C0.dec d21_1) rfl (XT.i0_ne_f (by decide)) (XS.iloadN C0.here C0.hx rfl (C0.dec d21_4) rfl (XS.aloadN C0.here C0.hx rfl (C0.dec d21_5) rfl rfl kk_)))) ?_
  refine C0.len V d21_6 (pc' := 7) rfl ?_
  show Endw p e below T0 (mkF m 7 #[.val (.ref t), .val (.int (0 : Int32)), .val (.int (Int32.ofNat cs.length))] [(.int (Int32.ofNat cap)), (.int (Int32.ofNat cs.length))]) _
  refine Endw.st (T' := T0) (g' := (mkF m 13 #[.val (.ref t), .val (.int (0 : Int32)), .val (.int (Int32.ofNat cs.length))] [(.int (Int32.ofNat cs.length)), (.int (0 : Int32)), (.ref t)])) (fun tt_ kk_ => XS.icmpNo C0.here C0.hx rfl (C0.dec d21_7) rfl (XT.ii_eq_f (fun q => absurd ((own_ieq (by omega) (by omega)).mp q) (by omega))) (XS.aloadN C0.here C0.hx rfl (C0.dec d21_10) rfl rfl (XS.iloadN C0.here C0.hx rfl (C0.dec d21_11) rfl (XS.iloadN C0.here C0.hx rfl (C0.dec d21_12) rfl kk_)))) ?_
  refine C0.static (y := (⟨"java/util/Arrays", "copyOfRangeByte", "([BII)[B"⟩ : MethodName)) (W := 0) (argsL := [(.ref t), (.int (0 : Int32)), (.int (Int32.ofNat cs.length))]) (rest := []) (W140 hw) (W141 hw) (W142 hw) (W138 hw) (by decide) (rm_copyRB l Z a0 EL G t kb cs cap h C0.old V hlt hcap hl) (fun _ => rfl) rfl all0 (by decide) (by decide) (by decide) (by decide) (lenOf pd_285b424949295b42 rfl) rfl (Nat.le_of_ble_eq_true rfl) rfl d21_13 (pc' := 16) rfl ?_
  intro vm1 T1 h1 v1 C1 A1 M1 q1
  obtain ⟨d1, kd1, rfl, K1, ge1, zg1, V1⟩ := q1
  show Endw p e below T1 (mkF m 16 #[.val (.ref t), .val (.int (0 : Int32)), .val (.int (Int32.ofNat cs.length))] [(.ref d1)]) _
  exact C1.retA (t := (.array .byte)) rfl rfl rfl rfl d21_16 (by decide) (by decide) ⟨d1, kd1, rfl, (Keep.trans (Keep.refl h []) K1 all0), ge1, zg1, V1⟩
set_option maxRecDepth 65536 in
set_option maxHeartbeats 40000000 in
theorem rm_strInitASB (l : Launch) (Z : State) (a0 : Array Value) (EL : List (String × Nat)) (G : Glob Z a0 EL) (a b t : Addr) (kb : ClassId) (cs : List Int32) (cap : Nat) (h : Heap) (O : Ext Z.heap h) (E0 : Exa Z h a "java/lang/String") (F0 : Fld Z h a "java/lang/String" "value" "[B" .null) (F1 : Fld Z h a "java/lang/String" "coder" "B" (.int (0 : Int32))) (za : Z.heap.size ≤ a) (B : Sb Z h b t kb cs cap) (hlt : cs.length < cap) (hl : cs.length ≤ 40) :
    Met l Z EL true (⟨"java/lang/String", "<init>", "(Ljava/lang/AbstractStringBuilder;Ljava/lang/Void;)V"⟩ : MethodName) jdk_42_method_150_code 5 none [] ({ frames := 3, cells := 1, slots := 40, locals := 49 } : Room) #[(.ref a), (.ref b), .null] h [a] (fun r h' => r = none ∧ ∃ (d : Addr) (kd : ClassId), Keep h h' [a] ∧ h.size ≤ d ∧ Z.heap.size ≤ d ∧ Str Z h' a d kd cs) := by
  have hw := G.hw
  obtain ⟨zc, Sc, hzc⟩ := G.cs
  obtain ⟨vf, Sf, hvf⟩ := G.fm
  refine Met.of (plainFor_of_name pn_537472696e67_5) G.ew O ?_
  intro p e s m below meth c T0 C0 S0
  refine Endw.eq (g' := mkF m 0 #[.val (.ref a), .val (.ref b), .val .null, .unset, .unset] []) (by first | rfl | (simp [entryFrame, mkF, argsToLocals, own_cI, own_cR, own_cN, own_cJ, own_cD, maxLocals]; done)) ?_
  refine Endw.st (T' := T0) (g' := (mkF m 1 #[.val (.ref a), .val (.ref b), .val .null, .unset, .unset] [(.ref a)])) (fun tt_ kk_ => XS.aloadN C0.here C0.hx rfl (C0.dec d22_0) rfl rfl kk_) ?_
  refine C0.initO (W14 hw) (W15 hw) (W16 hw) rfl d22_1 (pc' := 4) rfl (by decide) (W := 0) (Nat.le_of_ble_eq_true rfl) (by decide) ?_
  intro T1 C1
  show Endw p e below T1 (mkF m 4 #[.val (.ref a), .val (.ref b), .val .null, .unset, .unset] []) _
  refine Endw.st (T' := T1) (g' := (mkF m 5 #[.val (.ref a), .val (.ref b), .val .null, .unset, .unset] [(.ref b)])) (fun tt_ kk_ => XS.aloadN C1.here C1.hx rfl (C1.dec d22_4) rfl rfl kk_) ?_
  refine C1.virtual (y := (⟨"java/lang/AbstractStringBuilder", "getValue", "()[B"⟩ : MethodName)) (z := (⟨"java/lang/AbstractStringBuilder", "getValue", "()[B"⟩ : MethodName)) (W := 0) (a := b) (argsL := []) (rest := []) (W118 hw) (W119 hw) (fun _ q => notFace_of_selects (args := #[]) (mvT q (W121 hw))) (W121 hw) (W120 hw) (W122 hw) (W51 hw) (by decide) (rm_getValue l Z a0 EL G b t h C1.old B.2.2.1) (fun _ => rfl) rfl B.1 all0 (by decide) (by decide) (by decide) (by decide) (lenOf pd_28295b42 rfl) rfl (Nat.le_of_ble_eq_true rfl) rfl d22_5 (pc' := 8) rfl ?_
  intro vm2 T2 h2 v2 C2 A2 M2 q2
  obtain ⟨rfl, rfl⟩ := q2
  show Endw p e below T2 (mkF m 8 #[.val (.ref a), .val (.ref b), .val .null, .unset, .unset] [(.ref t)]) _
  refine Endw.st (T' := T2) (g' := (mkF m 10 #[.val (.ref a), .val (.ref b), .val .null, .val (.ref t), .unset] [(.ref b)])) (fun tt_ kk_ => XS.astoreN C2.here C2.hx rfl (C2.dec d22_8) rfl rfl (l' := #[.val (.ref a), .val (.ref b), .val .null, .val (.ref t), .unset]) rfl (XS.aloadN C2.here C2.hx rfl (C2.dec d22_9) rfl rfl kk_)) ?_
  refine C2.virtual (y := (⟨"java/lang/AbstractStringBuilder", "length", "()I"⟩ : MethodName)) (z := (⟨"java/lang/StringBuilder", "length", "()I"⟩ : MethodName)) (W := 0) (a := b) (argsL := []) (rest := []) (W123 hw) (W124 hw) (fun _ q => own_nf (own_plain (y := ({ cls := "java/lang/AbstractStringBuilder", name := "ensureCapacityInternal", desc := "(I)V" } : Jvm.MethodName)) (a0 := #[]) (mvT q (W84 hw)) (mvT q (W82 hw)))) (W126 hw) (W127 hw) (W128 hw) (W43 hw) (by decide) (rm_sbLen l Z a0 EL G b (Int32.ofNat cs.length) h C2.old B.1 B.2.1.2) (fun _ => rfl) rfl B.1 all0 (by decide) (by decide) (by decide) (by decide) (lenOf pd_282949 rfl) rfl (Nat.le_of_ble_eq_true rfl) rfl d22_10 (pc' := 13) rfl ?_
  intro vm3 T3 h3 v3 C3 A3 M3 q3
  obtain ⟨rfl, rfl⟩ := q3
  show Endw p e below T3 (mkF m 13 #[.val (.ref a), .val (.ref b), .val .null, .val (.ref t), .unset] [(.int (Int32.ofNat cs.length))]) _
  refine Endw.st (T' := T3) (g' := (mkF m 16 #[.val (.ref a), .val (.ref b), .val .null, .val (.ref t), .val (.int (Int32.ofNat cs.length))] [(.ref b)])) (fun tt_ kk_ => XS.istore C3.here C3.hx rfl (C3.dec d22_13) rfl (l' := #[.val (.ref a), .val (.ref b), .val .null, .val (.ref t), .val (.int (Int32.ofNat cs.length))]) rfl (XS.aloadN C3.here C3.hx rfl (C3.dec d22_15) rfl rfl kk_)) ?_
  refine C3.virtual (y := (⟨"java/lang/AbstractStringBuilder", "isLatin1", "()Z"⟩ : MethodName)) (z := (⟨"java/lang/AbstractStringBuilder", "isLatin1", "()Z"⟩ : MethodName)) (W := 0) (a := b) (argsL := []) (rest := []) (W131 hw) (W132 hw) (fun _ q => notFace_of_selects (args := #[]) (mvT q (W134 hw))) (W134 hw) (W133 hw) (W135 hw) (W51 hw) (by decide) (rm_asbLat l Z a0 EL G b h C3.old B.2.1.1) (fun _ => rfl) rfl B.1 all0 (by decide) (by decide) (by decide) (by decide) (lenOf pd_28295a rfl) rfl (Nat.le_of_ble_eq_true rfl) rfl d22_16 (pc' := 19) rfl ?_
  intro vm4 T4 h4 v4 C4 A4 M4 q4
  obtain ⟨rfl, rfl⟩ := q4
  show Endw p e below T4 (mkF m 19 #[.val (.ref a), .val (.ref b), .val .null, .val (.ref t), .val (.int (Int32.ofNat cs.length))] [(.int (1 : Int32))]) _
  refine Endw.st (T' := T4) (g' := (mkF m 24 #[.val (.ref a), .val (.ref b), .val .null, .val (.ref t), .val (.int (Int32.ofNat cs.length))] [(.int (0 : Int32)), (.ref a)])) (fun tt_ kk_ => XS.ifNo C4.here C4.hx rfl (C4.dec d22_19) rfl (XT.i0_eq_f (by decide)) (XS.aloadN C4.here C4.hx rfl (C4.dec d22_22) rfl rfl (XS.iconst C4.here C4.hx rfl (C4.dec d22_23) kk_))) ?_
  have f6 := (A4.safe E0.lt (A3.safe E0.lt (A2.safe E0.lt (S0 a (by simp)))))
  refine C4.putF (v := (.int (0 : Int32))) (W29 hw) F1 E0 (Or.inr ⟨(W30 hw), rfl, rfl⟩) (W4 hw) (ty := .byte) (by decide) rfl rfl za f6 d22_24 (pc' := 27) rfl ?_
  intro T5 h5 C5 K5 A5 Wr5
  have f7 := F1.same Wr5
  have f8 := F0.other Wr5 (Or.inr (slot_ne (Or.inr (W32 hw)) (Or.inr (W30 hw)) (by decide) (t := (.array .byte)) (t' := .byte) (by decide) (by decide)))
  show Endw p e below T5 (mkF m 27 #[.val (.ref a), .val (.ref b), .val .null, .val (.ref t), .val (.int (Int32.ofNat cs.length))] []) _
  refine Endw.st (T' := T5) (g' := (mkF m 32 #[.val (.ref a), .val (.ref b), .val .null, .val (.ref t), .val (.int (Int32.ofNat cs.length))] [(.int (Int32.ofNat cs.length)), (.int (0 : Int32)), (.ref t), (.ref a)])) (fun tt_ kk_ => XS.aloadN C5.here C5.hx rfl (C5.dec d22_27) rfl rfl (XS.aloadN C5.here C5.hx rfl (C5.dec d22_28) rfl rfl (XS.iconst C5.here C5.hx rfl (C5.dec d22_29) (XS.iload C5.here C5.hx rfl (C5.dec d22_30) rfl kk_)))) ?_
  have f9 := (B.2.2.2.1.keep K5 (ninS (Ne.symm (RoadKit.Exa.neArv E0 B.2.2.2.1 (W4 hw))) nin0))
  refine C5.static (y := (⟨"java/util/Arrays", "copyOfRange", "([BII)[B"⟩ : MethodName)) (W := 1) (argsL := [(.ref t), (.int (0 : Int32)), (.int (Int32.ofNat cs.length))]) (rest := [(.ref a)]) (W136 hw) (W137 hw) (W139 hw) (W138 hw) (by decide) (rm_copyR l Z a0 EL G t kb cs cap h5 C5.old f9 hlt B.le4 hl) (fun _ => rfl) rfl all0 (by decide) (by decide) (by decide) (by decide) (lenOf pd_285b424949295b42 rfl) rfl (Nat.le_of_ble_eq_true rfl) rfl d22_32 (pc' := 35) rfl ?_
  intro vm10 T10 h10 v10 C10 A10 M10 q10
  obtain ⟨d10, kd10, rfl, K10, ge10, zg10, V10⟩ := q10
  show Endw p e below T10 (mkF m 35 #[.val (.ref a), .val (.ref b), .val .null, .val (.ref t), .val (.int (Int32.ofNat cs.length))] [(.ref d10), (.ref a)]) _
  have f11 := ((E0.keep K5).keep K10)
  have f12 := (f8.keep K10 nin0)
  have f14 := (f7.keep K10 nin0)
  have f15 := (A10.safe (Nat.lt_of_lt_of_le E0.lt K5.1) (A5.safe E0.lt f6))
  refine C10.putF (v := (.ref d10)) (W31 hw) f12 f11 (Or.inr ⟨(W32 hw), rfl, rfl⟩) (W4 hw) (ty := (.array .byte)) (by decide) rfl rfl za f15 d22_35 (pc' := 38) rfl ?_
  intro T13 h13 C13 K13 A13 Wr13
  have f16 := f12.same Wr13
  have f17 := f14.other Wr13 (Or.inr (slot_ne (Or.inr (W30 hw)) (Or.inr (W32 hw)) (by decide) (t := .byte) (t' := (.array .byte)) (by decide) (by decide)))
  show Endw p e below T13 (mkF m 38 #[.val (.ref a), .val (.ref b), .val .null, .val (.ref t), .val (.int (Int32.ofNat cs.length))] []) _
  refine Endw.st (T' := T13) (g' := (mkF m 97 #[.val (.ref a), .val (.ref b), .val .null, .val (.ref t), .val (.int (Int32.ofNat cs.length))] [])) (fun tt_ kk_ => XS.goto C13.here C13.hx rfl (pc0 := 38) rfl (C13.dec d22_38) (by decide) rfl kk_) ?_
  have f18 := (V10.keep K13 (ninS (Ne.symm (Nat.ne_of_lt (Nat.lt_of_lt_of_le (Nat.lt_of_lt_of_le E0.lt K5.1) ge10))) nin0))
  have f19 := (f11.keep K13)
  exact C13.retV d22_97 (by decide) (by decide) ⟨rfl, d10, kd10, (Keep.trans (Keep.trans (Keep.trans (Keep.refl h [a]) K5 (allS (Or.inl (by simp)) all0)) K10 all0) K13 (allS (Or.inl (by simp)) all0)), (Nat.le_trans K5.1 ge10), zg10, ⟨f19, f17, f16, f18, B.2.2.2.2.1, by omega⟩⟩
set_option maxRecDepth 65536 in
set_option maxHeartbeats 40000000 in
theorem rm_strInitSB (l : Launch) (Z : State) (a0 : Array Value) (EL : List (String × Nat)) (G : Glob Z a0 EL) (a b t : Addr) (kb : ClassId) (cs : List Int32) (cap : Nat) (h : Heap) (O : Ext Z.heap h) (E0 : Exa Z h a "java/lang/String") (F0 : Fld Z h a "java/lang/String" "value" "[B" .null) (F1 : Fld Z h a "java/lang/String" "coder" "B" (.int (0 : Int32))) (za : Z.heap.size ≤ a) (B : Sb Z h b t kb cs cap) (hlt : cs.length < cap) (hl : cs.length ≤ 40) :
    Met l Z EL true (⟨"java/lang/String", "<init>", "(Ljava/lang/StringBuilder;)V"⟩ : MethodName) jdk_42_method_53_code 2 none [] ({ frames := 4, cells := 1, slots := 40, locals := 65 } : Room) #[(.ref a), (.ref b)] h [a] (fun r h' => r = none ∧ ∃ (d : Addr) (kd : ClassId), Keep h h' [a] ∧ h.size ≤ d ∧ Z.heap.size ≤ d ∧ Str Z h' a d kd cs) := by
  have hw := G.hw
  obtain ⟨zc, Sc, hzc⟩ := G.cs
  obtain ⟨vf, Sf, hvf⟩ := G.fm
  refine Met.of (plainFor_of_name pn_537472696e67_5) G.ew O ?_
  intro p e s m below meth c T0 C0 S0
  refine Endw.eq (g' := mkF m 0 #[.val (.ref a), .val (.ref b)] []) (by first | rfl | (simp [entryFrame, mkF, argsToLocals, own_cI, own_cR, own_cN, own_cJ, own_cD, maxLocals]; done)) ?_
  refine Endw.st (T' := T0) (g' := (mkF m 3 #[.val (.ref a), .val (.ref b)] [.null, (.ref b), (.ref a)])) (fun tt_ kk_ => XS.aloadN C0.here C0.hx rfl (C0.dec d23_0) rfl rfl (XS.aloadN C0.here C0.hx rfl (C0.dec d23_1) rfl rfl (XS.aconstNull C0.here C0.hx rfl (C0.dec d23_2) kk_))) ?_
  refine C0.special (y := (⟨"java/lang/String", "<init>", "(Ljava/lang/AbstractStringBuilder;Ljava/lang/Void;)V"⟩ : MethodName)) (W := 0) (a := a) (argsL := [(.ref b), .null]) (rest := []) rfl (W115 hw) (W116 hw) (W117 hw) (W5 hw) (by decide) (rm_strInitASB l Z a0 EL G a b t kb cs cap h C0.old E0 F0 F1 za B hlt hl) (fun _ => rfl) rfl (allS ⟨E0.lt, (S0 a (by simp))⟩ all0) (by decide) (by decide) (by decide) (by decide) (lenOf pd_13 rfl) rfl (Nat.le_of_ble_eq_true rfl) rfl d23_3 (pc' := 6) rfl ?_
  intro vm1 T1 h1 v1 C1 A1 M1 q1
  obtain ⟨rfl, d1, kd1, K1, ge1, zg1, Z1⟩ := q1
  show Endw p e below T1 (mkF m 6 #[.val (.ref a), .val (.ref b)] []) _
  exact C1.retV d23_6 (by decide) (by decide) ⟨rfl, d1, kd1, (Keep.trans (Keep.refl h [a]) K1 (allS (Or.inl (by simp)) all0)), ge1, zg1, Z1⟩
set_option maxRecDepth 65536 in
set_option maxHeartbeats 40000000 in
theorem rm_toString (l : Launch) (Z : State) (a0 : Array Value) (EL : List (String × Nat)) (G : Glob Z a0 EL) (b t : Addr) (kb : ClassId) (cs : List Int32) (cap : Nat) (h : Heap) (O : Ext Z.heap h) (B : Sb Z h b t kb cs cap) (hlt : cs.length < cap) (hl : cs.length ≤ 40) :
    Met l Z EL true (⟨"java/lang/StringBuilder", "toString", "()Ljava/lang/String;"⟩ : MethodName) jdk_67_method_42_code 1 (some (.object "java/lang/String")) [] ({ frames := 5, cells := 2, slots := 44, locals := 79 } : Room) #[(.ref b)] h [] (fun r h' => ∃ (a d : Addr) (kd : ClassId), r = some (.ref a) ∧ Keep h h' [] ∧ h.size ≤ a ∧ h.size ≤ d ∧ Z.heap.size ≤ a ∧ Z.heap.size ≤ d ∧ Str Z h' a d kd cs) := by
  have hw := G.hw
  obtain ⟨zc, Sc, hzc⟩ := G.cs
  obtain ⟨vf, Sf, hvf⟩ := G.fm
  refine Met.of (plainFor_of_name pn_75696c646572_6) G.ew O ?_
  intro p e s m below meth c T0 C0 S0
  refine Endw.eq (g' := mkF m 0 #[.val (.ref b)] []) (by first | rfl | (simp [entryFrame, mkF, argsToLocals, own_cI, own_cR, own_cN, own_cJ, own_cD, maxLocals]; done)) ?_
  refine C0.new (W111 hw) (W4 hw) (W5 hw) d24_0 (pc' := 3) rfl (by decide) (by decide) ?_
  intro T1 h1 a1 C1 K1 A1 ge1 zg1 E1 D1 S1
  show Endw p e below T1 (mkF m 3 #[.val (.ref b)] [(.ref a1)]) _
  refine Endw.st (T' := T1) (g' := (mkF m 5 #[.val (.ref b)] [(.ref b), (.ref a1), (.ref a1)])) (fun tt_ kk_ => XS.dup C1.here C1.hx rfl (C1.dec d24_3) rfl rfl (XS.aloadN C1.here C1.hx rfl (C1.dec d24_4) rfl rfl kk_)) ?_
  have f2 := (B.keep K1 nin0 nin0)
  have f3 : Fld Z h1 a1 "java/lang/String" "value" "[B" .null := D1 (Or.inr (W32 hw)) (ty := (.array .byte)) (by decide)
  have f4 : Fld Z h1 a1 "java/lang/String" "coder" "B" (.int (0 : Int32)) := D1 (Or.inr (W30 hw)) (ty := .byte) (by decide)
  refine C1.special (y := (⟨"java/lang/String", "<init>", "(Ljava/lang/StringBuilder;)V"⟩ : MethodName)) (W := 1) (a := a1) (argsL := [(.ref b)]) (rest := [(.ref a1)]) rfl (W112 hw) (W113 hw) (W114 hw) (W5 hw) (by decide) (rm_strInitSB l Z a0 EL G a1 b t kb cs cap h1 C1.old E1 f3 f4 zg1 f2 hlt hl) (fun _ => rfl) rfl (allS ⟨E1.lt, S1⟩ all0) (by decide) (by decide) (by decide) (by decide) (lenOf pd_20 rfl) rfl (Nat.le_of_ble_eq_true rfl) rfl d24_5 (pc' := 8) rfl ?_
  intro vm5 T5 h5 v5 C5 A5 M5 q5
  obtain ⟨rfl, d5, kd5, K5, ge5, zg5, Z5⟩ := q5
  show Endw p e below T5 (mkF m 8 #[.val (.ref b)] [(.ref a1)]) _
  exact C5.retA (t := (.object "java/lang/String")) rfl rfl rfl rfl d24_8 (by decide) (by decide) ⟨a1, d5, kd5, rfl, (Keep.trans (Keep.trans (Keep.refl h []) K1 all0) K5 (allS (Or.inr ge1) all0)), ge1, (Nat.le_trans K1.1 ge5), zg1, zg5, Z5⟩
set_option maxRecDepth 65536 in
set_option maxHeartbeats 40000000 in
theorem rm_oi000 (l : Launch) (Z : State) (a0 : Array Value) (EL : List (String × Nat)) (G : Glob Z a0 EL) (d a t : Addr) (kb : ClassId) (x y : Int32) (h : Heap) (O : Ext Z.heap h) (F0 : Fld Z h d "com/example/frugal_orm/frugalorm/Dialect" "nullsFirst" "Z" (.int (0 : Int32))) (S : Str Z h a t kb [x, y]) :
    Met l Z EL false (⟨"com/example/frugal_orm/frugalorm/Dialect", "orderItems", "(Ljava/lang/String;ZZ)Ljava/lang/String;"⟩ : MethodName) prog_7_method_6_code 6 (some (.object "java/lang/String")) [] ({ frames := 6, cells := 6, slots := 68, locals := 91 } : Room) #[(.ref d), (.ref a), (.int (0 : Int32)), (.int (0 : Int32))] h [] (fun r h' => ∃ (a t : Addr) (kb : ClassId), r = some (.ref a) ∧ Keep h h' [] ∧ h.size ≤ a ∧ h.size ≤ t ∧ Z.heap.size ≤ a ∧ Z.heap.size ≤ t ∧ Str Z h' a t kb (([] ++ [x, y]) ++ [])) := by
  have hw := G.hw
  obtain ⟨zc, Sc, hzc⟩ := G.cs
  obtain ⟨vf, Sf, hvf⟩ := G.fm
  refine Met.of (plainFor_of_name pn_69616c656374_0) G.ew O ?_
  intro p e s m below meth c T0 C0 S0
  refine Endw.eq (g' := mkF m 0 #[.val (.ref d), .val (.ref a), .val (.int (0 : Int32)), .val (.int (0 : Int32)), .unset, .unset] []) (by first | rfl | (simp [entryFrame, mkF, argsToLocals, own_cI, own_cR, own_cN, own_cJ, own_cD, maxLocals]; done)) ?_
  refine Endw.st (T' := T0) (g' := (mkF m 9 #[.val (.ref d), .val (.ref a), .val (.int (0 : Int32)), .val (.int (0 : Int32)), .unset, .unset] [])) (fun tt_ kk_ => XS.iloadN C0.here C0.hx rfl (C0.dec d25_0) rfl (XS.ifYes C0.here C0.hx rfl (pc0 := 1) rfl (C0.dec d25_1) rfl (XT.i0_eq_t (by decide)) (by decide) rfl kk_)) ?_
  refine C0.ldcC (N := 0) (vs := (bys [])) (z := (0 : Int32)) (W184 hw) G.wS (by rw [G.el]; decide) ⟨by decide, by decide⟩ (by decide) (by decide) (by decide) (by decide) (by decide) (by decide) d25_9 (pc' := 11) rfl rfl ?_
  intro vm1 T1 h1 a1 b1 kA1 C1 K1 A1 E1 F1 f1 V1 r1
  have Z1 : Str Z h1 a1 b1 kA1 [] := ⟨E1, F1, f1, V1, own_c0, by decide⟩
  show Endw p e below T1 (mkF m 11 #[.val (.ref d), .val (.ref a), .val (.int (0 : Int32)), .val (.int (0 : Int32)), .unset, .unset] [(.ref a1)]) _
  refine Endw.st (T' := T1) (g' := (mkF m 67 #[.val (.ref d), .val (.ref a), .val (.int (0 : Int32)), .val (.int (0 : Int32)), .val (.ref a1), .unset] [])) (fun tt_ kk_ => XS.astore C1.here C1.hx rfl (C1.dec d25_11) rfl rfl (l' := #[.val (.ref d), .val (.ref a), .val (.int (0 : Int32)), .val (.int (0 : Int32)), .val (.ref a1), .unset]) rfl (XS.iloadN C1.here C1.hx rfl (C1.dec d25_13) rfl (XS.ifYes C1.here C1.hx rfl (pc0 := 14) rfl (C1.dec d25_14) rfl (XT.i0_eq_t (by decide)) (by decide) rfl kk_))) ?_
  refine C1.new (W41 hw) (W42 hw) (W43 hw) d25_67 (pc' := 70) rfl (by decide) (by decide) ?_
  intro T2 h2 a2 C2 K2 A2 ge2 zg2 E2 D2 S2
  show Endw p e below T2 (mkF m 70 #[.val (.ref d), .val (.ref a), .val (.int (0 : Int32)), .val (.int (0 : Int32)), .val (.ref a1), .unset] [(.ref a2)]) _
  refine Endw.st (T' := T2) (g' := (mkF m 71 #[.val (.ref d), .val (.ref a), .val (.int (0 : Int32)), .val (.int (0 : Int32)), .val (.ref a1), .unset] [(.ref a2), (.ref a2)])) (fun tt_ kk_ => XS.dup C2.here C2.hx rfl (C2.dec d25_70) rfl rfl kk_) ?_
  have f3 : Fld Z h2 a2 "java/lang/AbstractStringBuilder" "value" "[B" .null := D2 (Or.inl (W56 hw)) (ty := (.array .byte)) (by decide)
  have f4 : Fld Z h2 a2 "java/lang/AbstractStringBuilder" "coder" "B" (.int (0 : Int32)) := D2 (Or.inl (W58 hw)) (ty := .byte) (by decide)
  have f5 : Fld Z h2 a2 "java/lang/AbstractStringBuilder" "count" "I" (.int (0 : Int32)) := D2 (Or.inl (W80 hw)) (ty := .int) (by decide)
  refine C2.special (y := (⟨"java/lang/StringBuilder", "<init>", "()V"⟩ : MethodName)) (W := 1) (a := a2) (argsL := []) (rest := [(.ref a2)]) rfl (W44 hw) (W45 hw) (W46 hw) (W43 hw) (by decide) (rm_sbInit l Z a0 EL G a2 h2 C2.old E2 f3 f4 f5 zg2) (fun _ => rfl) rfl all0 (by decide) (by decide) (by decide) (by decide) (lenOf pd_282956 rfl) rfl (Nat.le_of_ble_eq_true rfl) rfl d25_71 (pc' := 74) rfl ?_
  intro vm6 T6 h6 v6 C6 A6 M6 q6
  obtain ⟨rfl, t6, kb6, K6, ge6, zg6, Z6⟩ := q6
  show Endw p e below T6 (mkF m 74 #[.val (.ref d), .val (.ref a), .val (.int (0 : Int32)), .val (.int (0 : Int32)), .val (.ref a1), .unset] [(.ref a2)]) _
  refine Endw.st (T' := T6) (g' := (mkF m 75 #[.val (.ref d), .val (.ref a), .val (.int (0 : Int32)), .val (.int (0 : Int32)), .val (.ref a1), .unset] [(.ref a), (.ref a2)])) (fun tt_ kk_ => XS.aloadN C6.here C6.hx rfl (C6.dec d25_74) rfl rfl kk_) ?_
  have f7 := (((S.keep K1 nin0 nin0).keep K2 nin0 nin0).keep K6 (ninS (Nat.ne_of_lt (Nat.lt_of_lt_of_le (Nat.lt_of_lt_of_le S.1.lt K1.1) ge2)) nin0) (ninS (Nat.ne_of_lt (Nat.lt_of_lt_of_le (Nat.lt_of_lt_of_le S.2.2.2.1.lt K1.1) ge2)) nin0))
  refine C6.virtual (y := (⟨"java/lang/StringBuilder", "append", "(Ljava/lang/String;)Ljava/lang/StringBuilder;"⟩ : MethodName)) (z := (⟨"java/lang/StringBuilder", "append", "(Ljava/lang/String;)Ljava/lang/StringBuilder;"⟩ : MethodName)) (W := 0) (a := a2) (argsL := [(.ref a)]) (rest := []) (W59 hw) (W60 hw) (fun _ q => notFace_of_selects (args := #[]) (mvT q (W62 hw))) (W62 hw) (W61 hw) (W63 hw) (W43 hw) (by decide) (rm_sbAppend l Z a0 EL G a2 t6 kb6 [] 16 a t kb [x, y] h6 C6.old Z6 f7 (Nat.le_of_ble_eq_true rfl) zg2 zg6) (fun _ => rfl) rfl Z6.1 (allS ⟨Z6.2.2.2.1.lt, (own_safe_new (M6 rfl) ge6)⟩ all0) (by decide) (by decide) (by decide) (by decide) (lenOf pd_17 rfl) rfl (Nat.le_of_ble_eq_true rfl) rfl d25_75 (pc' := 78) rfl ?_
  intro vm8 T8 h8 v8 C8 A8 M8 q8
  obtain ⟨rfl, K8, Z8⟩ := q8
  show Endw p e below T8 (mkF m 78 #[.val (.ref d), .val (.ref a), .val (.int (0 : Int32)), .val (.int (0 : Int32)), .val (.ref a1), .unset] [(.ref a2)]) _
  refine Endw.st (T' := T8) (g' := (mkF m 80 #[.val (.ref d), .val (.ref a), .val (.int (0 : Int32)), .val (.int (0 : Int32)), .val (.ref a1), .unset] [(.ref a1), (.ref a2)])) (fun tt_ kk_ => XS.aload C8.here C8.hx rfl (C8.dec d25_78) rfl rfl kk_) ?_
  have f9 := (((Z1.keep K2 nin0 nin0).keep K6 (ninS (Nat.ne_of_lt (Nat.lt_of_lt_of_le E1.lt ge2)) nin0) (ninS (Nat.ne_of_lt (Nat.lt_of_lt_of_le V1.lt ge2)) nin0)).keep K8 (ninS (Nat.ne_of_lt (Nat.lt_of_lt_of_le E1.lt ge2)) (ninS (Nat.ne_of_lt (Nat.lt_of_lt_of_le (Nat.lt_of_lt_of_le E1.lt K2.1) ge6)) nin0)) (ninS (Nat.ne_of_lt (Nat.lt_of_lt_of_le V1.lt ge2)) (ninS (Nat.ne_of_lt (Nat.lt_of_lt_of_le (Nat.lt_of_lt_of_le V1.lt K2.1) ge6)) nin0)))
  have f11 := (A8.safe Z6.2.2.2.1.lt (own_safe_new (M6 rfl) ge6))
  refine C8.virtual (y := (⟨"java/lang/StringBuilder", "append", "(Ljava/lang/String;)Ljava/lang/StringBuilder;"⟩ : MethodName)) (z := (⟨"java/lang/StringBuilder", "append", "(Ljava/lang/String;)Ljava/lang/StringBuilder;"⟩ : MethodName)) (W := 0) (a := a2) (argsL := [(.ref a1)]) (rest := []) (W59 hw) (W60 hw) (fun _ q => notFace_of_selects (args := #[]) (mvT q (W62 hw))) (W62 hw) (W61 hw) (W63 hw) (W43 hw) (by decide) (rm_sbAppend l Z a0 EL G a2 t6 kb6 ([] ++ [x, y]) 16 a1 b1 kA1 [] h8 C8.old Z8 f9 (Nat.le_of_ble_eq_true rfl) zg2 zg6) (fun _ => rfl) rfl Z8.1 (allS ⟨(Nat.lt_of_lt_of_le Z6.2.2.2.1.lt K8.1), f11⟩ all0) (by decide) (by decide) (by decide) (by decide) (lenOf pd_17 rfl) rfl (Nat.le_of_ble_eq_true rfl) rfl d25_80 (pc' := 83) rfl ?_
  intro vm10 T10 h10 v10 C10 A10 M10 q10
  obtain ⟨rfl, K10, Z10⟩ := q10
  show Endw p e below T10 (mkF m 83 #[.val (.ref d), .val (.ref a), .val (.int (0 : Int32)), .val (.int (0 : Int32)), .val (.ref a1), .unset] [(.ref a2)]) _
  refine C10.virtual (y := (⟨"java/lang/StringBuilder", "toString", "()Ljava/lang/String;"⟩ : MethodName)) (z := (⟨"java/lang/StringBuilder", "toString", "()Ljava/lang/String;"⟩ : MethodName)) (W := 0) (a := a2) (argsL := []) (rest := []) (W106 hw) (W107 hw) (fun _ q => notFace_of_selects (args := #[]) (mvT q (W109 hw))) (W109 hw) (W108 hw) (W110 hw) (W43 hw) (by decide) (rm_toString l Z a0 EL G a2 t6 kb6 (([] ++ [x, y]) ++ []) 16 h10 C10.old Z10 (Nat.le_of_ble_eq_true rfl) (Nat.le_of_ble_eq_true rfl)) (fun _ => rfl) rfl Z10.1 all0 (by decide) (by decide) (by decide) (by decide) (lenOf pd_2 rfl) rfl (Nat.le_of_ble_eq_true rfl) rfl d25_83 (pc' := 86) rfl ?_
  intro vm12 T12 h12 v12 C12 A12 M12 q12
  obtain ⟨a12, d12, kd12, rfl, K12, ge12, gd12, zg12, zd12, Z12⟩ := q12
  show Endw p e below T12 (mkF m 86 #[.val (.ref d), .val (.ref a), .val (.int (0 : Int32)), .val (.int (0 : Int32)), .val (.ref a1), .unset] [(.ref a12)]) _
  refine Endw.st (T' := T12) (g' := (mkF m 90 #[.val (.ref d), .val (.ref a), .val (.int (0 : Int32)), .val (.int (0 : Int32)), .val (.ref a1), .val (.ref a12)] [(.ref a12)])) (fun tt_ kk_ => XS.astore C12.here C12.hx rfl (C12.dec d25_86) rfl rfl (l' := #[.val (.ref d), .val (.ref a), .val (.int (0 : Int32)), .val (.int (0 : Int32)), .val (.ref a1), .val (.ref a12)]) rfl (XS.aload C12.here C12.hx rfl (C12.dec d25_88) rfl rfl kk_)) ?_
  exact C12.retA (t := (.object "java/lang/String")) rfl rfl rfl rfl d25_90 (by decide) (by decide) ⟨a12, d12, kd12, rfl, (Keep.trans (Keep.trans (Keep.trans (Keep.trans (Keep.trans (Keep.trans (Keep.refl h []) K1 all0) K2 all0) K6 (allS (Or.inr (Nat.le_trans K1.1 ge2)) all0)) K8 (allS (Or.inr (Nat.le_trans K1.1 ge2)) (allS (Or.inr (Nat.le_trans (Nat.le_trans K1.1 K2.1) ge6)) all0))) K10 (allS (Or.inr (Nat.le_trans K1.1 ge2)) (allS (Or.inr (Nat.le_trans (Nat.le_trans K1.1 K2.1) ge6)) all0))) K12 all0), (Nat.le_trans (Nat.le_trans K1.1 (Nat.le_trans K2.1 (Nat.le_trans K6.1 (Nat.le_trans K8.1 K10.1)))) ge12), (Nat.le_trans (Nat.le_trans K1.1 (Nat.le_trans K2.1 (Nat.le_trans K6.1 (Nat.le_trans K8.1 K10.1)))) gd12), zg12, zd12, Z12⟩
set_option maxRecDepth 65536 in
set_option maxHeartbeats 40000000 in
theorem rm_oi001 (l : Launch) (Z : State) (a0 : Array Value) (EL : List (String × Nat)) (G : Glob Z a0 EL) (d a t : Addr) (kb : ClassId) (x y : Int32) (h : Heap) (O : Ext Z.heap h) (F0 : Fld Z h d "com/example/frugal_orm/frugalorm/Dialect" "nullsFirst" "Z" (.int (1 : Int32))) (S : Str Z h a t kb [x, y]) :
    Met l Z EL false (⟨"com/example/frugal_orm/frugalorm/Dialect", "orderItems", "(Ljava/lang/String;ZZ)Ljava/lang/String;"⟩ : MethodName) prog_7_method_6_code 6 (some (.object "java/lang/String")) [] ({ frames := 6, cells := 6, slots := 68, locals := 91 } : Room) #[(.ref d), (.ref a), (.int (0 : Int32)), (.int (0 : Int32))] h [] (fun r h' => ∃ (a t : Addr) (kb : ClassId), r = some (.ref a) ∧ Keep h h' [] ∧ h.size ≤ a ∧ h.size ≤ t ∧ Z.heap.size ≤ a ∧ Z.heap.size ≤ t ∧ Str Z h' a t kb (([] ++ [x, y]) ++ [])) := by
  have hw := G.hw
  obtain ⟨zc, Sc, hzc⟩ := G.cs
  obtain ⟨vf, Sf, hvf⟩ := G.fm
  refine Met.of (plainFor_of_name pn_69616c656374_0) G.ew O ?_
  intro p e s m below meth c T0 C0 S0
  refine Endw.eq (g' := mkF m 0 #[.val (.ref d), .val (.ref a), .val (.int (0 : Int32)), .val (.int (0 : Int32)), .unset, .unset] []) (by first | rfl | (simp [entryFrame, mkF, argsToLocals, own_cI, own_cR, own_cN, own_cJ, own_cD, maxLocals]; done)) ?_
  refine Endw.st (T' := T0) (g' := (mkF m 9 #[.val (.ref d), .val (.ref a), .val (.int (0 : Int32)), .val (.int (0 : Int32)), .unset, .unset] [])) (fun tt_ kk_ => XS.iloadN C0.here C0.hx rfl (C0.dec d25_0) rfl (XS.ifYes C0.here C0.hx rfl (pc0 := 1) rfl (C0.dec d25_1) rfl (XT.i0_eq_t (by decide)) (by decide) rfl kk_)) ?_
  refine C0.ldcC (N := 0) (vs := (bys [])) (z := (0 : Int32)) (W184 hw) G.wS (by rw [G.el]; decide) ⟨by decide, by decide⟩ (by decide) (by decide) (by decide) (by decide) (by decide) (by decide) d25_9 (pc' := 11) rfl rfl ?_
  intro vm1 T1 h1 a1 b1 kA1 C1 K1 A1 E1 F1 f1 V1 r1
  have Z1 : Str Z h1 a1 b1 kA1 [] := ⟨E1, F1, f1, V1, own_c0, by decide⟩
  show Endw p e below T1 (mkF m 11 #[.val (.ref d), .val (.ref a), .val (.int (0 : Int32)), .val (.int (0 : Int32)), .unset, .unset] [(.ref a1)]) _
  refine Endw.st (T' := T1) (g' := (mkF m 67 #[.val (.ref d), .val (.ref a), .val (.int (0 : Int32)), .val (.int (0 : Int32)), .val (.ref a1), .unset] [])) (fun tt_ kk_ => XS.astore C1.here C1.hx rfl (C1.dec d25_11) rfl rfl (l' := #[.val (.ref d), .val (.ref a), .val (.int (0 : Int32)), .val (.int (0 : Int32)), .val (.ref a1), .unset]) rfl (XS.iloadN C1.here C1.hx rfl (C1.dec d25_13) rfl (XS.ifYes C1.here C1.hx rfl (pc0 := 14) rfl (C1.dec d25_14) rfl (XT.i0_eq_t (by decide)) (by decide) rfl kk_))) ?_
  refine C1.new (W41 hw) (W42 hw) (W43 hw) d25_67 (pc' := 70) rfl (by decide) (by decide) ?_
  intro T2 h2 a2 C2 K2 A2 ge2 zg2 E2 D2 S2
  show Endw p e below T2 (mkF m 70 #[.val (.ref d), .val (.ref a), .val (.int (0 : Int32)), .val (.int (0 : Int32)), .val (.ref a1), .unset] [(.ref a2)]) _
  refine Endw.st (T' := T2) (g' := (mkF m 71 #[.val (.ref d), .val (.ref a), .val (.int (0 : Int32)), .val (.int (0 : Int32)), .val (.ref a1), .unset] [(.ref a2), (.ref a2)])) (fun tt_ kk_ => XS.dup C2.here C2.hx rfl (C2.dec d25_70) rfl rfl kk_) ?_
  have f3 : Fld Z h2 a2 "java/lang/AbstractStringBuilder" "value" "[B" .null := D2 (Or.inl (W56 hw)) (ty := (.array .byte)) (by decide)
  have f4 : Fld Z h2 a2 "java/lang/AbstractStringBuilder" "coder" "B" (.int (0 : Int32)) := D2 (Or.inl (W58 hw)) (ty := .byte) (by decide)
  have f5 : Fld Z h2 a2 "java/lang/AbstractStringBuilder" "count" "I" (.int (0 : Int32)) := D2 (Or.inl (W80 hw)) (ty := .int) (by decide)
  refine C2.special (y := (⟨"java/lang/StringBuilder", "<init>", "()V"⟩ : MethodName)) (W := 1) (a := a2) (argsL := []) (rest := [(.ref a2)]) rfl (W44 hw) (W45 hw) (W46 hw) (W43 hw) (by decide) (rm_sbInit l Z a0 EL G a2 h2 C2.old E2 f3 f4 f5 zg2) (fun _ => rfl) rfl all0 (by decide) (by decide) (by decide) (by decide) (lenOf pd_282956 rfl) rfl (Nat.le_of_ble_eq_true rfl) rfl d25_71 (pc' := 74) rfl ?_
  intro vm6 T6 h6 v6 C6 A6 M6 q6
  obtain ⟨rfl, t6, kb6, K6, ge6, zg6, Z6⟩ := q6
  show Endw p e below T6 (mkF m 74 #[.val (.ref d), .val (.ref a), .val (.int (0 : Int32)), .val (.int (0 : Int32)), .val (.ref a1), .unset] [(.ref a2)]) _
  refine Endw.st (T' := T6) (g' := (mkF m 75 #[.val (.ref d), .val (.ref a), .val (.int (0 : Int32)), .val (.int (0 : Int32)), .val (.ref a1), .unset] [(.ref a), (.ref a2)])) (fun tt_ kk_ => XS.aloadN C6.here C6.hx rfl (C6.dec d25_74) rfl rfl kk_) ?_
  have f7 := (((S.keep K1 nin0 nin0).keep K2 nin0 nin0).keep K6 (ninS (Nat.ne_of_lt (Nat.lt_of_lt_of_le (Nat.lt_of_lt_of_le S.1.lt K1.1) ge2)) nin0) (ninS (Nat.ne_of_lt (Nat.lt_of_lt_of_le (Nat.lt_of_lt_of_le S.2.2.2.1.lt K1.1) ge2)) nin0))
  refine C6.virtual (y := (⟨"java/lang/StringBuilder", "append", "(Ljava/lang/String;)Ljava/lang/StringBuilder;"⟩ : MethodName)) (z := (⟨"java/lang/StringBuilder", "append", "(Ljava/lang/String;)Ljava/lang/StringBuilder;"⟩ : MethodName)) (W := 0) (a := a2) (argsL := [(.ref a)]) (rest := []) (W59 hw) (W60 hw) (fun _ q => notFace_of_selects (args := #[]) (mvT q (W62 hw))) (W62 hw) (W61 hw) (W63 hw) (W43 hw) (by decide) (rm_sbAppend l Z a0 EL G a2 t6 kb6 [] 16 a t kb [x, y] h6 C6.old Z6 f7 (Nat.le_of_ble_eq_true rfl) zg2 zg6) (fun _ => rfl) rfl Z6.1 (allS ⟨Z6.2.2.2.1.lt, (own_safe_new (M6 rfl) ge6)⟩ all0) (by decide) (by decide) (by decide) (by decide) (lenOf pd_17 rfl) rfl (Nat.le_of_ble_eq_true rfl) rfl d25_75 (pc' := 78) rfl ?_
  intro vm8 T8 h8 v8 C8 A8 M8 q8
  obtain ⟨rfl, K8, Z8⟩ := q8
  show Endw p e below T8 (mkF m 78 #[.val (.ref d), .val (.ref a), .val (.int (0 : Int32)), .val (.int (0 : Int32)), .val (.ref a1), .unset] [(.ref a2)]) _
  refine Endw.st (T' := T8) (g' := (mkF m 80 #[.val (.ref d), .val (.ref a), .val (.int (0 : Int32)), .val (.int (0 : Int32)), .val (.ref a1), .unset] [(.ref a1), (.ref a2)])) (fun tt_ kk_ => XS.aload C8.here C8.hx rfl (C8.dec d25_78) rfl rfl kk_) ?_
  have f9 := (((Z1.keep K2 nin0 nin0).keep K6 (ninS (Nat.ne_of_lt (Nat.lt_of_lt_of_le E1.lt ge2)) nin0) (ninS (Nat.ne_of_lt (Nat.lt_of_lt_of_le V1.lt ge2)) nin0)).keep K8 (ninS (Nat.ne_of_lt (Nat.lt_of_lt_of_le E1.lt ge2)) (ninS (Nat.ne_of_lt (Nat.lt_of_lt_of_le (Nat.lt_of_lt_of_le E1.lt K2.1) ge6)) nin0)) (ninS (Nat.ne_of_lt (Nat.lt_of_lt_of_le V1.lt ge2)) (ninS (Nat.ne_of_lt (Nat.lt_of_lt_of_le (Nat.lt_of_lt_of_le V1.lt K2.1) ge6)) nin0)))
  have f11 := (A8.safe Z6.2.2.2.1.lt (own_safe_new (M6 rfl) ge6))
  refine C8.virtual (y := (⟨"java/lang/StringBuilder", "append", "(Ljava/lang/String;)Ljava/lang/StringBuilder;"⟩ : MethodName)) (z := (⟨"java/lang/StringBuilder", "append", "(Ljava/lang/String;)Ljava/lang/StringBuilder;"⟩ : MethodName)) (W := 0) (a := a2) (argsL := [(.ref a1)]) (rest := []) (W59 hw) (W60 hw) (fun _ q => notFace_of_selects (args := #[]) (mvT q (W62 hw))) (W62 hw) (W61 hw) (W63 hw) (W43 hw) (by decide) (rm_sbAppend l Z a0 EL G a2 t6 kb6 ([] ++ [x, y]) 16 a1 b1 kA1 [] h8 C8.old Z8 f9 (Nat.le_of_ble_eq_true rfl) zg2 zg6) (fun _ => rfl) rfl Z8.1 (allS ⟨(Nat.lt_of_lt_of_le Z6.2.2.2.1.lt K8.1), f11⟩ all0) (by decide) (by decide) (by decide) (by decide) (lenOf pd_17 rfl) rfl (Nat.le_of_ble_eq_true rfl) rfl d25_80 (pc' := 83) rfl ?_
  intro vm10 T10 h10 v10 C10 A10 M10 q10
  obtain ⟨rfl, K10, Z10⟩ := q10
  show Endw p e below T10 (mkF m 83 #[.val (.ref d), .val (.ref a), .val (.int (0 : Int32)), .val (.int (0 : Int32)), .val (.ref a1), .unset] [(.ref a2)]) _
  refine C10.virtual (y := (⟨"java/lang/StringBuilder", "toString", "()Ljava/lang/String;"⟩ : MethodName)) (z := (⟨"java/lang/StringBuilder", "toString", "()Ljava/lang/String;"⟩ : MethodName)) (W := 0) (a := a2) (argsL := []) (rest := []) (W106 hw) (W107 hw) (fun _ q => notFace_of_selects (args := #[]) (mvT q (W109 hw))) (W109 hw) (W108 hw) (W110 hw) (W43 hw) (by decide) (rm_toString l Z a0 EL G a2 t6 kb6 (([] ++ [x, y]) ++ []) 16 h10 C10.old Z10 (Nat.le_of_ble_eq_true rfl) (Nat.le_of_ble_eq_true rfl)) (fun _ => rfl) rfl Z10.1 all0 (by decide) (by decide) (by decide) (by decide) (lenOf pd_2 rfl) rfl (Nat.le_of_ble_eq_true rfl) rfl d25_83 (pc' := 86) rfl ?_
  intro vm12 T12 h12 v12 C12 A12 M12 q12
  obtain ⟨a12, d12, kd12, rfl, K12, ge12, gd12, zg12, zd12, Z12⟩ := q12
  show Endw p e below T12 (mkF m 86 #[.val (.ref d), .val (.ref a), .val (.int (0 : Int32)), .val (.int (0 : Int32)), .val (.ref a1), .unset] [(.ref a12)]) _
  refine Endw.st (T' := T12) (g' := (mkF m 90 #[.val (.ref d), .val (.ref a), .val (.int (0 : Int32)), .val (.int (0 : Int32)), .val (.ref a1), .val (.ref a12)] [(.ref a12)])) (fun tt_ kk_ => XS.astore C12.here C12.hx rfl (C12.dec d25_86) rfl rfl (l' := #[.val (.ref d), .val (.ref a), .val (.int (0 : Int32)), .val (.int (0 : Int32)), .val (.ref a1), .val (.ref a12)]) rfl (XS.aload C12.here C12.hx rfl (C12.dec d25_88) rfl rfl kk_)) ?_
  exact C12.retA (t := (.object "java/lang/String")) rfl rfl rfl rfl d25_90 (by decide) (by decide) ⟨a12, d12, kd12, rfl, (Keep.trans (Keep.trans (Keep.trans (Keep.trans (Keep.trans (Keep.trans (Keep.refl h []) K1 all0) K2 all0) K6 (allS (Or.inr (Nat.le_trans K1.1 ge2)) all0)) K8 (allS (Or.inr (Nat.le_trans K1.1 ge2)) (allS (Or.inr (Nat.le_trans (Nat.le_trans K1.1 K2.1) ge6)) all0))) K10 (allS (Or.inr (Nat.le_trans K1.1 ge2)) (allS (Or.inr (Nat.le_trans (Nat.le_trans K1.1 K2.1) ge6)) all0))) K12 all0), (Nat.le_trans (Nat.le_trans K1.1 (Nat.le_trans K2.1 (Nat.le_trans K6.1 (Nat.le_trans K8.1 K10.1)))) ge12), (Nat.le_trans (Nat.le_trans K1.1 (Nat.le_trans K2.1 (Nat.le_trans K6.1 (Nat.le_trans K8.1 K10.1)))) gd12), zg12, zd12, Z12⟩
set_option maxRecDepth 65536 in
set_option maxHeartbeats 40000000 in
theorem rm_oi010 (l : Launch) (Z : State) (a0 : Array Value) (EL : List (String × Nat)) (G : Glob Z a0 EL) (d a t : Addr) (kb : ClassId) (x y : Int32) (h : Heap) (O : Ext Z.heap h) (F0 : Fld Z h d "com/example/frugal_orm/frugalorm/Dialect" "nullsFirst" "Z" (.int (0 : Int32))) (S : Str Z h a t kb [x, y]) :
    Met l Z EL false (⟨"com/example/frugal_orm/frugalorm/Dialect", "orderItems", "(Ljava/lang/String;ZZ)Ljava/lang/String;"⟩ : MethodName) prog_7_method_6_code 6 (some (.object "java/lang/String")) [] ({ frames := 6, cells := 6, slots := 68, locals := 91 } : Room) #[(.ref d), (.ref a), (.int (0 : Int32)), (.int (1 : Int32))] h [] (fun r h' => ∃ (a t : Addr) (kb : ClassId), r = some (.ref a) ∧ Keep h h' [] ∧ h.size ≤ a ∧ h.size ≤ t ∧ Z.heap.size ≤ a ∧ Z.heap.size ≤ t ∧ Str Z h' a t kb (([] ++ [x, y]) ++ [])) := by
  have hw := G.hw
  obtain ⟨zc, Sc, hzc⟩ := G.cs
  obtain ⟨vf, Sf, hvf⟩ := G.fm
  refine Met.of (plainFor_of_name pn_69616c656374_0) G.ew O ?_
  intro p e s m below meth c T0 C0 S0
  refine Endw.eq (g' := mkF m 0 #[.val (.ref d), .val (.ref a), .val (.int (0 : Int32)), .val (.int (1 : Int32)), .unset, .unset] []) (by first | rfl | (simp [entryFrame, mkF, argsToLocals, own_cI, own_cR, own_cN, own_cJ, own_cD, maxLocals]; done)) ?_
  refine Endw.st (T' := T0) (g' := (mkF m 9 #[.val (.ref d), .val (.ref a), .val (.int (0 : Int32)), .val (.int (1 : Int32)), .unset, .unset] [])) (fun tt_ kk_ => XS.iloadN C0.here C0.hx rfl (C0.dec d25_0) rfl (XS.ifYes C0.here C0.hx rfl (pc0 := 1) rfl (C0.dec d25_1) rfl (XT.i0_eq_t (by decide)) (by decide) rfl kk_)) ?_
  refine C0.ldcC (N := 0) (vs := (bys [])) (z := (0 : Int32)) (W184 hw) G.wS (by rw [G.el]; decide) ⟨by decide, by decide⟩ (by decide) (by decide) (by decide) (by decide) (by decide) (by decide) d25_9 (pc' := 11) rfl rfl ?_
  intro vm1 T1 h1 a1 b1 kA1 C1 K1 A1 E1 F1 f1 V1 r1
  have Z1 : Str Z h1 a1 b1 kA1 [] := ⟨E1, F1, f1, V1, own_c0, by decide⟩
  show Endw p e below T1 (mkF m 11 #[.val (.ref d), .val (.ref a), .val (.int (0 : Int32)), .val (.int (1 : Int32)), .unset, .unset] [(.ref a1)]) _
  refine Endw.st (T' := T1) (g' := (mkF m 18 #[.val (.ref d), .val (.ref a), .val (.int (0 : Int32)), .val (.int (1 : Int32)), .val (.ref a1), .unset] [(.ref d)])) (fun tt_ kk_ => XS.astore C1.here C1.hx rfl (C1.dec d25_11) rfl rfl (l' := #[.val (.ref d), .val (.ref a), .val (.int (0 : Int32)), .val (.int (1 : Int32)), .val (.ref a1), .unset]) rfl (XS.iloadN C1.here C1.hx rfl (C1.dec d25_13) rfl (XS.ifNo C1.here C1.hx rfl (C1.dec d25_14) rfl (XT.i0_eq_f (by decide)) (XS.aloadN C1.here C1.hx rfl (C1.dec d25_17) rfl rfl kk_)))) ?_
  have f2 := (F0.keep K1 nin0)
  refine C1.getF (W163 hw) f2 d25_18 (pc' := 21) rfl ?_
  intro T3 C3
  show Endw p e below T3 (mkF m 21 #[.val (.ref d), .val (.ref a), .val (.int (0 : Int32)), .val (.int (1 : Int32)), .val (.ref a1), .unset] [(.int (0 : Int32))]) _
  refine Endw.st (T' := T3) (g' := (mkF m 67 #[.val (.ref d), .val (.ref a), .val (.int (0 : Int32)), .val (.int (1 : Int32)), .val (.ref a1), .unset] [])) (fun tt_ kk_ => XS.ifYes C3.here C3.hx rfl (pc0 := 21) rfl (C3.dec d25_21) rfl (XT.i0_eq_t (by decide)) (by decide) rfl kk_) ?_
  refine C3.new (W41 hw) (W42 hw) (W43 hw) d25_67 (pc' := 70) rfl (by decide) (by decide) ?_
  intro T4 h4 a4 C4 K4 A4 ge4 zg4 E4 D4 S4
  show Endw p e below T4 (mkF m 70 #[.val (.ref d), .val (.ref a), .val (.int (0 : Int32)), .val (.int (1 : Int32)), .val (.ref a1), .unset] [(.ref a4)]) _
  refine Endw.st (T' := T4) (g' := (mkF m 71 #[.val (.ref d), .val (.ref a), .val (.int (0 : Int32)), .val (.int (1 : Int32)), .val (.ref a1), .unset] [(.ref a4), (.ref a4)])) (fun tt_ kk_ => XS.dup C4.here C4.hx rfl (C4.dec d25_70) rfl rfl kk_) ?_
  have f5 : Fld Z h4 a4 "java/lang/AbstractStringBuilder" "value" "[B" .null := D4 (Or.inl (W56 hw)) (ty := (.array .byte)) (by decide)
  have f6 : Fld Z h4 a4 "java/lang/AbstractStringBuilder" "coder" "B" (.int (0 : Int32)) := D4 (Or.inl (W58 hw)) (ty := .byte) (by decide)
  have f7 : Fld Z h4 a4 "java/lang/AbstractStringBuilder" "count" "I" (.int (0 : Int32)) := D4 (Or.inl (W80 hw)) (ty := .int) (by decide)
  refine C4.special (y := (⟨"java/lang/StringBuilder", "<init>", "()V"⟩ : MethodName)) (W := 1) (a := a4) (argsL := []) (rest := [(.ref a4)]) rfl (W44 hw) (W45 hw) (W46 hw) (W43 hw) (by decide) (rm_sbInit l Z a0 EL G a4 h4 C4.old E4 f5 f6 f7 zg4) (fun _ => rfl) rfl all0 (by decide) (by decide) (by decide) (by decide) (lenOf pd_282956 rfl) rfl (Nat.le_of_ble_eq_true rfl) rfl d25_71 (pc' := 74) rfl ?_
  intro vm8 T8 h8 v8 C8 A8 M8 q8
  obtain ⟨rfl, t8, kb8, K8, ge8, zg8, Z8⟩ := q8
  show Endw p e below T8 (mkF m 74 #[.val (.ref d), .val (.ref a), .val (.int (0 : Int32)), .val (.int (1 : Int32)), .val (.ref a1), .unset] [(.ref a4)]) _
  refine Endw.st (T' := T8) (g' := (mkF m 75 #[.val (.ref d), .val (.ref a), .val (.int (0 : Int32)), .val (.int (1 : Int32)), .val (.ref a1), .unset] [(.ref a), (.ref a4)])) (fun tt_ kk_ => XS.aloadN C8.here C8.hx rfl (C8.dec d25_74) rfl rfl kk_) ?_
  have f9 := (((S.keep K1 nin0 nin0).keep K4 nin0 nin0).keep K8 (ninS (Nat.ne_of_lt (Nat.lt_of_lt_of_le (Nat.lt_of_lt_of_le S.1.lt K1.1) ge4)) nin0) (ninS (Nat.ne_of_lt (Nat.lt_of_lt_of_le (Nat.lt_of_lt_of_le S.2.2.2.1.lt K1.1) ge4)) nin0))
  refine C8.virtual (y := (⟨"java/lang/StringBuilder", "append", "(Ljava/lang/String;)Ljava/lang/StringBuilder;"⟩ : MethodName)) (z := (⟨"java/lang/StringBuilder", "append", "(Ljava/lang/String;)Ljava/lang/StringBuilder;"⟩ : MethodName)) (W := 0) (a := a4) (argsL := [(.ref a)]) (rest := []) (W59 hw) (W60 hw) (fun _ q => notFace_of_selects (args := #[]) (mvT q (W62 hw))) (W62 hw) (W61 hw) (W63 hw) (W43 hw) (by decide) (rm_sbAppend l Z a0 EL G a4 t8 kb8 [] 16 a t kb [x, y] h8 C8.old Z8 f9 (Nat.le_of_ble_eq_true rfl) zg4 zg8) (fun _ => rfl) rfl Z8.1 (allS ⟨Z8.2.2.2.1.lt, (own_safe_new (M8 rfl) ge8)⟩ all0) (by decide) (by decide) (by decide) (by decide) (lenOf pd_17 rfl) rfl (Nat.le_of_ble_eq_true rfl) rfl d25_75 (pc' := 78) rfl ?_
  intro vm10 T10 h10 v10 C10 A10 M10 q10
  obtain ⟨rfl, K10, Z10⟩ := q10
  show Endw p e below T10 (mkF m 78 #[.val (.ref d), .val (.ref a), .val (.int (0 : Int32)), .val (.int (1 : Int32)), .val (.ref a1), .unset] [(.ref a4)]) _
  refine Endw.st (T' := T10) (g' := (mkF m 80 #[.val (.ref d), .val (.ref a), .val (.int (0 : Int32)), .val (.int (1 : Int32)), .val (.ref a1), .unset] [(.ref a1), (.ref a4)])) (fun tt_ kk_ => XS.aload C10.here C10.hx rfl (C10.dec d25_78) rfl rfl kk_) ?_
  have f11 := (((Z1.keep K4 nin0 nin0).keep K8 (ninS (Nat.ne_of_lt (Nat.lt_of_lt_of_le E1.lt ge4)) nin0) (ninS (Nat.ne_of_lt (Nat.lt_of_lt_of_le V1.lt ge4)) nin0)).keep K10 (ninS (Nat.ne_of_lt (Nat.lt_of_lt_of_le E1.lt ge4)) (ninS (Nat.ne_of_lt (Nat.lt_of_lt_of_le (Nat.lt_of_lt_of_le E1.lt K4.1) ge8)) nin0)) (ninS (Nat.ne_of_lt (Nat.lt_of_lt_of_le V1.lt ge4)) (ninS (Nat.ne_of_lt (Nat.lt_of_lt_of_le (Nat.lt_of_lt_of_le V1.lt K4.1) ge8)) nin0)))
  have f13 := (A10.safe Z8.2.2.2.1.lt (own_safe_new (M8 rfl) ge8))
  refine C10.virtual (y := (⟨"java/lang/StringBuilder", "append", "(Ljava/lang/String;)Ljava/lang/StringBuilder;"⟩ : MethodName)) (z := (⟨"java/lang/StringBuilder", "append", "(Ljava/lang/String;)Ljava/lang/StringBuilder;"⟩ : MethodName)) (W := 0) (a := a4) (argsL := [(.ref a1)]) (rest := []) (W59 hw) (W60 hw) (fun _ q => notFace_of_selects (args := #[]) (mvT q (W62 hw))) (W62 hw) (W61 hw) (W63 hw) (W43 hw) (by decide) (rm_sbAppend l Z a0 EL G a4 t8 kb8 ([] ++ [x, y]) 16 a1 b1 kA1 [] h10 C10.old Z10 f11 (Nat.le_of_ble_eq_true rfl) zg4 zg8) (fun _ => rfl) rfl Z10.1 (allS ⟨(Nat.lt_of_lt_of_le Z8.2.2.2.1.lt K10.1), f13⟩ all0) (by decide) (by decide) (by decide) (by decide) (lenOf pd_17 rfl) rfl (Nat.le_of_ble_eq_true rfl) rfl d25_80 (pc' := 83) rfl ?_
  intro vm12 T12 h12 v12 C12 A12 M12 q12
  obtain ⟨rfl, K12, Z12⟩ := q12
  show Endw p e below T12 (mkF m 83 #[.val (.ref d), .val (.ref a), .val (.int (0 : Int32)), .val (.int (1 : Int32)), .val (.ref a1), .unset] [(.ref a4)]) _
  refine C12.virtual (y := (⟨"java/lang/StringBuilder", "toString", "()Ljava/lang/String;"⟩ : MethodName)) (z := (⟨"java/lang/StringBuilder", "toString", "()Ljava/lang/String;"⟩ : MethodName)) (W := 0) (a := a4) (argsL := []) (rest := []) (W106 hw) (W107 hw) (fun _ q => notFace_of_selects (args := #[]) (mvT q (W109 hw))) (W109 hw) (W108 hw) (W110 hw) (W43 hw) (by decide) (rm_toString l Z a0 EL G a4 t8 kb8 (([] ++ [x, y]) ++ []) 16 h12 C12.old Z12 (Nat.le_of_ble_eq_true rfl) (Nat.le_of_ble_eq_true rfl)) (fun _ => rfl) rfl Z12.1 all0 (by decide) (by decide) (by decide) (by decide) (lenOf pd_2 rfl) rfl (Nat.le_of_ble_eq_true rfl) rfl d25_83 (pc' := 86) rfl ?_
  intro vm14 T14 h14 v14 C14 A14 M14 q14
  obtain ⟨a14, d14, kd14, rfl, K14, ge14, gd14, zg14, zd14, Z14⟩ := q14
  show Endw p e below T14 (mkF m 86 #[.val (.ref d), .val (.ref a), .val (.int (0 : Int32)), .val (.int (1 : Int32)), .val (.ref a1), .unset] [(.ref a14)]) _
  refine Endw.st (T' := T14) (g' := (mkF m 90 #[.val (.ref d), .val (.ref a), .val (.int (0 : Int32)), .val (.int (1 : Int32)), .val (.ref a1), .val (.ref a14)] [(.ref a14)])) (fun tt_ kk_ => XS.astore C14.here C14.hx rfl (C14.dec d25_86) rfl rfl (l' := #[.val (.ref d), .val (.ref a), .val (.int (0 : Int32)), .val (.int (1 : Int32)), .val (.ref a1), .val (.ref a14)]) rfl (XS.aload C14.here C14.hx rfl (C14.dec d25_88) rfl rfl kk_)) ?_
  exact C14.retA (t := (.object "java/lang/String")) rfl rfl rfl rfl d25_90 (by decide) (by decide) ⟨a14, d14, kd14, rfl, (Keep.trans (Keep.trans (Keep.trans (Keep.trans (Keep.trans (Keep.trans (Keep.refl h []) K1 all0) K4 all0) K8 (allS (Or.inr (Nat.le_trans K1.1 ge4)) all0)) K10 (allS (Or.inr (Nat.le_trans K1.1 ge4)) (allS (Or.inr (Nat.le_trans (Nat.le_trans K1.1 K4.1) ge8)) all0))) K12 (allS (Or.inr (Nat.le_trans K1.1 ge4)) (allS (Or.inr (Nat.le_trans (Nat.le_trans K1.1 K4.1) ge8)) all0))) K14 all0), (Nat.le_trans (Nat.le_trans K1.1 (Nat.le_trans K4.1 (Nat.le_trans K8.1 (Nat.le_trans K10.1 K12.1)))) ge14), (Nat.le_trans (Nat.le_trans K1.1 (Nat.le_trans K4.1 (Nat.le_trans K8.1 (Nat.le_trans K10.1 K12.1)))) gd14), zg14, zd14, Z14⟩
set_option maxRecDepth 65536 in
set_option maxHeartbeats 40000000 in
theorem rm_oi011 (l : Launch) (Z : State) (a0 : Array Value) (EL : List (String × Nat)) (G : Glob Z a0 EL) (d a t : Addr) (kb : ClassId) (x y : Int32) (h : Heap) (O : Ext Z.heap h) (F0 : Fld Z h d "com/example/frugal_orm/frugalorm/Dialect" "nullsFirst" "Z" (.int (1 : Int32))) (S : Str Z h a t kb [x, y]) :
    Met l Z EL false (⟨"com/example/frugal_orm/frugalorm/Dialect", "orderItems", "(Ljava/lang/String;ZZ)Ljava/lang/String;"⟩ : MethodName) prog_7_method_6_code 6 (some (.object "java/lang/String")) [] ({ frames := 6, cells := 10, slots := 116, locals := 91 } : Room) #[(.ref d), (.ref a), (.int (0 : Int32)), (.int (1 : Int32))] h [] (fun r h' => ∃ (a t : Addr) (kb : ClassId), r = some (.ref a) ∧ Keep h h' [] ∧ h.size ≤ a ∧ h.size ≤ t ∧ Z.heap.size ≤ a ∧ Z.heap.size ≤ t ∧ Str Z h' a t kb (((((([] ++ [x, y]) ++ [(32 : Int32), (105 : Int32), (115 : Int32), (32 : Int32), (110 : Int32), (117 : Int32), (108 : Int32), (108 : Int32)]) ++ []) ++ [(44 : Int32), (32 : Int32)]) ++ [x, y]) ++ [])) := by
  have hw := G.hw
  obtain ⟨zc, Sc, hzc⟩ := G.cs
  obtain ⟨vf, Sf, hvf⟩ := G.fm
  refine Met.of (plainFor_of_name pn_69616c656374_0) G.ew O ?_
  intro p e s m below meth c T0 C0 S0
  refine Endw.eq (g' := mkF m 0 #[.val (.ref d), .val (.ref a), .val (.int (0 : Int32)), .val (.int (1 : Int32)), .unset, .unset] []) (by first | rfl | (simp [entryFrame, mkF, argsToLocals, own_cI, own_cR, own_cN, own_cJ, own_cD, maxLocals]; done)) ?_
  refine Endw.st (T' := T0) (g' := (mkF m 9 #[.val (.ref d), .val (.ref a), .val (.int (0 : Int32)), .val (.int (1 : Int32)), .unset, .unset] [])) (fun tt_ kk_ => XS.iloadN C0.here C0.hx rfl (C0.dec d25_0) rfl (XS.ifYes C0.here C0.hx rfl (pc0 := 1) rfl (C0.dec d25_1) rfl (XT.i0_eq_t (by decide)) (by decide) rfl kk_)) ?_
  refine C0.ldcC (N := 0) (vs := (bys [])) (z := (0 : Int32)) (W184 hw) G.wS (by rw [G.el]; decide) ⟨by decide, by decide⟩ (by decide) (by decide) (by decide) (by decide) (by decide) (by decide) d25_9 (pc' := 11) rfl rfl ?_
  intro vm1 T1 h1 a1 b1 kA1 C1 K1 A1 E1 F1 f1 V1 r1
  have Z1 : Str Z h1 a1 b1 kA1 [] := ⟨E1, F1, f1, V1, own_c0, by decide⟩
  show Endw p e below T1 (mkF m 11 #[.val (.ref d), .val (.ref a), .val (.int (0 : Int32)), .val (.int (1 : Int32)), .unset, .unset] [(.ref a1)]) _
  refine Endw.st (T' := T1) (g' := (mkF m 18 #[.val (.ref d), .val (.ref a), .val (.int (0 : Int32)), .val (.int (1 : Int32)), .val (.ref a1), .unset] [(.ref d)])) (fun tt_ kk_ => XS.astore C1.here C1.hx rfl (C1.dec d25_11) rfl rfl (l' := #[.val (.ref d), .val (.ref a), .val (.int (0 : Int32)), .val (.int (1 : Int32)), .val (.ref a1), .unset]) rfl (XS.iloadN C1.here C1.hx rfl (C1.dec d25_13) rfl (XS.ifNo C1.here C1.hx rfl (C1.dec d25_14) rfl (XT.i0_eq_f (by decide)) (XS.aloadN C1.here C1.hx rfl (C1.dec d25_17) rfl rfl kk_)))) ?_
  have f2 := (F0.keep K1 nin0)
  refine C1.getF (W163 hw) f2 d25_18 (pc' := 21) rfl ?_
  intro T3 C3
  show Endw p e below T3 (mkF m 21 #[.val (.ref d), .val (.ref a), .val (.int (0 : Int32)), .val (.int (1 : Int32)), .val (.ref a1), .unset] [(.int (1 : Int32))]) _
  refine Endw.st (T' := T3) (g' := (mkF m 24 #[.val (.ref d), .val (.ref a), .val (.int (0 : Int32)), .val (.int (1 : Int32)), .val (.ref a1), .unset] [])) (fun tt_ kk_ => XS.ifNo C3.here C3.hx rfl (C3.dec d25_21) rfl (XT.i0_eq_f (by decide)) kk_) ?_
  refine C3.new (W41 hw) (W42 hw) (W43 hw) d25_24 (pc' := 27) rfl (by decide) (by decide) ?_
  intro T4 h4 a4 C4 K4 A4 ge4 zg4 E4 D4 S4
  show Endw p e below T4 (mkF m 27 #[.val (.ref d), .val (.ref a), .val (.int (0 : Int32)), .val (.int (1 : Int32)), .val (.ref a1), .unset] [(.ref a4)]) _
  refine Endw.st (T' := T4) (g' := (mkF m 28 #[.val (.ref d), .val (.ref a), .val (.int (0 : Int32)), .val (.int (1 : Int32)), .val (.ref a1), .unset] [(.ref a4), (.ref a4)])) (fun tt_ kk_ => XS.dup C4.here C4.hx rfl (C4.dec d25_27) rfl rfl kk_) ?_
  have f5 : Fld Z h4 a4 "java/lang/AbstractStringBuilder" "value" "[B" .null := D4 (Or.inl (W56 hw)) (ty := (.array .byte)) (by decide)
  have f6 : Fld Z h4 a4 "java/lang/AbstractStringBuilder" "coder" "B" (.int (0 : Int32)) := D4 (Or.inl (W58 hw)) (ty := .byte) (by decide)
  have f7 : Fld Z h4 a4 "java/lang/AbstractStringBuilder" "count" "I" (.int (0 : Int32)) := D4 (Or.inl (W80 hw)) (ty := .int) (by decide)
  refine C4.special (y := (⟨"java/lang/StringBuilder", "<init>", "()V"⟩ : MethodName)) (W := 1) (a := a4) (argsL := []) (rest := [(.ref a4)]) rfl (W44 hw) (W45 hw) (W46 hw) (W43 hw) (by decide) (rm_sbInit l Z a0 EL G a4 h4 C4.old E4 f5 f6 f7 zg4) (fun _ => rfl) rfl all0 (by decide) (by decide) (by decide) (by decide) (lenOf pd_282956 rfl) rfl (Nat.le_of_ble_eq_true rfl) rfl d25_28 (pc' := 31) rfl ?_
  intro vm8 T8 h8 v8 C8 A8 M8 q8
  obtain ⟨rfl, t8, kb8, K8, ge8, zg8, Z8⟩ := q8
  show Endw p e below T8 (mkF m 31 #[.val (.ref d), .val (.ref a), .val (.int (0 : Int32)), .val (.int (1 : Int32)), .val (.ref a1), .unset] [(.ref a4)]) _
  refine Endw.st (T' := T8) (g' := (mkF m 32 #[.val (.ref d), .val (.ref a), .val (.int (0 : Int32)), .val (.int (1 : Int32)), .val (.ref a1), .unset] [(.ref a), (.ref a4)])) (fun tt_ kk_ => XS.aloadN C8.here C8.hx rfl (C8.dec d25_31) rfl rfl kk_) ?_
  have f9 := (((S.keep K1 nin0 nin0).keep K4 nin0 nin0).keep K8 (ninS (Nat.ne_of_lt (Nat.lt_of_lt_of_le (Nat.lt_of_lt_of_le S.1.lt K1.1) ge4)) nin0) (ninS (Nat.ne_of_lt (Nat.lt_of_lt_of_le (Nat.lt_of_lt_of_le S.2.2.2.1.lt K1.1) ge4)) nin0))
  refine C8.virtual (y := (⟨"java/lang/StringBuilder", "append", "(Ljava/lang/String;)Ljava/lang/StringBuilder;"⟩ : MethodName)) (z := (⟨"java/lang/StringBuilder", "append", "(Ljava/lang/String;)Ljava/lang/StringBuilder;"⟩ : MethodName)) (W := 0) (a := a4) (argsL := [(.ref a)]) (rest := []) (W59 hw) (W60 hw) (fun _ q => notFace_of_selects (args := #[]) (mvT q (W62 hw))) (W62 hw) (W61 hw) (W63 hw) (W43 hw) (by decide) (rm_sbAppend l Z a0 EL G a4 t8 kb8 [] 16 a t kb [x, y] h8 C8.old Z8 f9 (Nat.le_of_ble_eq_true rfl) zg4 zg8) (fun _ => rfl) rfl Z8.1 (allS ⟨Z8.2.2.2.1.lt, (own_safe_new (M8 rfl) ge8)⟩ all0) (by decide) (by decide) (by decide) (by decide) (lenOf pd_17 rfl) rfl (Nat.le_of_ble_eq_true rfl) rfl d25_32 (pc' := 35) rfl ?_
  intro vm10 T10 h10 v10 C10 A10 M10 q10
  obtain ⟨rfl, K10, Z10⟩ := q10
  show Endw p e below T10 (mkF m 35 #[.val (.ref d), .val (.ref a), .val (.int (0 : Int32)), .val (.int (1 : Int32)), .val (.ref a1), .unset] [(.ref a4)]) _
  refine C10.ldcC (N := 32) (vs := (bys [(32 : Int32), (105 : Int32), (115 : Int32), (32 : Int32), (110 : Int32), (117 : Int32), (108 : Int32), (108 : Int32)])) (z := (8 : Int32)) (W165 hw) G.wS (by rw [G.el]; decide) ⟨by decide, by decide⟩ (by decide) (by decide) (by decide) (by decide) (by decide) (by decide) d25_35 (pc' := 37) rfl rfl ?_
  intro vm11 T11 h11 a11 b11 kA11 C11 K11 A11 E11 F11 f11 V11 r11
  have f12 := (A11.safe (Nat.lt_of_lt_of_le E4.lt (Nat.le_trans K8.1 K10.1)) (A10.safe (Nat.lt_of_lt_of_le E4.lt K8.1) (A8.safe E4.lt S4)))
  have f13 := (A11.safe (Nat.lt_of_lt_of_le Z8.2.2.2.1.lt K10.1) (A10.safe Z8.2.2.2.1.lt (own_safe_new (M8 rfl) ge8)))
  have Z11 : Str Z h11 a11 b11 kA11 [(32 : Int32), (105 : Int32), (115 : Int32), (32 : Int32), (110 : Int32), (117 : Int32), (108 : Int32), (108 : Int32)] := ⟨E11, F11, f11, V11, (own_cS ⟨by decide, by decide⟩ (own_cS ⟨by decide, by decide⟩ (own_cS ⟨by decide, by decide⟩ (own_cS ⟨by decide, by decide⟩ (own_cS ⟨by decide, by decide⟩ (own_cS ⟨by decide, by decide⟩ (own_cS ⟨by decide, by decide⟩ (own_cS ⟨by decide, by decide⟩ own_c0)))))))), by decide⟩
  show Endw p e below T11 (mkF m 37 #[.val (.ref d), .val (.ref a), .val (.int (0 : Int32)), .val (.int (1 : Int32)), .val (.ref a1), .unset] [(.ref a11), (.ref a4)]) _
  have f14 := (Z10.keep K11 nin0 nin0)
  have f16 := (Z10.1.keep K11)
  refine C11.virtual (y := (⟨"java/lang/StringBuilder", "append", "(Ljava/lang/String;)Ljava/lang/StringBuilder;"⟩ : MethodName)) (z := (⟨"java/lang/StringBuilder", "append", "(Ljava/lang/String;)Ljava/lang/StringBuilder;"⟩ : MethodName)) (W := 0) (a := a4) (argsL := [(.ref a11)]) (rest := []) (W59 hw) (W60 hw) (fun _ q => notFace_of_selects (args := #[]) (mvT q (W62 hw))) (W62 hw) (W61 hw) (W63 hw) (W43 hw) (by decide) (rm_sbAppend l Z a0 EL G a4 t8 kb8 ([] ++ [x, y]) 16 a11 b11 kA11 [(32 : Int32), (105 : Int32), (115 : Int32), (32 : Int32), (110 : Int32), (117 : Int32), (108 : Int32), (108 : Int32)] h11 C11.old f14 Z11 (Nat.le_of_ble_eq_true rfl) zg4 zg8) (fun _ => rfl) rfl f16 (allS ⟨(Nat.lt_of_lt_of_le Z8.2.2.2.1.lt (Nat.le_trans K10.1 K11.1)), f13⟩ all0) (by decide) (by decide) (by decide) (by decide) (lenOf pd_17 rfl) rfl (Nat.le_of_ble_eq_true rfl) rfl d25_37 (pc' := 40) rfl ?_
  intro vm15 T15 h15 v15 C15 A15 M15 q15
  obtain ⟨rfl, K15, Z15⟩ := q15
  show Endw p e below T15 (mkF m 40 #[.val (.ref d), .val (.ref a), .val (.int (0 : Int32)), .val (.int (1 : Int32)), .val (.ref a1), .unset] [(.ref a4)]) _
  refine Endw.st (T' := T15) (g' := (mkF m 42 #[.val (.ref d), .val (.ref a), .val (.int (0 : Int32)), .val (.int (1 : Int32)), .val (.ref a1), .unset] [(.ref a1), (.ref a4)])) (fun tt_ kk_ => XS.aload C15.here C15.hx rfl (C15.dec d25_40) rfl rfl kk_) ?_
  have f17 := (((((Z1.keep K4 nin0 nin0).keep K8 (ninS (Nat.ne_of_lt (Nat.lt_of_lt_of_le E1.lt ge4)) nin0) (ninS (Nat.ne_of_lt (Nat.lt_of_lt_of_le V1.lt ge4)) nin0)).keep K10 (ninS (Nat.ne_of_lt (Nat.lt_of_lt_of_le E1.lt ge4)) (ninS (Nat.ne_of_lt (Nat.lt_of_lt_of_le (Nat.lt_of_lt_of_le E1.lt K4.1) ge8)) nin0)) (ninS (Nat.ne_of_lt (Nat.lt_of_lt_of_le V1.lt ge4)) (ninS (Nat.ne_of_lt (Nat.lt_of_lt_of_le (Nat.lt_of_lt_of_le V1.lt K4.1) ge8)) nin0))).keep K11 nin0 nin0).keep K15 (ninS (Nat.ne_of_lt (Nat.lt_of_lt_of_le E1.lt ge4)) (ninS (Nat.ne_of_lt (Nat.lt_of_lt_of_le (Nat.lt_of_lt_of_le E1.lt K4.1) ge8)) nin0)) (ninS (Nat.ne_of_lt (Nat.lt_of_lt_of_le V1.lt ge4)) (ninS (Nat.ne_of_lt (Nat.lt_of_lt_of_le (Nat.lt_of_lt_of_le V1.lt K4.1) ge8)) nin0)))
  have f19 := (A15.safe (Nat.lt_of_lt_of_le Z8.2.2.2.1.lt (Nat.le_trans K10.1 K11.1)) f13)
  refine C15.virtual (y := (⟨"java/lang/StringBuilder", "append", "(Ljava/lang/String;)Ljava/lang/StringBuilder;"⟩ : MethodName)) (z := (⟨"java/lang/StringBuilder", "append", "(Ljava/lang/String;)Ljava/lang/StringBuilder;"⟩ : MethodName)) (W := 0) (a := a4) (argsL := [(.ref a1)]) (rest := []) (W59 hw) (W60 hw) (fun _ q => notFace_of_selects (args := #[]) (mvT q (W62 hw))) (W62 hw) (W61 hw) (W63 hw) (W43 hw) (by decide) (rm_sbAppend l Z a0 EL G a4 t8 kb8 (([] ++ [x, y]) ++ [(32 : Int32), (105 : Int32), (115 : Int32), (32 : Int32), (110 : Int32), (117 : Int32), (108 : Int32), (108 : Int32)]) 16 a1 b1 kA1 [] h15 C15.old Z15 f17 (Nat.le_of_ble_eq_true rfl) zg4 zg8) (fun _ => rfl) rfl Z15.1 (allS ⟨(Nat.lt_of_lt_of_le Z8.2.2.2.1.lt (Nat.le_trans K10.1 (Nat.le_trans K11.1 K15.1))), f19⟩ all0) (by decide) (by decide) (by decide) (by decide) (lenOf pd_17 rfl) rfl (Nat.le_of_ble_eq_true rfl) rfl d25_42 (pc' := 45) rfl ?_
  intro vm18 T18 h18 v18 C18 A18 M18 q18
  obtain ⟨rfl, K18, Z18⟩ := q18
  show Endw p e below T18 (mkF m 45 #[.val (.ref d), .val (.ref a), .val (.int (0 : Int32)), .val (.int (1 : Int32)), .val (.ref a1), .unset] [(.ref a4)]) _
  refine C18.ldcC (N := 8) (vs := (bys [(44 : Int32), (32 : Int32)])) (z := (2 : Int32)) (W166 hw) G.wS (by rw [G.el]; decide) ⟨by decide, by decide⟩ (by decide) (by decide) (by decide) (by decide) (by decide) (by decide) d25_45 (pc' := 47) rfl rfl ?_
  intro vm20 T20 h20 a20 b20 kA20 C20 K20 A20 E20 F20 f20 V20 r20
  have f21 := (A20.safe (Nat.lt_of_lt_of_le E4.lt (Nat.le_trans K8.1 (Nat.le_trans K10.1 (Nat.le_trans K11.1 (Nat.le_trans K15.1 K18.1))))) (A18.safe (Nat.lt_of_lt_of_le E4.lt (Nat.le_trans K8.1 (Nat.le_trans K10.1 (Nat.le_trans K11.1 K15.1)))) (A15.safe (Nat.lt_of_lt_of_le E4.lt (Nat.le_trans K8.1 (Nat.le_trans K10.1 K11.1))) f12)))
  have f22 := (A20.safe (Nat.lt_of_lt_of_le Z8.2.2.2.1.lt (Nat.le_trans K10.1 (Nat.le_trans K11.1 (Nat.le_trans K15.1 K18.1)))) (A18.safe (Nat.lt_of_lt_of_le Z8.2.2.2.1.lt (Nat.le_trans K10.1 (Nat.le_trans K11.1 K15.1))) f19))
  have Z20 : Str Z h20 a20 b20 kA20 [(44 : Int32), (32 : Int32)] := ⟨E20, F20, f20, V20, (own_cS ⟨by decide, by decide⟩ (own_cS ⟨by decide, by decide⟩ own_c0)), by decide⟩
  show Endw p e below T20 (mkF m 47 #[.val (.ref d), .val (.ref a), .val (.int (0 : Int32)), .val (.int (1 : Int32)), .val (.ref a1), .unset] [(.ref a20), (.ref a4)]) _
  have f23 := (Z18.keep K20 nin0 nin0)
  have f25 := (Z18.1.keep K20)
  refine C20.virtual (y := (⟨"java/lang/StringBuilder", "append", "(Ljava/lang/String;)Ljava/lang/StringBuilder;"⟩ : MethodName)) (z := (⟨"java/lang/StringBuilder", "append", "(Ljava/lang/String;)Ljava/lang/StringBuilder;"⟩ : MethodName)) (W := 0) (a := a4) (argsL := [(.ref a20)]) (rest := []) (W59 hw) (W60 hw) (fun _ q => notFace_of_selects (args := #[]) (mvT q (W62 hw))) (W62 hw) (W61 hw) (W63 hw) (W43 hw) (by decide) (rm_sbAppend l Z a0 EL G a4 t8 kb8 ((([] ++ [x, y]) ++ [(32 : Int32), (105 : Int32), (115 : Int32), (32 : Int32), (110 : Int32), (117 : Int32), (108 : Int32), (108 : Int32)]) ++ []) 16 a20 b20 kA20 [(44 : Int32), (32 : Int32)] h20 C20.old f23 Z20 (Nat.le_of_ble_eq_true rfl) zg4 zg8) (fun _ => rfl) rfl f25 (allS ⟨(Nat.lt_of_lt_of_le Z8.2.2.2.1.lt (Nat.le_trans K10.1 (Nat.le_trans K11.1 (Nat.le_trans K15.1 (Nat.le_trans K18.1 K20.1))))), f22⟩ all0) (by decide) (by decide) (by decide) (by decide) (lenOf pd_17 rfl) rfl (Nat.le_of_ble_eq_true rfl) rfl d25_47 (pc' := 50) rfl ?_
  intro vm24 T24 h24 v24 C24 A24 M24 q24
  obtain ⟨rfl, K24, Z24⟩ := q24
  show Endw p e below T24 (mkF m 50 #[.val (.ref d), .val (.ref a), .val (.int (0 : Int32)), .val (.int (1 : Int32)), .val (.ref a1), .unset] [(.ref a4)]) _
  refine Endw.st (T' := T24) (g' := (mkF m 51 #[.val (.ref d), .val (.ref a), .val (.int (0 : Int32)), .val (.int (1 : Int32)), .val (.ref a1), .unset] [(.ref a), (.ref a4)])) (fun tt_ kk_ => XS.aloadN C24.here C24.hx rfl (C24.dec d25_50) rfl rfl kk_) ?_
  have f26 := ((((((f9.keep K10 (ninS (Nat.ne_of_lt (Nat.lt_of_lt_of_le (Nat.lt_of_lt_of_le S.1.lt K1.1) ge4)) (ninS (Nat.ne_of_lt (Nat.lt_of_lt_of_le (Nat.lt_of_lt_of_le S.1.lt (Nat.le_trans K1.1 K4.1)) ge8)) nin0)) (ninS (Nat.ne_of_lt (Nat.lt_of_lt_of_le (Nat.lt_of_lt_of_le S.2.2.2.1.lt K1.1) ge4)) (ninS (Nat.ne_of_lt (Nat.lt_of_lt_of_le (Nat.lt_of_lt_of_le S.2.2.2.1.lt (Nat.le_trans K1.1 K4.1)) ge8)) nin0))).keep K11 nin0 nin0).keep K15 (ninS (Nat.ne_of_lt (Nat.lt_of_lt_of_le (Nat.lt_of_lt_of_le S.1.lt K1.1) ge4)) (ninS (Nat.ne_of_lt (Nat.lt_of_lt_of_le (Nat.lt_of_lt_of_le S.1.lt (Nat.le_trans K1.1 K4.1)) ge8)) nin0)) (ninS (Nat.ne_of_lt (Nat.lt_of_lt_of_le (Nat.lt_of_lt_of_le S.2.2.2.1.lt K1.1) ge4)) (ninS (Nat.ne_of_lt (Nat.lt_of_lt_of_le (Nat.lt_of_lt_of_le S.2.2.2.1.lt (Nat.le_trans K1.1 K4.1)) ge8)) nin0))).keep K18 (ninS (Nat.ne_of_lt (Nat.lt_of_lt_of_le (Nat.lt_of_lt_of_le S.1.lt K1.1) ge4)) (ninS (Nat.ne_of_lt (Nat.lt_of_lt_of_le (Nat.lt_of_lt_of_le S.1.lt (Nat.le_trans K1.1 K4.1)) ge8)) nin0)) (ninS (Nat.ne_of_lt (Nat.lt_of_lt_of_le (Nat.lt_of_lt_of_le S.2.2.2.1.lt K1.1) ge4)) (ninS (Nat.ne_of_lt (Nat.lt_of_lt_of_le (Nat.lt_of_lt_of_le S.2.2.2.1.lt (Nat.le_trans K1.1 K4.1)) ge8)) nin0))).keep K20 nin0 nin0).keep K24 (ninS (Nat.ne_of_lt (Nat.lt_of_lt_of_le (Nat.lt_of_lt_of_le S.1.lt K1.1) ge4)) (ninS (Nat.ne_of_lt (Nat.lt_of_lt_of_le (Nat.lt_of_lt_of_le S.1.lt (Nat.le_trans K1.1 K4.1)) ge8)) nin0)) (ninS (Nat.ne_of_lt (Nat.lt_of_lt_of_le (Nat.lt_of_lt_of_le S.2.2.2.1.lt K1.1) ge4)) (ninS (Nat.ne_of_lt (Nat.lt_of_lt_of_le (Nat.lt_of_lt_of_le S.2.2.2.1.lt (Nat.le_trans K1.1 K4.1)) ge8)) nin0)))
  have f28 := (A24.safe (Nat.lt_of_lt_of_le Z8.2.2.2.1.lt (Nat.le_trans K10.1 (Nat.le_trans K11.1 (Nat.le_trans K15.1 (Nat.le_trans K18.1 K20.1))))) f22)
  refine C24.virtual (y := (⟨"java/lang/StringBuilder", "append", "(Ljava/lang/String;)Ljava/lang/StringBuilder;"⟩ : MethodName)) (z := (⟨"java/lang/StringBuilder", "append", "(Ljava/lang/String;)Ljava/lang/StringBuilder;"⟩ : MethodName)) (W := 0) (a := a4) (argsL := [(.ref a)]) (rest := []) (W59 hw) (W60 hw) (fun _ q => notFace_of_selects (args := #[]) (mvT q (W62 hw))) (W62 hw) (W61 hw) (W63 hw) (W43 hw) (by decide) (rm_sbAppend l Z a0 EL G a4 t8 kb8 (((([] ++ [x, y]) ++ [(32 : Int32), (105 : Int32), (115 : Int32), (32 : Int32), (110 : Int32), (117 : Int32), (108 : Int32), (108 : Int32)]) ++ []) ++ [(44 : Int32), (32 : Int32)]) 16 a t kb [x, y] h24 C24.old Z24 f26 (Nat.le_of_ble_eq_true rfl) zg4 zg8) (fun _ => rfl) rfl Z24.1 (allS ⟨(Nat.lt_of_lt_of_le Z8.2.2.2.1.lt (Nat.le_trans K10.1 (Nat.le_trans K11.1 (Nat.le_trans K15.1 (Nat.le_trans K18.1 (Nat.le_trans K20.1 K24.1)))))), f28⟩ all0) (by decide) (by decide) (by decide) (by decide) (lenOf pd_17 rfl) rfl (Nat.le_of_ble_eq_true rfl) rfl d25_51 (pc' := 54) rfl ?_
  intro vm27 T27 h27 v27 C27 A27 M27 q27
  obtain ⟨rfl, K27, Z27⟩ := q27
  show Endw p e below T27 (mkF m 54 #[.val (.ref d), .val (.ref a), .val (.int (0 : Int32)), .val (.int (1 : Int32)), .val (.ref a1), .unset] [(.ref a4)]) _
  refine Endw.st (T' := T27) (g' := (mkF m 56 #[.val (.ref d), .val (.ref a), .val (.int (0 : Int32)), .val (.int (1 : Int32)), .val (.ref a1), .unset] [(.ref a1), (.ref a4)])) (fun tt_ kk_ => XS.aload C27.here C27.hx rfl (C27.dec d25_54) rfl rfl kk_) ?_
  have f29 := ((((f17.keep K18 (ninS (Nat.ne_of_lt (Nat.lt_of_lt_of_le E1.lt ge4)) (ninS (Nat.ne_of_lt (Nat.lt_of_lt_of_le (Nat.lt_of_lt_of_le E1.lt K4.1) ge8)) nin0)) (ninS (Nat.ne_of_lt (Nat.lt_of_lt_of_le V1.lt ge4)) (ninS (Nat.ne_of_lt (Nat.lt_of_lt_of_le (Nat.lt_of_lt_of_le V1.lt K4.1) ge8)) nin0))).keep K20 nin0 nin0).keep K24 (ninS (Nat.ne_of_lt (Nat.lt_of_lt_of_le E1.lt ge4)) (ninS (Nat.ne_of_lt (Nat.lt_of_lt_of_le (Nat.lt_of_lt_of_le E1.lt K4.1) ge8)) nin0)) (ninS (Nat.ne_of_lt (Nat.lt_of_lt_of_le V1.lt ge4)) (ninS (Nat.ne_of_lt (Nat.lt_of_lt_of_le (Nat.lt_of_lt_of_le V1.lt K4.1) ge8)) nin0))).keep K27 (ninS (Nat.ne_of_lt (Nat.lt_of_lt_of_le E1.lt ge4)) (ninS (Nat.ne_of_lt (Nat.lt_of_lt_of_le (Nat.lt_of_lt_of_le E1.lt K4.1) ge8)) nin0)) (ninS (Nat.ne_of_lt (Nat.lt_of_lt_of_le V1.lt ge4)) (ninS (Nat.ne_of_lt (Nat.lt_of_lt_of_le (Nat.lt_of_lt_of_le V1.lt K4.1) ge8)) nin0)))
  have f31 := (A27.safe (Nat.lt_of_lt_of_le Z8.2.2.2.1.lt (Nat.le_trans K10.1 (Nat.le_trans K11.1 (Nat.le_trans K15.1 (Nat.le_trans K18.1 (Nat.le_trans K20.1 K24.1)))))) f28)
  refine C27.virtual (y := (⟨"java/lang/StringBuilder", "append", "(Ljava/lang/String;)Ljava/lang/StringBuilder;"⟩ : MethodName)) (z := (⟨"java/lang/StringBuilder", "append", "(Ljava/lang/String;)Ljava/lang/StringBuilder;"⟩ : MethodName)) (W := 0) (a := a4) (argsL := [(.ref a1)]) (rest := []) (W59 hw) (W60 hw) (fun _ q => notFace_of_selects (args := #[]) (mvT q (W62 hw))) (W62 hw) (W61 hw) (W63 hw) (W43 hw) (by decide) (rm_sbAppend l Z a0 EL G a4 t8 kb8 ((((([] ++ [x, y]) ++ [(32 : Int32), (105 : Int32), (115 : Int32), (32 : Int32), (110 : Int32), (117 : Int32), (108 : Int32), (108 : Int32)]) ++ []) ++ [(44 : Int32), (32 : Int32)]) ++ [x, y]) 16 a1 b1 kA1 [] h27 C27.old Z27 f29 (Nat.le_of_ble_eq_true rfl) zg4 zg8) (fun _ => rfl) rfl Z27.1 (allS ⟨(Nat.lt_of_lt_of_le Z8.2.2.2.1.lt (Nat.le_trans K10.1 (Nat.le_trans K11.1 (Nat.le_trans K15.1 (Nat.le_trans K18.1 (Nat.le_trans K20.1 (Nat.le_trans K24.1 K27.1))))))), f31⟩ all0) (by decide) (by decide) (by decide) (by decide) (lenOf pd_17 rfl) rfl (Nat.le_of_ble_eq_true rfl) rfl d25_56 (pc' := 59) rfl ?_
  intro vm30 T30 h30 v30 C30 A30 M30 q30
  obtain ⟨rfl, K30, Z30⟩ := q30
  show Endw p e below T30 (mkF m 59 #[.val (.ref d), .val (.ref a), .val (.int (0 : Int32)), .val (.int (1 : Int32)), .val (.ref a1), .unset] [(.ref a4)]) _
  refine C30.virtual (y := (⟨"java/lang/StringBuilder", "toString", "()Ljava/lang/String;"⟩ : MethodName)) (z := (⟨"java/lang/StringBuilder", "toString", "()Ljava/lang/String;"⟩ : MethodName)) (W := 0) (a := a4) (argsL := []) (rest := []) (W106 hw) (W107 hw) (fun _ q => notFace_of_selects (args := #[]) (mvT q (W109 hw))) (W109 hw) (W108 hw) (W110 hw) (W43 hw) (by decide) (rm_toString l Z a0 EL G a4 t8 kb8 (((((([] ++ [x, y]) ++ [(32 : Int32), (105 : Int32), (115 : Int32), (32 : Int32), (110 : Int32), (117 : Int32), (108 : Int32), (108 : Int32)]) ++ []) ++ [(44 : Int32), (32 : Int32)]) ++ [x, y]) ++ []) 16 h30 C30.old Z30 (Nat.le_of_ble_eq_true rfl) (Nat.le_of_ble_eq_true rfl)) (fun _ => rfl) rfl Z30.1 all0 (by decide) (by decide) (by decide) (by decide) (lenOf pd_2 rfl) rfl (Nat.le_of_ble_eq_true rfl) rfl d25_59 (pc' := 62) rfl ?_
  intro vm32 T32 h32 v32 C32 A32 M32 q32
  obtain ⟨a32, d32, kd32, rfl, K32, ge32, gd32, zg32, zd32, Z32⟩ := q32
  show Endw p e below T32 (mkF m 62 #[.val (.ref d), .val (.ref a), .val (.int (0 : Int32)), .val (.int (1 : Int32)), .val (.ref a1), .unset] [(.ref a32)]) _
  refine Endw.st (T' := T32) (g' := (mkF m 90 #[.val (.ref d), .val (.ref a), .val (.int (0 : Int32)), .val (.int (1 : Int32)), .val (.ref a1), .val (.ref a32)] [(.ref a32)])) (fun tt_ kk_ => XS.astore C32.here C32.hx rfl (C32.dec d25_62) rfl rfl (l' := #[.val (.ref d), .val (.ref a), .val (.int (0 : Int32)), .val (.int (1 : Int32)), .val (.ref a1), .val (.ref a32)]) rfl (XS.goto C32.here C32.hx rfl (pc0 := 64) rfl (C32.dec d25_64) (by decide) rfl (XS.aload C32.here C32.hx rfl (C32.dec d25_88) rfl rfl kk_))) ?_
  exact C32.retA (t := (.object "java/lang/String")) rfl rfl rfl rfl d25_90 (by decide) (by decide) ⟨a32, d32, kd32, rfl, (Keep.trans (Keep.trans (Keep.trans (Keep.trans (Keep.trans (Keep.trans (Keep.trans (Keep.trans (Keep.trans (Keep.trans (Keep.trans (Keep.trans (Keep.refl h []) K1 all0) K4 all0) K8 (allS (Or.inr (Nat.le_trans K1.1 ge4)) all0)) K10 (allS (Or.inr (Nat.le_trans K1.1 ge4)) (allS (Or.inr (Nat.le_trans (Nat.le_trans K1.1 K4.1) ge8)) all0))) K11 all0) K15 (allS (Or.inr (Nat.le_trans K1.1 ge4)) (allS (Or.inr (Nat.le_trans (Nat.le_trans K1.1 K4.1) ge8)) all0))) K18 (allS (Or.inr (Nat.le_trans K1.1 ge4)) (allS (Or.inr (Nat.le_trans (Nat.le_trans K1.1 K4.1) ge8)) all0))) K20 all0) K24 (allS (Or.inr (Nat.le_trans K1.1 ge4)) (allS (Or.inr (Nat.le_trans (Nat.le_trans K1.1 K4.1) ge8)) all0))) K27 (allS (Or.inr (Nat.le_trans K1.1 ge4)) (allS (Or.inr (Nat.le_trans (Nat.le_trans K1.1 K4.1) ge8)) all0))) K30 (allS (Or.inr (Nat.le_trans K1.1 ge4)) (allS (Or.inr (Nat.le_trans (Nat.le_trans K1.1 K4.1) ge8)) all0))) K32 all0), (Nat.le_trans (Nat.le_trans K1.1 (Nat.le_trans K4.1 (Nat.le_trans K8.1 (Nat.le_trans K10.1 (Nat.le_trans K11.1 (Nat.le_trans K15.1 (Nat.le_trans K18.1 (Nat.le_trans K20.1 (Nat.le_trans K24.1 (Nat.le_trans K27.1 K30.1)))))))))) ge32), (Nat.le_trans (Nat.le_trans K1.1 (Nat.le_trans K4.1 (Nat.le_trans K8.1 (Nat.le_trans K10.1 (Nat.le_trans K11.1 (Nat.le_trans K15.1 (Nat.le_trans K18.1 (Nat.le_trans K20.1 (Nat.le_trans K24.1 (Nat.le_trans K27.1 K30.1)))))))))) gd32), zg32, zd32, Z32⟩
set_option maxRecDepth 65536 in
set_option maxHeartbeats 40000000 in
theorem rm_oi100 (l : Launch) (Z : State) (a0 : Array Value) (EL : List (String × Nat)) (G : Glob Z a0 EL) (d a t : Addr) (kb : ClassId) (x y : Int32) (h : Heap) (O : Ext Z.heap h) (F0 : Fld Z h d "com/example/frugal_orm/frugalorm/Dialect" "nullsFirst" "Z" (.int (0 : Int32))) (S : Str Z h a t kb [x, y]) :
    Met l Z EL false (⟨"com/example/frugal_orm/frugalorm/Dialect", "orderItems", "(Ljava/lang/String;ZZ)Ljava/lang/String;"⟩ : MethodName) prog_7_method_6_code 6 (some (.object "java/lang/String")) [] ({ frames := 6, cells := 6, slots := 88, locals := 91 } : Room) #[(.ref d), (.ref a), (.int (1 : Int32)), (.int (0 : Int32))] h [] (fun r h' => ∃ (a t : Addr) (kb : ClassId), r = some (.ref a) ∧ Keep h h' [] ∧ h.size ≤ a ∧ h.size ≤ t ∧ Z.heap.size ≤ a ∧ Z.heap.size ≤ t ∧ Str Z h' a t kb (([] ++ [x, y]) ++ [(32 : Int32), (100 : Int32), (101 : Int32), (115 : Int32), (99 : Int32)])) := by
  have hw := G.hw
  obtain ⟨zc, Sc, hzc⟩ := G.cs
  obtain ⟨vf, Sf, hvf⟩ := G.fm
  refine Met.of (plainFor_of_name pn_69616c656374_0) G.ew O ?_
  intro p e s m below meth c T0 C0 S0
  refine Endw.eq (g' := mkF m 0 #[.val (.ref d), .val (.ref a), .val (.int (1 : Int32)), .val (.int (0 : Int32)), .unset, .unset] []) (by first | rfl | (simp [entryFrame, mkF, argsToLocals, own_cI, own_cR, own_cN, own_cJ, own_cD, maxLocals]; done)) ?_
  refine Endw.st (T' := T0) (g' := (mkF m 4 #[.val (.ref d), .val (.ref a), .val (.int (1 : Int32)), .val (.int (0 : Int32)), .unset, .unset] [])) (fun tt_ kk_ => XS.iloadN C0.here C0.hx rfl (C0.dec d25_0) rfl (XS.ifNo C0.here C0.hx rfl (C0.dec d25_1) rfl (XT.i0_eq_f (by decide)) kk_)) ?_
  refine C0.ldcC (N := 20) (vs := (bys [(32 : Int32), (100 : Int32), (101 : Int32), (115 : Int32), (99 : Int32)])) (z := (5 : Int32)) (W38 hw) G.wS (by rw [G.el]; decide) ⟨by decide, by decide⟩ (by decide) (by decide) (by decide) (by decide) (by decide) (by decide) d25_4 (pc' := 6) rfl rfl ?_
  intro vm1 T1 h1 a1 b1 kA1 C1 K1 A1 E1 F1 f1 V1 r1
  have Z1 : Str Z h1 a1 b1 kA1 [(32 : Int32), (100 : Int32), (101 : Int32), (115 : Int32), (99 : Int32)] := ⟨E1, F1, f1, V1, (own_cS ⟨by decide, by decide⟩ (own_cS ⟨by decide, by decide⟩ (own_cS ⟨by decide, by decide⟩ (own_cS ⟨by decide, by decide⟩ (own_cS ⟨by decide, by decide⟩ own_c0))))), by decide⟩
  show Endw p e below T1 (mkF m 6 #[.val (.ref d), .val (.ref a), .val (.int (1 : Int32)), .val (.int (0 : Int32)), .unset, .unset] [(.ref a1)]) _
  refine Endw.st (T' := T1) (g' := (mkF m 67 #[.val (.ref d), .val (.ref a), .val (.int (1 : Int32)), .val (.int (0 : Int32)), .val (.ref a1), .unset] [])) (fun tt_ kk_ => XS.goto C1.here C1.hx rfl (pc0 := 6) rfl (C1.dec d25_6) (by decide) rfl (XS.astore C1.here C1.hx rfl (C1.dec d25_11) rfl rfl (l' := #[.val (.ref d), .val (.ref a), .val (.int (1 : Int32)), .val (.int (0 : Int32)), .val (.ref a1), .unset]) rfl (XS.iloadN C1.here C1.hx rfl (C1.dec d25_13) rfl (XS.ifYes C1.here C1.hx rfl (pc0 := 14) rfl (C1.dec d25_14) rfl (XT.i0_eq_t (by decide)) (by decide) rfl kk_)))) ?_
  refine C1.new (W41 hw) (W42 hw) (W43 hw) d25_67 (pc' := 70) rfl (by decide) (by decide) ?_
  intro T2 h2 a2 C2 K2 A2 ge2 zg2 E2 D2 S2
  show Endw p e below T2 (mkF m 70 #[.val (.ref d), .val (.ref a), .val (.int (1 : Int32)), .val (.int (0 : Int32)), .val (.ref a1), .unset] [(.ref a2)]) _
  refine Endw.st (T' := T2) (g' := (mkF m 71 #[.val (.ref d), .val (.ref a), .val (.int (1 : Int32)), .val (.int (0 : Int32)), .val (.ref a1), .unset] [(.ref a2), (.ref a2)])) (fun tt_ kk_ => XS.dup C2.here C2.hx rfl (C2.dec d25_70) rfl rfl kk_) ?_
  have f3 : Fld Z h2 a2 "java/lang/AbstractStringBuilder" "value" "[B" .null := D2 (Or.inl (W56 hw)) (ty := (.array .byte)) (by decide)
  have f4 : Fld Z h2 a2 "java/lang/AbstractStringBuilder" "coder" "B" (.int (0 : Int32)) := D2 (Or.inl (W58 hw)) (ty := .byte) (by decide)
  have f5 : Fld Z h2 a2 "java/lang/AbstractStringBuilder" "count" "I" (.int (0 : Int32)) := D2 (Or.inl (W80 hw)) (ty := .int) (by decide)
  refine C2.special (y := (⟨"java/lang/StringBuilder", "<init>", "()V"⟩ : MethodName)) (W := 1) (a := a2) (argsL := []) (rest := [(.ref a2)]) rfl (W44 hw) (W45 hw) (W46 hw) (W43 hw) (by decide) (rm_sbInit l Z a0 EL G a2 h2 C2.old E2 f3 f4 f5 zg2) (fun _ => rfl) rfl all0 (by decide) (by decide) (by decide) (by decide) (lenOf pd_282956 rfl) rfl (Nat.le_of_ble_eq_true rfl) rfl d25_71 (pc' := 74) rfl ?_
  intro vm6 T6 h6 v6 C6 A6 M6 q6
  obtain ⟨rfl, t6, kb6, K6, ge6, zg6, Z6⟩ := q6
  show Endw p e below T6 (mkF m 74 #[.val (.ref d), .val (.ref a), .val (.int (1 : Int32)), .val (.int (0 : Int32)), .val (.ref a1), .unset] [(.ref a2)]) _
  refine Endw.st (T' := T6) (g' := (mkF m 75 #[.val (.ref d), .val (.ref a), .val (.int (1 : Int32)), .val (.int (0 : Int32)), .val (.ref a1), .unset] [(.ref a), (.ref a2)])) (fun tt_ kk_ => XS.aloadN C6.here C6.hx rfl (C6.dec d25_74) rfl rfl kk_) ?_
  have f7 := (((S.keep K1 nin0 nin0).keep K2 nin0 nin0).keep K6 (ninS (Nat.ne_of_lt (Nat.lt_of_lt_of_le (Nat.lt_of_lt_of_le S.1.lt K1.1) ge2)) nin0) (ninS (Nat.ne_of_lt (Nat.lt_of_lt_of_le (Nat.lt_of_lt_of_le S.2.2.2.1.lt K1.1) ge2)) nin0))
  refine C6.virtual (y := (⟨"java/lang/StringBuilder", "append", "(Ljava/lang/String;)Ljava/lang/StringBuilder;"⟩ : MethodName)) (z := (⟨"java/lang/StringBuilder", "append", "(Ljava/lang/String;)Ljava/lang/StringBuilder;"⟩ : MethodName)) (W := 0) (a := a2) (argsL := [(.ref a)]) (rest := []) (W59 hw) (W60 hw) (fun _ q => notFace_of_selects (args := #[]) (mvT q (W62 hw))) (W62 hw) (W61 hw) (W63 hw) (W43 hw) (by decide) (rm_sbAppend l Z a0 EL G a2 t6 kb6 [] 16 a t kb [x, y] h6 C6.old Z6 f7 (Nat.le_of_ble_eq_true rfl) zg2 zg6) (fun _ => rfl) rfl Z6.1 (allS ⟨Z6.2.2.2.1.lt, (own_safe_new (M6 rfl) ge6)⟩ all0) (by decide) (by decide) (by decide) (by decide) (lenOf pd_17 rfl) rfl (Nat.le_of_ble_eq_true rfl) rfl d25_75 (pc' := 78) rfl ?_
  intro vm8 T8 h8 v8 C8 A8 M8 q8
  obtain ⟨rfl, K8, Z8⟩ := q8
  show Endw p e below T8 (mkF m 78 #[.val (.ref d), .val (.ref a), .val (.int (1 : Int32)), .val (.int (0 : Int32)), .val (.ref a1), .unset] [(.ref a2)]) _
  refine Endw.st (T' := T8) (g' := (mkF m 80 #[.val (.ref d), .val (.ref a), .val (.int (1 : Int32)), .val (.int (0 : Int32)), .val (.ref a1), .unset] [(.ref a1), (.ref a2)])) (fun tt_ kk_ => XS.aload C8.here C8.hx rfl (C8.dec d25_78) rfl rfl kk_) ?_
  have f9 := (((Z1.keep K2 nin0 nin0).keep K6 (ninS (Nat.ne_of_lt (Nat.lt_of_lt_of_le E1.lt ge2)) nin0) (ninS (Nat.ne_of_lt (Nat.lt_of_lt_of_le V1.lt ge2)) nin0)).keep K8 (ninS (Nat.ne_of_lt (Nat.lt_of_lt_of_le E1.lt ge2)) (ninS (Nat.ne_of_lt (Nat.lt_of_lt_of_le (Nat.lt_of_lt_of_le E1.lt K2.1) ge6)) nin0)) (ninS (Nat.ne_of_lt (Nat.lt_of_lt_of_le V1.lt ge2)) (ninS (Nat.ne_of_lt (Nat.lt_of_lt_of_le (Nat.lt_of_lt_of_le V1.lt K2.1) ge6)) nin0)))
  have f11 := (A8.safe Z6.2.2.2.1.lt (own_safe_new (M6 rfl) ge6))
  refine C8.virtual (y := (⟨"java/lang/StringBuilder", "append", "(Ljava/lang/String;)Ljava/lang/StringBuilder;"⟩ : MethodName)) (z := (⟨"java/lang/StringBuilder", "append", "(Ljava/lang/String;)Ljava/lang/StringBuilder;"⟩ : MethodName)) (W := 0) (a := a2) (argsL := [(.ref a1)]) (rest := []) (W59 hw) (W60 hw) (fun _ q => notFace_of_selects (args := #[]) (mvT q (W62 hw))) (W62 hw) (W61 hw) (W63 hw) (W43 hw) (by decide) (rm_sbAppend l Z a0 EL G a2 t6 kb6 ([] ++ [x, y]) 16 a1 b1 kA1 [(32 : Int32), (100 : Int32), (101 : Int32), (115 : Int32), (99 : Int32)] h8 C8.old Z8 f9 (Nat.le_of_ble_eq_true rfl) zg2 zg6) (fun _ => rfl) rfl Z8.1 (allS ⟨(Nat.lt_of_lt_of_le Z6.2.2.2.1.lt K8.1), f11⟩ all0) (by decide) (by decide) (by decide) (by decide) (lenOf pd_17 rfl) rfl (Nat.le_of_ble_eq_true rfl) rfl d25_80 (pc' := 83) rfl ?_
  intro vm10 T10 h10 v10 C10 A10 M10 q10
  obtain ⟨rfl, K10, Z10⟩ := q10
  show Endw p e below T10 (mkF m 83 #[.val (.ref d), .val (.ref a), .val (.int (1 : Int32)), .val (.int (0 : Int32)), .val (.ref a1), .unset] [(.ref a2)]) _
  refine C10.virtual (y := (⟨"java/lang/StringBuilder", "toString", "()Ljava/lang/String;"⟩ : MethodName)) (z := (⟨"java/lang/StringBuilder", "toString", "()Ljava/lang/String;"⟩ : MethodName)) (W := 0) (a := a2) (argsL := []) (rest := []) (W106 hw) (W107 hw) (fun _ q => notFace_of_selects (args := #[]) (mvT q (W109 hw))) (W109 hw) (W108 hw) (W110 hw) (W43 hw) (by decide) (rm_toString l Z a0 EL G a2 t6 kb6 (([] ++ [x, y]) ++ [(32 : Int32), (100 : Int32), (101 : Int32), (115 : Int32), (99 : Int32)]) 16 h10 C10.old Z10 (Nat.le_of_ble_eq_true rfl) (Nat.le_of_ble_eq_true rfl)) (fun _ => rfl) rfl Z10.1 all0 (by decide) (by decide) (by decide) (by decide) (lenOf pd_2 rfl) rfl (Nat.le_of_ble_eq_true rfl) rfl d25_83 (pc' := 86) rfl ?_
  intro vm12 T12 h12 v12 C12 A12 M12 q12
  obtain ⟨a12, d12, kd12, rfl, K12, ge12, gd12, zg12, zd12, Z12⟩ := q12
  show Endw p e below T12 (mkF m 86 #[.val (.ref d), .val (.ref a), .val (.int (1 : Int32)), .val (.int (0 : Int32)), .val (.ref a1), .unset] [(.ref a12)]) _
  refine Endw.st (T' := T12) (g' := (mkF m 90 #[.val (.ref d), .val (.ref a), .val (.int (1 : Int32)), .val (.int (0 : Int32)), .val (.ref a1), .val (.ref a12)] [(.ref a12)])) (fun tt_ kk_ => XS.astore C12.here C12.hx rfl (C12.dec d25_86) rfl rfl (l' := #[.val (.ref d), .val (.ref a), .val (.int (1 : Int32)), .val (.int (0 : Int32)), .val (.ref a1), .val (.ref a12)]) rfl (XS.aload C12.here C12.hx rfl (C12.dec d25_88) rfl rfl kk_)) ?_
  exact C12.retA (t := (.object "java/lang/String")) rfl rfl rfl rfl d25_90 (by decide) (by decide) ⟨a12, d12, kd12, rfl, (Keep.trans (Keep.trans (Keep.trans (Keep.trans (Keep.trans (Keep.trans (Keep.refl h []) K1 all0) K2 all0) K6 (allS (Or.inr (Nat.le_trans K1.1 ge2)) all0)) K8 (allS (Or.inr (Nat.le_trans K1.1 ge2)) (allS (Or.inr (Nat.le_trans (Nat.le_trans K1.1 K2.1) ge6)) all0))) K10 (allS (Or.inr (Nat.le_trans K1.1 ge2)) (allS (Or.inr (Nat.le_trans (Nat.le_trans K1.1 K2.1) ge6)) all0))) K12 all0), (Nat.le_trans (Nat.le_trans K1.1 (Nat.le_trans K2.1 (Nat.le_trans K6.1 (Nat.le_trans K8.1 K10.1)))) ge12), (Nat.le_trans (Nat.le_trans K1.1 (Nat.le_trans K2.1 (Nat.le_trans K6.1 (Nat.le_trans K8.1 K10.1)))) gd12), zg12, zd12, Z12⟩
set_option maxRecDepth 65536 in
set_option maxHeartbeats 40000000 in
theorem rm_oi101 (l : Launch) (Z : State) (a0 : Array Value) (EL : List (String × Nat)) (G : Glob Z a0 EL) (d a t : Addr) (kb : ClassId) (x y : Int32) (h : Heap) (O : Ext Z.heap h) (F0 : Fld Z h d "com/example/frugal_orm/frugalorm/Dialect" "nullsFirst" "Z" (.int (1 : Int32))) (S : Str Z h a t kb [x, y]) :
    Met l Z EL false (⟨"com/example/frugal_orm/frugalorm/Dialect", "orderItems", "(Ljava/lang/String;ZZ)Ljava/lang/String;"⟩ : MethodName) prog_7_method_6_code 6 (some (.object "java/lang/String")) [] ({ frames := 6, cells := 6, slots := 88, locals := 91 } : Room) #[(.ref d), (.ref a), (.int (1 : Int32)), (.int (0 : Int32))] h [] (fun r h' => ∃ (a t : Addr) (kb : ClassId), r = some (.ref a) ∧ Keep h h' [] ∧ h.size ≤ a ∧ h.size ≤ t ∧ Z.heap.size ≤ a ∧ Z.heap.size ≤ t ∧ Str Z h' a t kb (([] ++ [x, y]) ++ [(32 : Int32), (100 : Int32), (101 : Int32), (115 : Int32), (99 : Int32)])) := by
  have hw := G.hw
  obtain ⟨zc, Sc, hzc⟩ := G.cs
  obtain ⟨vf, Sf, hvf⟩ := G.fm
  refine Met.of (plainFor_of_name pn_69616c656374_0) G.ew O ?_
  intro p e s m below meth c T0 C0 S0
  refine Endw.eq (g' := mkF m 0 #[.val (.ref d), .val (.ref a), .val (.int (1 : Int32)), .val (.int (0 : Int32)), .unset, .unset] []) (by first | rfl | (simp [entryFrame, mkF, argsToLocals, own_cI, own_cR, own_cN, own_cJ, own_cD, maxLocals]; done)) ?_
  refine Endw.st (T' := T0) (g' := (mkF m 4 #[.val (.ref d), .val (.ref a), .val (.int (1 : Int32)), .val (.int (0 : Int32)), .unset, .unset] [])) (fun tt_ kk_ => XS.iloadN C0.here C0.hx rfl (C0.dec d25_0) rfl (XS.ifNo C0.here C0.hx rfl (C0.dec d25_1) rfl (XT.i0_eq_f (by decide)) kk_)) ?_
  refine C0.ldcC (N := 20) (vs := (bys [(32 : Int32), (100 : Int32), (101 : Int32), (115 : Int32), (99 : Int32)])) (z := (5 : Int32)) (W38 hw) G.wS (by rw [G.el]; decide) ⟨by decide, by decide⟩ (by decide) (by decide) (by decide) (by decide) (by decide) (by decide) d25_4 (pc' := 6) rfl rfl ?_
  intro vm1 T1 h1 a1 b1 kA1 C1 K1 A1 E1 F1 f1 V1 r1
  have Z1 : Str Z h1 a1 b1 kA1 [(32 : Int32), (100 : Int32), (101 : Int32), (115 : Int32), (99 : Int32)] := ⟨E1, F1, f1, V1, (own_cS ⟨by decide, by decide⟩ (own_cS ⟨by decide, by decide⟩ (own_cS ⟨by decide, by decide⟩ (own_cS ⟨by decide, by decide⟩ (own_cS ⟨by decide, by decide⟩ own_c0))))), by decide⟩
  show Endw p e below T1 (mkF m 6 #[.val (.ref d), .val (.ref a), .val (.int (1 : Int32)), .val (.int (0 : Int32)), .unset, .unset] [(.ref a1)]) _
  refine Endw.st (T' := T1) (g' := (mkF m 67 #[.val (.ref d), .val (.ref a), .val (.int (1 : Int32)), .val (.int (0 : Int32)), .val (.ref a1), .unset] [])) (fun tt_ kk_ => XS.goto C1.here C1.hx rfl (pc0 := 6) rfl (C1.dec d25_6) (by decide) rfl (XS.astore C1.here C1.hx rfl (C1.dec d25_11) rfl rfl (l' := #[.val (.ref d), .val (.ref a), .val (.int (1 : Int32)), .val (.int (0 : Int32)), .val (.ref a1), .unset]) rfl (XS.iloadN C1.here C1.hx rfl (C1.dec d25_13) rfl (XS.ifYes C1.here C1.hx rfl (pc0 := 14) rfl (C1.dec d25_14) rfl (XT.i0_eq_t (by decide)) (by decide) rfl kk_)))) ?_
  refine C1.new (W41 hw) (W42 hw) (W43 hw) d25_67 (pc' := 70) rfl (by decide) (by decide) ?_
  intro T2 h2 a2 C2 K2 A2 ge2 zg2 E2 D2 S2
  show Endw p e below T2 (mkF m 70 #[.val (.ref d), .val (.ref a), .val (.int (1 : Int32)), .val (.int (0 : Int32)), .val (.ref a1), .unset] [(.ref a2)]) _
  refine Endw.st (T' := T2) (g' := (mkF m 71 #[.val (.ref d), .val (.ref a), .val (.int (1 : Int32)), .val (.int (0 : Int32)), .val (.ref a1), .unset] [(.ref a2), (.ref a2)])) (fun tt_ kk_ => XS.dup C2.here C2.hx rfl (C2.dec d25_70) rfl rfl kk_) ?_
  have f3 : Fld Z h2 a2 "java/lang/AbstractStringBuilder" "value" "[B" .null := D2 (Or.inl (W56 hw)) (ty := (.array .byte)) (by decide)
  have f4 : Fld Z h2 a2 "java/lang/AbstractStringBuilder" "coder" "B" (.int (0 : Int32)) := D2 (Or.inl (W58 hw)) (ty := .byte) (by decide)
  have f5 : Fld Z h2 a2 "java/lang/AbstractStringBuilder" "count" "I" (.int (0 : Int32)) := D2 (Or.inl (W80 hw)) (ty := .int) (by decide)
  refine C2.special (y := (⟨"java/lang/StringBuilder", "<init>", "()V"⟩ : MethodName)) (W := 1) (a := a2) (argsL := []) (rest := [(.ref a2)]) rfl (W44 hw) (W45 hw) (W46 hw) (W43 hw) (by decide) (rm_sbInit l Z a0 EL G a2 h2 C2.old E2 f3 f4 f5 zg2) (fun _ => rfl) rfl all0 (by decide) (by decide) (by decide) (by decide) (lenOf pd_282956 rfl) rfl (Nat.le_of_ble_eq_true rfl) rfl d25_71 (pc' := 74) rfl ?_
  intro vm6 T6 h6 v6 C6 A6 M6 q6
  obtain ⟨rfl, t6, kb6, K6, ge6, zg6, Z6⟩ := q6
  show Endw p e below T6 (mkF m 74 #[.val (.ref d), .val (.ref a), .val (.int (1 : Int32)), .val (.int (0 : Int32)), .val (.ref a1), .unset] [(.ref a2)]) _
  refine Endw.st (T' := T6) (g' := (mkF m 75 #[.val (.ref d), .val (.ref a), .val (.int (1 : Int32)), .val (.int (0 : Int32)), .val (.ref a1), .unset] [(.ref a), (.ref a2)])) (fun tt_ kk_ => XS.aloadN C6.here C6.hx rfl (C6.dec d25_74) rfl rfl kk_) ?_
  have f7 := (((S.keep K1 nin0 nin0).keep K2 nin0 nin0).keep K6 (ninS (Nat.ne_of_lt (Nat.lt_of_lt_of_le (Nat.lt_of_lt_of_le S.1.lt K1.1) ge2)) nin0) (ninS (Nat.ne_of_lt (Nat.lt_of_lt_of_le (Nat.lt_of_lt_of_le S.2.2.2.1.lt K1.1) ge2)) nin0))
  refine C6.virtual (y := (⟨"java/lang/StringBuilder", "append", "(Ljava/lang/String;)Ljava/lang/StringBuilder;"⟩ : MethodName)) (z := (⟨"java/lang/StringBuilder", "append", "(Ljava/lang/String;)Ljava/lang/StringBuilder;"⟩ : MethodName)) (W := 0) (a := a2) (argsL := [(.ref a)]) (rest := []) (W59 hw) (W60 hw) (fun _ q => notFace_of_selects (args := #[]) (mvT q (W62 hw))) (W62 hw) (W61 hw) (W63 hw) (W43 hw) (by decide) (rm_sbAppend l Z a0 EL G a2 t6 kb6 [] 16 a t kb [x, y] h6 C6.old Z6 f7 (Nat.le_of_ble_eq_true rfl) zg2 zg6) (fun _ => rfl) rfl Z6.1 (allS ⟨Z6.2.2.2.1.lt, (own_safe_new (M6 rfl) ge6)⟩ all0) (by decide) (by decide) (by decide) (by decide) (lenOf pd_17 rfl) rfl (Nat.le_of_ble_eq_true rfl) rfl d25_75 (pc' := 78) rfl ?_
  intro vm8 T8 h8 v8 C8 A8 M8 q8
  obtain ⟨rfl, K8, Z8⟩ := q8
  show Endw p e below T8 (mkF m 78 #[.val (.ref d), .val (.ref a), .val (.int (1 : Int32)), .val (.int (0 : Int32)), .val (.ref a1), .unset] [(.ref a2)]) _
  refine Endw.st (T' := T8) (g' := (mkF m 80 #[.val (.ref d), .val (.ref a), .val (.int (1 : Int32)), .val (.int (0 : Int32)), .val (.ref a1), .unset] [(.ref a1), (.ref a2)])) (fun tt_ kk_ => XS.aload C8.here C8.hx rfl (C8.dec d25_78) rfl rfl kk_) ?_
  have f9 := (((Z1.keep K2 nin0 nin0).keep K6 (ninS (Nat.ne_of_lt (Nat.lt_of_lt_of_le E1.lt ge2)) nin0) (ninS (Nat.ne_of_lt (Nat.lt_of_lt_of_le V1.lt ge2)) nin0)).keep K8 (ninS (Nat.ne_of_lt (Nat.lt_of_lt_of_le E1.lt ge2)) (ninS (Nat.ne_of_lt (Nat.lt_of_lt_of_le (Nat.lt_of_lt_of_le E1.lt K2.1) ge6)) nin0)) (ninS (Nat.ne_of_lt (Nat.lt_of_lt_of_le V1.lt ge2)) (ninS (Nat.ne_of_lt (Nat.lt_of_lt_of_le (Nat.lt_of_lt_of_le V1.lt K2.1) ge6)) nin0)))
  have f11 := (A8.safe Z6.2.2.2.1.lt (own_safe_new (M6 rfl) ge6))
  refine C8.virtual (y := (⟨"java/lang/StringBuilder", "append", "(Ljava/lang/String;)Ljava/lang/StringBuilder;"⟩ : MethodName)) (z := (⟨"java/lang/StringBuilder", "append", "(Ljava/lang/String;)Ljava/lang/StringBuilder;"⟩ : MethodName)) (W := 0) (a := a2) (argsL := [(.ref a1)]) (rest := []) (W59 hw) (W60 hw) (fun _ q => notFace_of_selects (args := #[]) (mvT q (W62 hw))) (W62 hw) (W61 hw) (W63 hw) (W43 hw) (by decide) (rm_sbAppend l Z a0 EL G a2 t6 kb6 ([] ++ [x, y]) 16 a1 b1 kA1 [(32 : Int32), (100 : Int32), (101 : Int32), (115 : Int32), (99 : Int32)] h8 C8.old Z8 f9 (Nat.le_of_ble_eq_true rfl) zg2 zg6) (fun _ => rfl) rfl Z8.1 (allS ⟨(Nat.lt_of_lt_of_le Z6.2.2.2.1.lt K8.1), f11⟩ all0) (by decide) (by decide) (by decide) (by decide) (lenOf pd_17 rfl) rfl (Nat.le_of_ble_eq_true rfl) rfl d25_80 (pc' := 83) rfl ?_
  intro vm10 T10 h10 v10 C10 A10 M10 q10
  obtain ⟨rfl, K10, Z10⟩ := q10
  show Endw p e below T10 (mkF m 83 #[.val (.ref d), .val (.ref a), .val (.int (1 : Int32)), .val (.int (0 : Int32)), .val (.ref a1), .unset] [(.ref a2)]) _
  refine C10.virtual (y := (⟨"java/lang/StringBuilder", "toString", "()Ljava/lang/String;"⟩ : MethodName)) (z := (⟨"java/lang/StringBuilder", "toString", "()Ljava/lang/String;"⟩ : MethodName)) (W := 0) (a := a2) (argsL := []) (rest := []) (W106 hw) (W107 hw) (fun _ q => notFace_of_selects (args := #[]) (mvT q (W109 hw))) (W109 hw) (W108 hw) (W110 hw) (W43 hw) (by decide) (rm_toString l Z a0 EL G a2 t6 kb6 (([] ++ [x, y]) ++ [(32 : Int32), (100 : Int32), (101 : Int32), (115 : Int32), (99 : Int32)]) 16 h10 C10.old Z10 (Nat.le_of_ble_eq_true rfl) (Nat.le_of_ble_eq_true rfl)) (fun _ => rfl) rfl Z10.1 all0 (by decide) (by decide) (by decide) (by decide) (lenOf pd_2 rfl) rfl (Nat.le_of_ble_eq_true rfl) rfl d25_83 (pc' := 86) rfl ?_
  intro vm12 T12 h12 v12 C12 A12 M12 q12
  obtain ⟨a12, d12, kd12, rfl, K12, ge12, gd12, zg12, zd12, Z12⟩ := q12
  show Endw p e below T12 (mkF m 86 #[.val (.ref d), .val (.ref a), .val (.int (1 : Int32)), .val (.int (0 : Int32)), .val (.ref a1), .unset] [(.ref a12)]) _
  refine Endw.st (T' := T12) (g' := (mkF m 90 #[.val (.ref d), .val (.ref a), .val (.int (1 : Int32)), .val (.int (0 : Int32)), .val (.ref a1), .val (.ref a12)] [(.ref a12)])) (fun tt_ kk_ => XS.astore C12.here C12.hx rfl (C12.dec d25_86) rfl rfl (l' := #[.val (.ref d), .val (.ref a), .val (.int (1 : Int32)), .val (.int (0 : Int32)), .val (.ref a1), .val (.ref a12)]) rfl (XS.aload C12.here C12.hx rfl (C12.dec d25_88) rfl rfl kk_)) ?_
  exact C12.retA (t := (.object "java/lang/String")) rfl rfl rfl rfl d25_90 (by decide) (by decide) ⟨a12, d12, kd12, rfl, (Keep.trans (Keep.trans (Keep.trans (Keep.trans (Keep.trans (Keep.trans (Keep.refl h []) K1 all0) K2 all0) K6 (allS (Or.inr (Nat.le_trans K1.1 ge2)) all0)) K8 (allS (Or.inr (Nat.le_trans K1.1 ge2)) (allS (Or.inr (Nat.le_trans (Nat.le_trans K1.1 K2.1) ge6)) all0))) K10 (allS (Or.inr (Nat.le_trans K1.1 ge2)) (allS (Or.inr (Nat.le_trans (Nat.le_trans K1.1 K2.1) ge6)) all0))) K12 all0), (Nat.le_trans (Nat.le_trans K1.1 (Nat.le_trans K2.1 (Nat.le_trans K6.1 (Nat.le_trans K8.1 K10.1)))) ge12), (Nat.le_trans (Nat.le_trans K1.1 (Nat.le_trans K2.1 (Nat.le_trans K6.1 (Nat.le_trans K8.1 K10.1)))) gd12), zg12, zd12, Z12⟩
set_option maxRecDepth 65536 in
set_option maxHeartbeats 40000000 in
theorem rm_oi110 (l : Launch) (Z : State) (a0 : Array Value) (EL : List (String × Nat)) (G : Glob Z a0 EL) (d a t : Addr) (kb : ClassId) (x y : Int32) (h : Heap) (O : Ext Z.heap h) (F0 : Fld Z h d "com/example/frugal_orm/frugalorm/Dialect" "nullsFirst" "Z" (.int (0 : Int32))) (S : Str Z h a t kb [x, y]) :
    Met l Z EL false (⟨"com/example/frugal_orm/frugalorm/Dialect", "orderItems", "(Ljava/lang/String;ZZ)Ljava/lang/String;"⟩ : MethodName) prog_7_method_6_code 6 (some (.object "java/lang/String")) [] ({ frames := 6, cells := 6, slots := 88, locals := 91 } : Room) #[(.ref d), (.ref a), (.int (1 : Int32)), (.int (1 : Int32))] h [] (fun r h' => ∃ (a t : Addr) (kb : ClassId), r = some (.ref a) ∧ Keep h h' [] ∧ h.size ≤ a ∧ h.size ≤ t ∧ Z.heap.size ≤ a ∧ Z.heap.size ≤ t ∧ Str Z h' a t kb (([] ++ [x, y]) ++ [(32 : Int32), (100 : Int32), (101 : Int32), (115 : Int32), (99 : Int32)])) := by
  have hw := G.hw
  obtain ⟨zc, Sc, hzc⟩ := G.cs
  obtain ⟨vf, Sf, hvf⟩ := G.fm
  refine Met.of (plainFor_of_name pn_69616c656374_0) G.ew O ?_
  intro p e s m below meth c T0 C0 S0
  refine Endw.eq (g' := mkF m 0 #[.val (.ref d), .val (.ref a), .val (.int (1 : Int32)), .val (.int (1 : Int32)), .unset, .unset] []) (by first | rfl | (simp [entryFrame, mkF, argsToLocals, own_cI, own_cR, own_cN, own_cJ, own_cD, maxLocals]; done)) ?_
  refine Endw.st (T' := T0) (g' := (mkF m 4 #[.val (.ref d), .val (.ref a), .val (.int (1 : Int32)), .val (.int (1 : Int32)), .unset, .unset] [])) (fun tt_ kk_ => XS.iloadN C0.here C0.hx rfl (C0.dec d25_0) rfl (XS.ifNo C0.here C0.hx rfl (C0.dec d25_1) rfl (XT.i0_eq_f (by decide)) kk_)) ?_
  refine C0.ldcC (N := 20) (vs := (bys [(32 : Int32), (100 : Int32), (101 : Int32), (115 : Int32), (99 : Int32)])) (z := (5 : Int32)) (W38 hw) G.wS (by rw [G.el]; decide) ⟨by decide, by decide⟩ (by decide) (by decide) (by decide) (by decide) (by decide) (by decide) d25_4 (pc' := 6) rfl rfl ?_
  intro vm1 T1 h1 a1 b1 kA1 C1 K1 A1 E1 F1 f1 V1 r1
  have Z1 : Str Z h1 a1 b1 kA1 [(32 : Int32), (100 : Int32), (101 : Int32), (115 : Int32), (99 : Int32)] := ⟨E1, F1, f1, V1, (own_cS ⟨by decide, by decide⟩ (own_cS ⟨by decide, by decide⟩ (own_cS ⟨by decide, by decide⟩ (own_cS ⟨by decide, by decide⟩ (own_cS ⟨by decide, by decide⟩ own_c0))))), by decide⟩
  show Endw p e below T1 (mkF m 6 #[.val (.ref d), .val (.ref a), .val (.int (1 : Int32)), .val (.int (1 : Int32)), .unset, .unset] [(.ref a1)]) _
  refine Endw.st (T' := T1) (g' := (mkF m 18 #[.val (.ref d), .val (.ref a), .val (.int (1 : Int32)), .val (.int (1 : Int32)), .val (.ref a1), .unset] [(.ref d)])) (fun tt_ kk_ => XS.goto C1.here C1.hx rfl (pc0 := 6) rfl (C1.dec d25_6) (by decide) rfl (XS.astore C1.here C1.hx rfl (C1.dec d25_11) rfl rfl (l' := #[.val (.ref d), .val (.ref a), .val (.int (1 : Int32)), .val (.int (1 : Int32)), .val (.ref a1), .unset]) rfl (XS.iloadN C1.here C1.hx rfl (C1.dec d25_13) rfl (XS.ifNo C1.here C1.hx rfl (C1.dec d25_14) rfl (XT.i0_eq_f (by decide)) (XS.aloadN C1.here C1.hx rfl (C1.dec d25_17) rfl rfl kk_))))) ?_
  have f2 := (F0.keep K1 nin0)
  refine C1.getF (W163 hw) f2 d25_18 (pc' := 21) rfl ?_
  intro T3 C3
  show Endw p e below T3 (mkF m 21 #[.val (.ref d), .val (.ref a), .val (.int (1 : Int32)), .val (.int (1 : Int32)), .val (.ref a1), .unset] [(.int (0 : Int32))]) _
  refine Endw.st (T' := T3) (g' := (mkF m 67 #[.val (.ref d), .val (.ref a), .val (.int (1 : Int32)), .val (.int (1 : Int32)), .val (.ref a1), .unset] [])) (fun tt_ kk_ => XS.ifYes C3.here C3.hx rfl (pc0 := 21) rfl (C3.dec d25_21) rfl (XT.i0_eq_t (by decide)) (by decide) rfl kk_) ?_
  refine C3.new (W41 hw) (W42 hw) (W43 hw) d25_67 (pc' := 70) rfl (by decide) (by decide) ?_
  intro T4 h4 a4 C4 K4 A4 ge4 zg4 E4 D4 S4
  show Endw p e below T4 (mkF m 70 #[.val (.ref d), .val (.ref a), .val (.int (1 : Int32)), .val (.int (1 : Int32)), .val (.ref a1), .unset] [(.ref a4)]) _
  refine Endw.st (T' := T4) (g' := (mkF m 71 #[.val (.ref d), .val (.ref a), .val (.int (1 : Int32)), .val (.int (1 : Int32)), .val (.ref a1), .unset] [(.ref a4), (.ref a4)])) (fun tt_ kk_ => XS.dup C4.here C4.hx rfl (C4.dec d25_70) rfl rfl kk_) ?_
  have f5 : Fld Z h4 a4 "java/lang/AbstractStringBuilder" "value" "[B" .null := D4 (Or.inl (W56 hw)) (ty := (.array .byte)) (by decide)
  have f6 : Fld Z h4 a4 "java/lang/AbstractStringBuilder" "coder" "B" (.int (0 : Int32)) := D4 (Or.inl (W58 hw)) (ty := .byte) (by decide)
  have f7 : Fld Z h4 a4 "java/lang/AbstractStringBuilder" "count" "I" (.int (0 : Int32)) := D4 (Or.inl (W80 hw)) (ty := .int) (by decide)
  refine C4.special (y := (⟨"java/lang/StringBuilder", "<init>", "()V"⟩ : MethodName)) (W := 1) (a := a4) (argsL := []) (rest := [(.ref a4)]) rfl (W44 hw) (W45 hw) (W46 hw) (W43 hw) (by decide) (rm_sbInit l Z a0 EL G a4 h4 C4.old E4 f5 f6 f7 zg4) (fun _ => rfl) rfl all0 (by decide) (by decide) (by decide) (by decide) (lenOf pd_282956 rfl) rfl (Nat.le_of_ble_eq_true rfl) rfl d25_71 (pc' := 74) rfl ?_
  intro vm8 T8 h8 v8 C8 A8 M8 q8
  obtain ⟨rfl, t8, kb8, K8, ge8, zg8, Z8⟩ := q8
  show Endw p e below T8 (mkF m 74 #[.val (.ref d), .val (.ref a), .val (.int (1 : Int32)), .val (.int (1 : Int32)), .val (.ref a1), .unset] [(.ref a4)]) _
  refine Endw.st (T' := T8) (g' := (mkF m 75 #[.val (.ref d), .val (.ref a), .val (.int (1 : Int32)), .val (.int (1 : Int32)), .val (.ref a1), .unset] [(.ref a), (.ref a4)])) (fun tt_ kk_ => XS.aloadN C8.here C8.hx rfl (C8.dec d25_74) rfl rfl kk_) ?_
  have f9 := (((S.keep K1 nin0 nin0).keep K4 nin0 nin0).keep K8 (ninS (Nat.ne_of_lt (Nat.lt_of_lt_of_le (Nat.lt_of_lt_of_le S.1.lt K1.1) ge4)) nin0) (ninS (Nat.ne_of_lt (Nat.lt_of_lt_of_le (Nat.lt_of_lt_of_le S.2.2.2.1.lt K1.1) ge4)) nin0))
  refine C8.virtual (y := (⟨"java/lang/StringBuilder", "append", "(Ljava/lang/String;)Ljava/lang/StringBuilder;"⟩ : MethodName)) (z := (⟨"java/lang/StringBuilder", "append", "(Ljava/lang/String;)Ljava/lang/StringBuilder;"⟩ : MethodName)) (W := 0) (a := a4) (argsL := [(.ref a)]) (rest := []) (W59 hw) (W60 hw) (fun _ q => notFace_of_selects (args := #[]) (mvT q (W62 hw))) (W62 hw) (W61 hw) (W63 hw) (W43 hw) (by decide) (rm_sbAppend l Z a0 EL G a4 t8 kb8 [] 16 a t kb [x, y] h8 C8.old Z8 f9 (Nat.le_of_ble_eq_true rfl) zg4 zg8) (fun _ => rfl) rfl Z8.1 (allS ⟨Z8.2.2.2.1.lt, (own_safe_new (M8 rfl) ge8)⟩ all0) (by decide) (by decide) (by decide) (by decide) (lenOf pd_17 rfl) rfl (Nat.le_of_ble_eq_true rfl) rfl d25_75 (pc' := 78) rfl ?_
  intro vm10 T10 h10 v10 C10 A10 M10 q10
  obtain ⟨rfl, K10, Z10⟩ := q10
  show Endw p e below T10 (mkF m 78 #[.val (.ref d), .val (.ref a), .val (.int (1 : Int32)), .val (.int (1 : Int32)), .val (.ref a1), .unset] [(.ref a4)]) _
  refine Endw.st (T' := T10) (g' := (mkF m 80 #[.val (.ref d), .val (.ref a), .val (.int (1 : Int32)), .val (.int (1 : Int32)), .val (.ref a1), .unset] [(.ref a1), (.ref a4)])) (fun tt_ kk_ => XS.aload C10.here C10.hx rfl (C10.dec d25_78) rfl rfl kk_) ?_
  have f11 := (((Z1.keep K4 nin0 nin0).keep K8 (ninS (Nat.ne_of_lt (Nat.lt_of_lt_of_le E1.lt ge4)) nin0) (ninS (Nat.ne_of_lt (Nat.lt_of_lt_of_le V1.lt ge4)) nin0)).keep K10 (ninS (Nat.ne_of_lt (Nat.lt_of_lt_of_le E1.lt ge4)) (ninS (Nat.ne_of_lt (Nat.lt_of_lt_of_le (Nat.lt_of_lt_of_le E1.lt K4.1) ge8)) nin0)) (ninS (Nat.ne_of_lt (Nat.lt_of_lt_of_le V1.lt ge4)) (ninS (Nat.ne_of_lt (Nat.lt_of_lt_of_le (Nat.lt_of_lt_of_le V1.lt K4.1) ge8)) nin0)))
  have f13 := (A10.safe Z8.2.2.2.1.lt (own_safe_new (M8 rfl) ge8))
  refine C10.virtual (y := (⟨"java/lang/StringBuilder", "append", "(Ljava/lang/String;)Ljava/lang/StringBuilder;"⟩ : MethodName)) (z := (⟨"java/lang/StringBuilder", "append", "(Ljava/lang/String;)Ljava/lang/StringBuilder;"⟩ : MethodName)) (W := 0) (a := a4) (argsL := [(.ref a1)]) (rest := []) (W59 hw) (W60 hw) (fun _ q => notFace_of_selects (args := #[]) (mvT q (W62 hw))) (W62 hw) (W61 hw) (W63 hw) (W43 hw) (by decide) (rm_sbAppend l Z a0 EL G a4 t8 kb8 ([] ++ [x, y]) 16 a1 b1 kA1 [(32 : Int32), (100 : Int32), (101 : Int32), (115 : Int32), (99 : Int32)] h10 C10.old Z10 f11 (Nat.le_of_ble_eq_true rfl) zg4 zg8) (fun _ => rfl) rfl Z10.1 (allS ⟨(Nat.lt_of_lt_of_le Z8.2.2.2.1.lt K10.1), f13⟩ all0) (by decide) (by decide) (by decide) (by decide) (lenOf pd_17 rfl) rfl (Nat.le_of_ble_eq_true rfl) rfl d25_80 (pc' := 83) rfl ?_
  intro vm12 T12 h12 v12 C12 A12 M12 q12
  obtain ⟨rfl, K12, Z12⟩ := q12
  show Endw p e below T12 (mkF m 83 #[.val (.ref d), .val (.ref a), .val (.int (1 : Int32)), .val (.int (1 : Int32)), .val (.ref a1), .unset] [(.ref a4)]) _
  refine C12.virtual (y := (⟨"java/lang/StringBuilder", "toString", "()Ljava/lang/String;"⟩ : MethodName)) (z := (⟨"java/lang/StringBuilder", "toString", "()Ljava/lang/String;"⟩ : MethodName)) (W := 0) (a := a4) (argsL := []) (rest := []) (W106 hw) (W107 hw) (fun _ q => notFace_of_selects (args := #[]) (mvT q (W109 hw))) (W109 hw) (W108 hw) (W110 hw) (W43 hw) (by decide) (rm_toString l Z a0 EL G a4 t8 kb8 (([] ++ [x, y]) ++ [(32 : Int32), (100 : Int32), (101 : Int32), (115 : Int32), (99 : Int32)]) 16 h12 C12.old Z12 (Nat.le_of_ble_eq_true rfl) (Nat.le_of_ble_eq_true rfl)) (fun _ => rfl) rfl Z12.1 all0 (by decide) (by decide) (by decide) (by decide) (lenOf pd_2 rfl) rfl (Nat.le_of_ble_eq_true rfl) rfl d25_83 (pc' := 86) rfl ?_
  intro vm14 T14 h14 v14 C14 A14 M14 q14
  obtain ⟨a14, d14, kd14, rfl, K14, ge14, gd14, zg14, zd14, Z14⟩ := q14
  show Endw p e below T14 (mkF m 86 #[.val (.ref d), .val (.ref a), .val (.int (1 : Int32)), .val (.int (1 : Int32)), .val (.ref a1), .unset] [(.ref a14)]) _
  refine Endw.st (T' := T14) (g' := (mkF m 90 #[.val (.ref d), .val (.ref a), .val (.int (1 : Int32)), .val (.int (1 : Int32)), .val (.ref a1), .val (.ref a14)] [(.ref a14)])) (fun tt_ kk_ => XS.astore C14.here C14.hx rfl (C14.dec d25_86) rfl rfl (l' := #[.val (.ref d), .val (.ref a), .val (.int (1 : Int32)), .val (.int (1 : Int32)), .val (.ref a1), .val (.ref a14)]) rfl (XS.aload C14.here C14.hx rfl (C14.dec d25_88) rfl rfl kk_)) ?_
  exact C14.retA (t := (.object "java/lang/String")) rfl rfl rfl rfl d25_90 (by decide) (by decide) ⟨a14, d14, kd14, rfl, (Keep.trans (Keep.trans (Keep.trans (Keep.trans (Keep.trans (Keep.trans (Keep.refl h []) K1 all0) K4 all0) K8 (allS (Or.inr (Nat.le_trans K1.1 ge4)) all0)) K10 (allS (Or.inr (Nat.le_trans K1.1 ge4)) (allS (Or.inr (Nat.le_trans (Nat.le_trans K1.1 K4.1) ge8)) all0))) K12 (allS (Or.inr (Nat.le_trans K1.1 ge4)) (allS (Or.inr (Nat.le_trans (Nat.le_trans K1.1 K4.1) ge8)) all0))) K14 all0), (Nat.le_trans (Nat.le_trans K1.1 (Nat.le_trans K4.1 (Nat.le_trans K8.1 (Nat.le_trans K10.1 K12.1)))) ge14), (Nat.le_trans (Nat.le_trans K1.1 (Nat.le_trans K4.1 (Nat.le_trans K8.1 (Nat.le_trans K10.1 K12.1)))) gd14), zg14, zd14, Z14⟩
set_option maxRecDepth 65536 in
set_option maxHeartbeats 40000000 in
theorem rm_oi111 (l : Launch) (Z : State) (a0 : Array Value) (EL : List (String × Nat)) (G : Glob Z a0 EL) (d a t : Addr) (kb : ClassId) (x y : Int32) (h : Heap) (O : Ext Z.heap h) (F0 : Fld Z h d "com/example/frugal_orm/frugalorm/Dialect" "nullsFirst" "Z" (.int (1 : Int32))) (S : Str Z h a t kb [x, y]) :
    Met l Z EL false (⟨"com/example/frugal_orm/frugalorm/Dialect", "orderItems", "(Ljava/lang/String;ZZ)Ljava/lang/String;"⟩ : MethodName) prog_7_method_6_code 6 (some (.object "java/lang/String")) [] ({ frames := 6, cells := 11, slots := 176, locals := 91 } : Room) #[(.ref d), (.ref a), (.int (1 : Int32)), (.int (1 : Int32))] h [] (fun r h' => ∃ (a t : Addr) (kb : ClassId), r = some (.ref a) ∧ Keep h h' [] ∧ h.size ≤ a ∧ h.size ≤ t ∧ Z.heap.size ≤ a ∧ Z.heap.size ≤ t ∧ Str Z h' a t kb (((((([] ++ [x, y]) ++ [(32 : Int32), (105 : Int32), (115 : Int32), (32 : Int32), (110 : Int32), (117 : Int32), (108 : Int32), (108 : Int32)]) ++ [(32 : Int32), (100 : Int32), (101 : Int32), (115 : Int32), (99 : Int32)]) ++ [(44 : Int32), (32 : Int32)]) ++ [x, y]) ++ [(32 : Int32), (100 : Int32), (101 : Int32), (115 : Int32), (99 : Int32)])) := by
  have hw := G.hw
  obtain ⟨zc, Sc, hzc⟩ := G.cs
  obtain ⟨vf, Sf, hvf⟩ := G.fm
  refine Met.of (plainFor_of_name pn_69616c656374_0) G.ew O ?_
  intro p e s m below meth c T0 C0 S0
  refine Endw.eq (g' := mkF m 0 #[.val (.ref d), .val (.ref a), .val (.int (1 : Int32)), .val (.int (1 : Int32)), .unset, .unset] []) (by first | rfl | (simp [entryFrame, mkF, argsToLocals, own_cI, own_cR, own_cN, own_cJ, own_cD, maxLocals]; done)) ?_
  refine Endw.st (T' := T0) (g' := (mkF m 4 #[.val (.ref d), .val (.ref a), .val (.int (1 : Int32)), .val (.int (1 : Int32)), .unset, .unset] [])) (fun tt_ kk_ => XS.iloadN C0.here C0.hx rfl (C0.dec d25_0) rfl (XS.ifNo C0.here C0.hx rfl (C0.dec d25_1) rfl (XT.i0_eq_f (by decide)) kk_)) ?_
  refine C0.ldcC (N := 20) (vs := (bys [(32 : Int32), (100 : Int32), (101 : Int32), (115 : Int32), (99 : Int32)])) (z := (5 : Int32)) (W38 hw) G.wS (by rw [G.el]; decide) ⟨by decide, by decide⟩ (by decide) (by decide) (by decide) (by decide) (by decide) (by decide) d25_4 (pc' := 6) rfl rfl ?_
  intro vm1 T1 h1 a1 b1 kA1 C1 K1 A1 E1 F1 f1 V1 r1
  have Z1 : Str Z h1 a1 b1 kA1 [(32 : Int32), (100 : Int32), (101 : Int32), (115 : Int32), (99 : Int32)] := ⟨E1, F1, f1, V1, (own_cS ⟨by decide, by decide⟩ (own_cS ⟨by decide, by decide⟩ (own_cS ⟨by decide, by decide⟩ (own_cS ⟨by decide, by decide⟩ (own_cS ⟨by decide, by decide⟩ own_c0))))), by decide⟩
  show Endw p e below T1 (mkF m 6 #[.val (.ref d), .val (.ref a), .val (.int (1 : Int32)), .val (.int (1 : Int32)), .unset, .unset] [(.ref a1)]) _
  refine Endw.st (T' := T1) (g' := (mkF m 18 #[.val (.ref d), .val (.ref a), .val (.int (1 : Int32)), .val (.int (1 : Int32)), .val (.ref a1), .unset] [(.ref d)])) (fun tt_ kk_ => XS.goto C1.here C1.hx rfl (pc0 := 6) rfl (C1.dec d25_6) (by decide) rfl (XS.astore C1.here C1.hx rfl (C1.dec d25_11) rfl rfl (l' := #[.val (.ref d), .val (.ref a), .val (.int (1 : Int32)), .val (.int (1 : Int32)), .val (.ref a1), .unset]) rfl (XS.iloadN C1.here C1.hx rfl (C1.dec d25_13) rfl (XS.ifNo C1.here C1.hx rfl (C1.dec d25_14) rfl (XT.i0_eq_f (by decide)) (XS.aloadN C1.here C1.hx rfl (C1.dec d25_17) rfl rfl kk_))))) ?_
  have f2 := (F0.keep K1 nin0)
  refine C1.getF (W163 hw) f2 d25_18 (pc' := 21) rfl ?_
  intro T3 C3
  show Endw p e below T3 (mkF m 21 #[.val (.ref d), .val (.ref a), .val (.int (1 : Int32)), .val (.int (1 : Int32)), .val (.ref a1), .unset] [(.int (1 : Int32))]) _
  refine Endw.st (T' := T3) (g' := (mkF m 24 #[.val (.ref d), .val (.ref a), .val (.int (1 : Int32)), .val (.int (1 : Int32)), .val (.ref a1), .unset] [])) (fun tt_ kk_ => XS.ifNo C3.here C3.hx rfl (C3.dec d25_21) rfl (XT.i0_eq_f (by decide)) kk_) ?_
  refine C3.new (W41 hw) (W42 hw) (W43 hw) d25_24 (pc' := 27) rfl (by decide) (by decide) ?_
  intro T4 h4 a4 C4 K4 A4 ge4 zg4 E4 D4 S4
  show Endw p e below T4 (mkF m 27 #[.val (.ref d), .val (.ref a), .val (.int (1 : Int32)), .val (.int (1 : Int32)), .val (.ref a1), .unset] [(.ref a4)]) _
  refine Endw.st (T' := T4) (g' := (mkF m 28 #[.val (.ref d), .val (.ref a), .val (.int (1 : Int32)), .val (.int (1 : Int32)), .val (.ref a1), .unset] [(.ref a4), (.ref a4)])) (fun tt_ kk_ => XS.dup C4.here C4.hx rfl (C4.dec d25_27) rfl rfl kk_) ?_
  have f5 : Fld Z h4 a4 "java/lang/AbstractStringBuilder" "value" "[B" .null := D4 (Or.inl (W56 hw)) (ty := (.array .byte)) (by decide)
  have f6 : Fld Z h4 a4 "java/lang/AbstractStringBuilder" "coder" "B" (.int (0 : Int32)) := D4 (Or.inl (W58 hw)) (ty := .byte) (by decide)
  have f7 : Fld Z h4 a4 "java/lang/AbstractStringBuilder" "count" "I" (.int (0 : Int32)) := D4 (Or.inl (W80 hw)) (ty := .int) (by decide)
  refine C4.special (y := (⟨"java/lang/StringBuilder", "<init>", "()V"⟩ : MethodName)) (W := 1) (a := a4) (argsL := []) (rest := [(.ref a4)]) rfl (W44 hw) (W45 hw) (W46 hw) (W43 hw) (by decide) (rm_sbInit l Z a0 EL G a4 h4 C4.old E4 f5 f6 f7 zg4) (fun _ => rfl) rfl all0 (by decide) (by decide) (by decide) (by decide) (lenOf pd_282956 rfl) rfl (Nat.le_of_ble_eq_true rfl) rfl d25_28 (pc' := 31) rfl ?_
  intro vm8 T8 h8 v8 C8 A8 M8 q8
  obtain ⟨rfl, t8, kb8, K8, ge8, zg8, Z8⟩ := q8
  show Endw p e below T8 (mkF m 31 #[.val (.ref d), .val (.ref a), .val (.int (1 : Int32)), .val (.int (1 : Int32)), .val (.ref a1), .unset] [(.ref a4)]) _
  refine Endw.st (T' := T8) (g' := (mkF m 32 #[.val (.ref d), .val (.ref a), .val (.int (1 : Int32)), .val (.int (1 : Int32)), .val (.ref a1), .unset] [(.ref a), (.ref a4)])) (fun tt_ kk_ => XS.aloadN C8.here C8.hx rfl (C8.dec d25_31) rfl rfl kk_) ?_
  have f9 := (((S.keep K1 nin0 nin0).keep K4 nin0 nin0).keep K8 (ninS (Nat.ne_of_lt (Nat.lt_of_lt_of_le (Nat.lt_of_lt_of_le S.1.lt K1.1) ge4)) nin0) (ninS (Nat.ne_of_lt (Nat.lt_of_lt_of_le (Nat.lt_of_lt_of_le S.2.2.2.1.lt K1.1) ge4)) nin0))
  refine C8.virtual (y := (⟨"java/lang/StringBuilder", "append", "(Ljava/lang/String;)Ljava/lang/StringBuilder;"⟩ : MethodName)) (z := (⟨"java/lang/StringBuilder", "append", "(Ljava/lang/String;)Ljava/lang/StringBuilder;"⟩ : MethodName)) (W := 0) (a := a4) (argsL := [(.ref a)]) (rest := []) (W59 hw) (W60 hw) (fun _ q => notFace_of_selects (args := #[]) (mvT q (W62 hw))) (W62 hw) (W61 hw) (W63 hw) (W43 hw) (by decide) (rm_sbAppend l Z a0 EL G a4 t8 kb8 [] 16 a t kb [x, y] h8 C8.old Z8 f9 (Nat.le_of_ble_eq_true rfl) zg4 zg8) (fun _ => rfl) rfl Z8.1 (allS ⟨Z8.2.2.2.1.lt, (own_safe_new (M8 rfl) ge8)⟩ all0) (by decide) (by decide) (by decide) (by decide) (lenOf pd_17 rfl) rfl (Nat.le_of_ble_eq_true rfl) rfl d25_32 (pc' := 35) rfl ?_
  intro vm10 T10 h10 v10 C10 A10 M10 q10
  obtain ⟨rfl, K10, Z10⟩ := q10
  show Endw p e below T10 (mkF m 35 #[.val (.ref d), .val (.ref a), .val (.int (1 : Int32)), .val (.int (1 : Int32)), .val (.ref a1), .unset] [(.ref a4)]) _
  refine C10.ldcC (N := 32) (vs := (bys [(32 : Int32), (105 : Int32), (115 : Int32), (32 : Int32), (110 : Int32), (117 : Int32), (108 : Int32), (108 : Int32)])) (z := (8 : Int32)) (W165 hw) G.wS (by rw [G.el]; decide) ⟨by decide, by decide⟩ (by decide) (by decide) (by decide) (by decide) (by decide) (by decide) d25_35 (pc' := 37) rfl rfl ?_
  intro vm11 T11 h11 a11 b11 kA11 C11 K11 A11 E11 F11 f11 V11 r11
  have f12 := (A11.safe (Nat.lt_of_lt_of_le E4.lt (Nat.le_trans K8.1 K10.1)) (A10.safe (Nat.lt_of_lt_of_le E4.lt K8.1) (A8.safe E4.lt S4)))
  have f13 := (A11.safe (Nat.lt_of_lt_of_le Z8.2.2.2.1.lt K10.1) (A10.safe Z8.2.2.2.1.lt (own_safe_new (M8 rfl) ge8)))
  have Z11 : Str Z h11 a11 b11 kA11 [(32 : Int32), (105 : Int32), (115 : Int32), (32 : Int32), (110 : Int32), (117 : Int32), (108 : Int32), (108 : Int32)] := ⟨E11, F11, f11, V11, (own_cS ⟨by decide, by decide⟩ (own_cS ⟨by decide, by decide⟩ (own_cS ⟨by decide, by decide⟩ (own_cS ⟨by decide, by decide⟩ (own_cS ⟨by decide, by decide⟩ (own_cS ⟨by decide, by decide⟩ (own_cS ⟨by decide, by decide⟩ (own_cS ⟨by decide, by decide⟩ own_c0)))))))), by decide⟩
  show Endw p e below T11 (mkF m 37 #[.val (.ref d), .val (.ref a), .val (.int (1 : Int32)), .val (.int (1 : Int32)), .val (.ref a1), .unset] [(.ref a11), (.ref a4)]) _
  have f14 := (Z10.keep K11 nin0 nin0)
  have f16 := (Z10.1.keep K11)
  refine C11.virtual (y := (⟨"java/lang/StringBuilder", "append", "(Ljava/lang/String;)Ljava/lang/StringBuilder;"⟩ : MethodName)) (z := (⟨"java/lang/StringBuilder", "append", "(Ljava/lang/String;)Ljava/lang/StringBuilder;"⟩ : MethodName)) (W := 0) (a := a4) (argsL := [(.ref a11)]) (rest := []) (W59 hw) (W60 hw) (fun _ q => notFace_of_selects (args := #[]) (mvT q (W62 hw))) (W62 hw) (W61 hw) (W63 hw) (W43 hw) (by decide) (rm_sbAppend l Z a0 EL G a4 t8 kb8 ([] ++ [x, y]) 16 a11 b11 kA11 [(32 : Int32), (105 : Int32), (115 : Int32), (32 : Int32), (110 : Int32), (117 : Int32), (108 : Int32), (108 : Int32)] h11 C11.old f14 Z11 (Nat.le_of_ble_eq_true rfl) zg4 zg8) (fun _ => rfl) rfl f16 (allS ⟨(Nat.lt_of_lt_of_le Z8.2.2.2.1.lt (Nat.le_trans K10.1 K11.1)), f13⟩ all0) (by decide) (by decide) (by decide) (by decide) (lenOf pd_17 rfl) rfl (Nat.le_of_ble_eq_true rfl) rfl d25_37 (pc' := 40) rfl ?_
  intro vm15 T15 h15 v15 C15 A15 M15 q15
  obtain ⟨rfl, K15, Z15⟩ := q15
  show Endw p e below T15 (mkF m 40 #[.val (.ref d), .val (.ref a), .val (.int (1 : Int32)), .val (.int (1 : Int32)), .val (.ref a1), .unset] [(.ref a4)]) _
  refine Endw.st (T' := T15) (g' := (mkF m 42 #[.val (.ref d), .val (.ref a), .val (.int (1 : Int32)), .val (.int (1 : Int32)), .val (.ref a1), .unset] [(.ref a1), (.ref a4)])) (fun tt_ kk_ => XS.aload C15.here C15.hx rfl (C15.dec d25_40) rfl rfl kk_) ?_
  have f17 := (((((Z1.keep K4 nin0 nin0).keep K8 (ninS (Nat.ne_of_lt (Nat.lt_of_lt_of_le E1.lt ge4)) nin0) (ninS (Nat.ne_of_lt (Nat.lt_of_lt_of_le V1.lt ge4)) nin0)).keep K10 (ninS (Nat.ne_of_lt (Nat.lt_of_lt_of_le E1.lt ge4)) (ninS (Nat.ne_of_lt (Nat.lt_of_lt_of_le (Nat.lt_of_lt_of_le E1.lt K4.1) ge8)) nin0)) (ninS (Nat.ne_of_lt (Nat.lt_of_lt_of_le V1.lt ge4)) (ninS (Nat.ne_of_lt (Nat.lt_of_lt_of_le (Nat.lt_of_lt_of_le V1.lt K4.1) ge8)) nin0))).keep K11 nin0 nin0).keep K15 (ninS (Nat.ne_of_lt (Nat.lt_of_lt_of_le E1.lt ge4)) (ninS (Nat.ne_of_lt (Nat.lt_of_lt_of_le (Nat.lt_of_lt_of_le E1.lt K4.1) ge8)) nin0)) (ninS (Nat.ne_of_lt (Nat.lt_of_lt_of_le V1.lt ge4)) (ninS (Nat.ne_of_lt (Nat.lt_of_lt_of_le (Nat.lt_of_lt_of_le V1.lt K4.1) ge8)) nin0)))
  have f19 := (A15.safe (Nat.lt_of_lt_of_le Z8.2.2.2.1.lt (Nat.le_trans K10.1 K11.1)) f13)
  refine C15.virtual (y := (⟨"java/lang/StringBuilder", "append", "(Ljava/lang/String;)Ljava/lang/StringBuilder;"⟩ : MethodName)) (z := (⟨"java/lang/StringBuilder", "append", "(Ljava/lang/String;)Ljava/lang/StringBuilder;"⟩ : MethodName)) (W := 0) (a := a4) (argsL := [(.ref a1)]) (rest := []) (W59 hw) (W60 hw) (fun _ q => notFace_of_selects (args := #[]) (mvT q (W62 hw))) (W62 hw) (W61 hw) (W63 hw) (W43 hw) (by decide) (rm_sbAppend l Z a0 EL G a4 t8 kb8 (([] ++ [x, y]) ++ [(32 : Int32), (105 : Int32), (115 : Int32), (32 : Int32), (110 : Int32), (117 : Int32), (108 : Int32), (108 : Int32)]) 16 a1 b1 kA1 [(32 : Int32), (100 : Int32), (101 : Int32), (115 : Int32), (99 : Int32)] h15 C15.old Z15 f17 (Nat.le_of_ble_eq_true rfl) zg4 zg8) (fun _ => rfl) rfl Z15.1 (allS ⟨(Nat.lt_of_lt_of_le Z8.2.2.2.1.lt (Nat.le_trans K10.1 (Nat.le_trans K11.1 K15.1))), f19⟩ all0) (by decide) (by decide) (by decide) (by decide) (lenOf pd_17 rfl) rfl (Nat.le_of_ble_eq_true rfl) rfl d25_42 (pc' := 45) rfl ?_
  intro vm18 T18 h18 v18 C18 A18 M18 q18
  obtain ⟨rfl, K18, Z18⟩ := q18
  show Endw p e below T18 (mkF m 45 #[.val (.ref d), .val (.ref a), .val (.int (1 : Int32)), .val (.int (1 : Int32)), .val (.ref a1), .unset] [(.ref a4)]) _
  refine C18.ldcC (N := 8) (vs := (bys [(44 : Int32), (32 : Int32)])) (z := (2 : Int32)) (W166 hw) G.wS (by rw [G.el]; decide) ⟨by decide, by decide⟩ (by decide) (by decide) (by decide) (by decide) (by decide) (by decide) d25_45 (pc' := 47) rfl rfl ?_
  intro vm20 T20 h20 a20 b20 kA20 C20 K20 A20 E20 F20 f20 V20 r20
  have f21 := (A20.safe (Nat.lt_of_lt_of_le E4.lt (Nat.le_trans K8.1 (Nat.le_trans K10.1 (Nat.le_trans K11.1 (Nat.le_trans K15.1 K18.1))))) (A18.safe (Nat.lt_of_lt_of_le E4.lt (Nat.le_trans K8.1 (Nat.le_trans K10.1 (Nat.le_trans K11.1 K15.1)))) (A15.safe (Nat.lt_of_lt_of_le E4.lt (Nat.le_trans K8.1 (Nat.le_trans K10.1 K11.1))) f12)))
  have f22 := (A20.safe (Nat.lt_of_lt_of_le Z8.2.2.2.1.lt (Nat.le_trans K10.1 (Nat.le_trans K11.1 (Nat.le_trans K15.1 K18.1)))) (A18.safe (Nat.lt_of_lt_of_le Z8.2.2.2.1.lt (Nat.le_trans K10.1 (Nat.le_trans K11.1 K15.1))) f19))
  have Z20 : Str Z h20 a20 b20 kA20 [(44 : Int32), (32 : Int32)] := ⟨E20, F20, f20, V20, (own_cS ⟨by decide, by decide⟩ (own_cS ⟨by decide, by decide⟩ own_c0)), by decide⟩
  show Endw p e below T20 (mkF m 47 #[.val (.ref d), .val (.ref a), .val (.int (1 : Int32)), .val (.int (1 : Int32)), .val (.ref a1), .unset] [(.ref a20), (.ref a4)]) _
  have f23 := (Z18.keep K20 nin0 nin0)
  have f25 := (Z18.1.keep K20)
  refine C20.virtual (y := (⟨"java/lang/StringBuilder", "append", "(Ljava/lang/String;)Ljava/lang/StringBuilder;"⟩ : MethodName)) (z := (⟨"java/lang/StringBuilder", "append", "(Ljava/lang/String;)Ljava/lang/StringBuilder;"⟩ : MethodName)) (W := 0) (a := a4) (argsL := [(.ref a20)]) (rest := []) (W59 hw) (W60 hw) (fun _ q => notFace_of_selects (args := #[]) (mvT q (W62 hw))) (W62 hw) (W61 hw) (W63 hw) (W43 hw) (by decide) (rm_sbAppendG l Z a0 EL G a4 t8 kb8 ((([] ++ [x, y]) ++ [(32 : Int32), (105 : Int32), (115 : Int32), (32 : Int32), (110 : Int32), (117 : Int32), (108 : Int32), (108 : Int32)]) ++ [(32 : Int32), (100 : Int32), (101 : Int32), (115 : Int32), (99 : Int32)]) 16 a20 b20 kA20 [(44 : Int32), (32 : Int32)] 34 h20 C20.old f23 Z20 (Nat.le_of_ble_eq_true rfl) ⟨Nat.le_of_ble_eq_true rfl, rfl⟩ (by decide) zg4) (fun _ => rfl) rfl f25 all0 (by decide) (by decide) (by decide) (by decide) (lenOf pd_17 rfl) rfl (Nat.le_of_ble_eq_true rfl) rfl d25_47 (pc' := 50) rfl ?_
  intro vm24 T24 h24 v24 C24 A24 M24 q24
  obtain ⟨rfl, t24, kb24, K24, ge24, zg24, Z24⟩ := q24
  show Endw p e below T24 (mkF m 50 #[.val (.ref d), .val (.ref a), .val (.int (1 : Int32)), .val (.int (1 : Int32)), .val (.ref a1), .unset] [(.ref a4)]) _
  refine Endw.st (T' := T24) (g' := (mkF m 51 #[.val (.ref d), .val (.ref a), .val (.int (1 : Int32)), .val (.int (1 : Int32)), .val (.ref a1), .unset] [(.ref a), (.ref a4)])) (fun tt_ kk_ => XS.aloadN C24.here C24.hx rfl (C24.dec d25_50) rfl rfl kk_) ?_
  have f26 := ((((((f9.keep K10 (ninS (Nat.ne_of_lt (Nat.lt_of_lt_of_le (Nat.lt_of_lt_of_le S.1.lt K1.1) ge4)) (ninS (Nat.ne_of_lt (Nat.lt_of_lt_of_le (Nat.lt_of_lt_of_le S.1.lt (Nat.le_trans K1.1 K4.1)) ge8)) nin0)) (ninS (Nat.ne_of_lt (Nat.lt_of_lt_of_le (Nat.lt_of_lt_of_le S.2.2.2.1.lt K1.1) ge4)) (ninS (Nat.ne_of_lt (Nat.lt_of_lt_of_le (Nat.lt_of_lt_of_le S.2.2.2.1.lt (Nat.le_trans K1.1 K4.1)) ge8)) nin0))).keep K11 nin0 nin0).keep K15 (ninS (Nat.ne_of_lt (Nat.lt_of_lt_of_le (Nat.lt_of_lt_of_le S.1.lt K1.1) ge4)) (ninS (Nat.ne_of_lt (Nat.lt_of_lt_of_le (Nat.lt_of_lt_of_le S.1.lt (Nat.le_trans K1.1 K4.1)) ge8)) nin0)) (ninS (Nat.ne_of_lt (Nat.lt_of_lt_of_le (Nat.lt_of_lt_of_le S.2.2.2.1.lt K1.1) ge4)) (ninS (Nat.ne_of_lt (Nat.lt_of_lt_of_le (Nat.lt_of_lt_of_le S.2.2.2.1.lt (Nat.le_trans K1.1 K4.1)) ge8)) nin0))).keep K18 (ninS (Nat.ne_of_lt (Nat.lt_of_lt_of_le (Nat.lt_of_lt_of_le S.1.lt K1.1) ge4)) (ninS (Nat.ne_of_lt (Nat.lt_of_lt_of_le (Nat.lt_of_lt_of_le S.1.lt (Nat.le_trans K1.1 K4.1)) ge8)) nin0)) (ninS (Nat.ne_of_lt (Nat.lt_of_lt_of_le (Nat.lt_of_lt_of_le S.2.2.2.1.lt K1.1) ge4)) (ninS (Nat.ne_of_lt (Nat.lt_of_lt_of_le (Nat.lt_of_lt_of_le S.2.2.2.1.lt (Nat.le_trans K1.1 K4.1)) ge8)) nin0))).keep K20 nin0 nin0).keep K24 (ninS (Nat.ne_of_lt (Nat.lt_of_lt_of_le (Nat.lt_of_lt_of_le S.1.lt K1.1) ge4)) nin0) (ninS (Nat.ne_of_lt (Nat.lt_of_lt_of_le (Nat.lt_of_lt_of_le S.2.2.2.1.lt K1.1) ge4)) nin0))
  refine C24.virtual (y := (⟨"java/lang/StringBuilder", "append", "(Ljava/lang/String;)Ljava/lang/StringBuilder;"⟩ : MethodName)) (z := (⟨"java/lang/StringBuilder", "append", "(Ljava/lang/String;)Ljava/lang/StringBuilder;"⟩ : MethodName)) (W := 0) (a := a4) (argsL := [(.ref a)]) (rest := []) (W59 hw) (W60 hw) (fun _ q => notFace_of_selects (args := #[]) (mvT q (W62 hw))) (W62 hw) (W61 hw) (W63 hw) (W43 hw) (by decide) (rm_sbAppend l Z a0 EL G a4 t24 kb24 (((([] ++ [x, y]) ++ [(32 : Int32), (105 : Int32), (115 : Int32), (32 : Int32), (110 : Int32), (117 : Int32), (108 : Int32), (108 : Int32)]) ++ [(32 : Int32), (100 : Int32), (101 : Int32), (115 : Int32), (99 : Int32)]) ++ [(44 : Int32), (32 : Int32)]) 34 a t kb [x, y] h24 C24.old Z24 f26 (Nat.le_of_ble_eq_true rfl) zg4 zg24) (fun _ => rfl) rfl Z24.1 (allS ⟨Z24.2.2.2.1.lt, (own_safe_new (M24 rfl) ge24)⟩ all0) (by decide) (by decide) (by decide) (by decide) (lenOf pd_17 rfl) rfl (Nat.le_of_ble_eq_true rfl) rfl d25_51 (pc' := 54) rfl ?_
  intro vm27 T27 h27 v27 C27 A27 M27 q27
  obtain ⟨rfl, K27, Z27⟩ := q27
  show Endw p e below T27 (mkF m 54 #[.val (.ref d), .val (.ref a), .val (.int (1 : Int32)), .val (.int (1 : Int32)), .val (.ref a1), .unset] [(.ref a4)]) _
  refine Endw.st (T' := T27) (g' := (mkF m 56 #[.val (.ref d), .val (.ref a), .val (.int (1 : Int32)), .val (.int (1 : Int32)), .val (.ref a1), .unset] [(.ref a1), (.ref a4)])) (fun tt_ kk_ => XS.aload C27.here C27.hx rfl (C27.dec d25_54) rfl rfl kk_) ?_
  have f28 := ((((f17.keep K18 (ninS (Nat.ne_of_lt (Nat.lt_of_lt_of_le E1.lt ge4)) (ninS (Nat.ne_of_lt (Nat.lt_of_lt_of_le (Nat.lt_of_lt_of_le E1.lt K4.1) ge8)) nin0)) (ninS (Nat.ne_of_lt (Nat.lt_of_lt_of_le V1.lt ge4)) (ninS (Nat.ne_of_lt (Nat.lt_of_lt_of_le (Nat.lt_of_lt_of_le V1.lt K4.1) ge8)) nin0))).keep K20 nin0 nin0).keep K24 (ninS (Nat.ne_of_lt (Nat.lt_of_lt_of_le E1.lt ge4)) nin0) (ninS (Nat.ne_of_lt (Nat.lt_of_lt_of_le V1.lt ge4)) nin0)).keep K27 (ninS (Nat.ne_of_lt (Nat.lt_of_lt_of_le E1.lt ge4)) (ninS (Nat.ne_of_lt (Nat.lt_of_lt_of_le (Nat.lt_of_lt_of_le E1.lt (Nat.le_trans K4.1 (Nat.le_trans K8.1 (Nat.le_trans K10.1 (Nat.le_trans K11.1 (Nat.le_trans K15.1 (Nat.le_trans K18.1 K20.1))))))) ge24)) nin0)) (ninS (Nat.ne_of_lt (Nat.lt_of_lt_of_le V1.lt ge4)) (ninS (Nat.ne_of_lt (Nat.lt_of_lt_of_le (Nat.lt_of_lt_of_le V1.lt (Nat.le_trans K4.1 (Nat.le_trans K8.1 (Nat.le_trans K10.1 (Nat.le_trans K11.1 (Nat.le_trans K15.1 (Nat.le_trans K18.1 K20.1))))))) ge24)) nin0)))
  have f30 := (A27.safe Z24.2.2.2.1.lt (own_safe_new (M24 rfl) ge24))
  refine C27.virtual (y := (⟨"java/lang/StringBuilder", "append", "(Ljava/lang/String;)Ljava/lang/StringBuilder;"⟩ : MethodName)) (z := (⟨"java/lang/StringBuilder", "append", "(Ljava/lang/String;)Ljava/lang/StringBuilder;"⟩ : MethodName)) (W := 0) (a := a4) (argsL := [(.ref a1)]) (rest := []) (W59 hw) (W60 hw) (fun _ q => notFace_of_selects (args := #[]) (mvT q (W62 hw))) (W62 hw) (W61 hw) (W63 hw) (W43 hw) (by decide) (rm_sbAppend l Z a0 EL G a4 t24 kb24 ((((([] ++ [x, y]) ++ [(32 : Int32), (105 : Int32), (115 : Int32), (32 : Int32), (110 : Int32), (117 : Int32), (108 : Int32), (108 : Int32)]) ++ [(32 : Int32), (100 : Int32), (101 : Int32), (115 : Int32), (99 : Int32)]) ++ [(44 : Int32), (32 : Int32)]) ++ [x, y]) 34 a1 b1 kA1 [(32 : Int32), (100 : Int32), (101 : Int32), (115 : Int32), (99 : Int32)] h27 C27.old Z27 f28 (Nat.le_of_ble_eq_true rfl) zg4 zg24) (fun _ => rfl) rfl Z27.1 (allS ⟨(Nat.lt_of_lt_of_le Z24.2.2.2.1.lt K27.1), f30⟩ all0) (by decide) (by decide) (by decide) (by decide) (lenOf pd_17 rfl) rfl (Nat.le_of_ble_eq_true rfl) rfl d25_56 (pc' := 59) rfl ?_
  intro vm29 T29 h29 v29 C29 A29 M29 q29
  obtain ⟨rfl, K29, Z29⟩ := q29
  show Endw p e below T29 (mkF m 59 #[.val (.ref d), .val (.ref a), .val (.int (1 : Int32)), .val (.int (1 : Int32)), .val (.ref a1), .unset] [(.ref a4)]) _
  refine C29.virtual (y := (⟨"java/lang/StringBuilder", "toString", "()Ljava/lang/String;"⟩ : MethodName)) (z := (⟨"java/lang/StringBuilder", "toString", "()Ljava/lang/String;"⟩ : MethodName)) (W := 0) (a := a4) (argsL := []) (rest := []) (W106 hw) (W107 hw) (fun _ q => notFace_of_selects (args := #[]) (mvT q (W109 hw))) (W109 hw) (W108 hw) (W110 hw) (W43 hw) (by decide) (rm_toString l Z a0 EL G a4 t24 kb24 (((((([] ++ [x, y]) ++ [(32 : Int32), (105 : Int32), (115 : Int32), (32 : Int32), (110 : Int32), (117 : Int32), (108 : Int32), (108 : Int32)]) ++ [(32 : Int32), (100 : Int32), (101 : Int32), (115 : Int32), (99 : Int32)]) ++ [(44 : Int32), (32 : Int32)]) ++ [x, y]) ++ [(32 : Int32), (100 : Int32), (101 : Int32), (115 : Int32), (99 : Int32)]) 34 h29 C29.old Z29 (Nat.le_of_ble_eq_true rfl) (Nat.le_of_ble_eq_true rfl)) (fun _ => rfl) rfl Z29.1 all0 (by decide) (by decide) (by decide) (by decide) (lenOf pd_2 rfl) rfl (Nat.le_of_ble_eq_true rfl) rfl d25_59 (pc' := 62) rfl ?_
  intro vm31 T31 h31 v31 C31 A31 M31 q31
  obtain ⟨a31, d31, kd31, rfl, K31, ge31, gd31, zg31, zd31, Z31⟩ := q31
  show Endw p e below T31 (mkF m 62 #[.val (.ref d), .val (.ref a), .val (.int (1 : Int32)), .val (.int (1 : Int32)), .val (.ref a1), .unset] [(.ref a31)]) _
  refine Endw.st (T' := T31) (g' := (mkF m 90 #[.val (.ref d), .val (.ref a), .val (.int (1 : Int32)), .val (.int (1 : Int32)), .val (.ref a1), .val (.ref a31)] [(.ref a31)])) (fun tt_ kk_ => XS.astore C31.here C31.hx rfl (C31.dec d25_62) rfl rfl (l' := #[.val (.ref d), .val (.ref a), .val (.int (1 : Int32)), .val (.int (1 : Int32)), .val (.ref a1), .val (.ref a31)]) rfl (XS.goto C31.here C31.hx rfl (pc0 := 64) rfl (C31.dec d25_64) (by decide) rfl (XS.aload C31.here C31.hx rfl (C31.dec d25_88) rfl rfl kk_))) ?_
  exact C31.retA (t := (.object "java/lang/String")) rfl rfl rfl rfl d25_90 (by decide) (by decide) ⟨a31, d31, kd31, rfl, (Keep.trans (Keep.trans (Keep.trans (Keep.trans (Keep.trans (Keep.trans (Keep.trans (Keep.trans (Keep.trans (Keep.trans (Keep.trans (Keep.trans (Keep.refl h []) K1 all0) K4 all0) K8 (allS (Or.inr (Nat.le_trans K1.1 ge4)) all0)) K10 (allS (Or.inr (Nat.le_trans K1.1 ge4)) (allS (Or.inr (Nat.le_trans (Nat.le_trans K1.1 K4.1) ge8)) all0))) K11 all0) K15 (allS (Or.inr (Nat.le_trans K1.1 ge4)) (allS (Or.inr (Nat.le_trans (Nat.le_trans K1.1 K4.1) ge8)) all0))) K18 (allS (Or.inr (Nat.le_trans K1.1 ge4)) (allS (Or.inr (Nat.le_trans (Nat.le_trans K1.1 K4.1) ge8)) all0))) K20 all0) K24 (allS (Or.inr (Nat.le_trans K1.1 ge4)) all0)) K27 (allS (Or.inr (Nat.le_trans K1.1 ge4)) (allS (Or.inr (Nat.le_trans (Nat.le_trans K1.1 (Nat.le_trans K4.1 (Nat.le_trans K8.1 (Nat.le_trans K10.1 (Nat.le_trans K11.1 (Nat.le_trans K15.1 (Nat.le_trans K18.1 K20.1))))))) ge24)) all0))) K29 (allS (Or.inr (Nat.le_trans K1.1 ge4)) (allS (Or.inr (Nat.le_trans (Nat.le_trans K1.1 (Nat.le_trans K4.1 (Nat.le_trans K8.1 (Nat.le_trans K10.1 (Nat.le_trans K11.1 (Nat.le_trans K15.1 (Nat.le_trans K18.1 K20.1))))))) ge24)) all0))) K31 all0), (Nat.le_trans (Nat.le_trans K1.1 (Nat.le_trans K4.1 (Nat.le_trans K8.1 (Nat.le_trans K10.1 (Nat.le_trans K11.1 (Nat.le_trans K15.1 (Nat.le_trans K18.1 (Nat.le_trans K20.1 (Nat.le_trans K24.1 (Nat.le_trans K27.1 K29.1)))))))))) ge31), (Nat.le_trans (Nat.le_trans K1.1 (Nat.le_trans K4.1 (Nat.le_trans K8.1 (Nat.le_trans K10.1 (Nat.le_trans K11.1 (Nat.le_trans K15.1 (Nat.le_trans K18.1 (Nat.le_trans K20.1 (Nat.le_trans K24.1 (Nat.le_trans K27.1 K29.1)))))))))) gd31), zg31, zd31, Z31⟩
set_option maxRecDepth 65536 in
set_option maxHeartbeats 40000000 in
theorem rm_law (l : Launch) (Z : State) (a0 : Array Value) (EL : List (String × Nat)) (G : Glob Z a0 EL) (i0 i1 i2 : Int32) (h : Heap) (O : Ext Z.heap h)  :
    Met l Z EL false x code maxLocals ret tables_1 room_1 #[(.int i0), (.int i1), (.int i2)] h [] (fun r h' => r = some (.int 1)) := by
  have hw := G.hw
  obtain ⟨zc, Sc, hzc⟩ := G.cs
  obtain ⟨vf, Sf, hvf⟩ := G.fm
  obtain ⟨dm, dp, ⟨Sm, Em, Fm⟩, ⟨Sp, Ep, Fp⟩⟩ := G.di
  refine Met.of (plainFor_of_name pn_50696e4c6177_1) G.ew O ?_
  intro p e s m below meth c T0 C0 S0
  refine Endw.eq (g' := mkF m 0 #[.val (.int i0), .val (.int i1), .val (.int i2), .unset, .unset, .unset, .unset, .unset, .unset, .unset, .unset, .unset] []) (by first | rfl | (simp [entryFrame, mkF, argsToLocals, own_cI, own_cR, own_cN, own_cJ, own_cD, maxLocals]; done)) ?_
  refine Endw.st (T' := T0) (g' := (mkF m 6 #[.val (.int i0), .val (.int i1), .val (.int i2), .unset, .unset, .unset, .unset, .unset, .unset, .unset, .unset, .unset] [(.int ((i0 &&& (255 : Int32)).toUInt32.toUInt16.toUInt32.toInt32))])) (fun tt_ kk_ => XS.iloadN C0.here C0.hx rfl (C0.dec at_0) rfl (XS.sipush C0.here C0.hx rfl (C0.dec at_1) (XS.iand C0.here C0.hx rfl (C0.dec at_4) rfl (XS.i2c C0.here C0.hx rfl (C0.dec at_5) rfl kk_)))) ?_
  rw [show (i0 &&& (255 : Int32)).toUInt32.toUInt16.toUInt32.toInt32 = (i0 &&& (255 : Int32)) from i2c_mask _]
  refine Endw.st (T' := T0) (g' := (mkF m 13 #[.val (.int i0), .val (.int i1), .val (.int i2), .val (.int (i0 &&& (255 : Int32))), .unset, .unset, .unset, .unset, .unset, .unset, .unset, .unset] [(.int ((i1 &&& (255 : Int32)).toUInt32.toUInt16.toUInt32.toInt32))])) (fun tt_ kk_ => XS.istoreN C0.here C0.hx rfl (C0.dec at_6) rfl (l' := #[.val (.int i0), .val (.int i1), .val (.int i2), .val (.int (i0 &&& (255 : Int32))), .unset, .unset, .unset, .unset, .unset, .unset, .unset, .unset]) rfl (XS.iloadN C0.here C0.hx rfl (C0.dec at_7) rfl (XS.sipush C0.here C0.hx rfl (C0.dec at_8) (XS.iand C0.here C0.hx rfl (C0.dec at_11) rfl (XS.i2c C0.here C0.hx rfl (C0.dec at_12) rfl kk_))))) ?_
  rw [show (i1 &&& (255 : Int32)).toUInt32.toUInt16.toUInt32.toInt32 = (i1 &&& (255 : Int32)) from i2c_mask _]
  refine Endw.st (T' := T0) (g' := (mkF m 18 #[.val (.int i0), .val (.int i1), .val (.int i2), .val (.int (i0 &&& (255 : Int32))), .val (.int (i1 &&& (255 : Int32))), .unset, .unset, .unset, .unset, .unset, .unset, .unset] [(.int (i2 &&& (1 : Int32)))])) (fun tt_ kk_ => XS.istore C0.here C0.hx rfl (C0.dec at_13) rfl (l' := #[.val (.int i0), .val (.int i1), .val (.int i2), .val (.int (i0 &&& (255 : Int32))), .val (.int (i1 &&& (255 : Int32))), .unset, .unset, .unset, .unset, .unset, .unset, .unset]) rfl (XS.iloadN C0.here C0.hx rfl (C0.dec at_15) rfl (XS.iconst C0.here C0.hx rfl (C0.dec at_16) (XS.iand C0.here C0.hx rfl (C0.dec at_17) rfl kk_)))) ?_
  by_cases c1 : (i2 &&& (1 : Int32)) = (0 : Int32)
  · refine Endw.st (T' := T0) (g' := (mkF m 31 #[.val (.int i0), .val (.int i1), .val (.int i2), .val (.int (i0 &&& (255 : Int32))), .val (.int (i1 &&& (255 : Int32))), .val (.int (0 : Int32)), .unset, .unset, .unset, .unset, .unset, .unset] [(.int (i2 &&& (2 : Int32)))])) (fun tt_ kk_ => XS.ifYes C0.here C0.hx rfl (pc0 := 18) rfl (C0.dec at_18) rfl (XT.i0_eq_t c1) (by decide) rfl (XS.iconst C0.here C0.hx rfl (C0.dec at_25) (XS.istore C0.here C0.hx rfl (C0.dec at_26) rfl (l' := #[.val (.int i0), .val (.int i1), .val (.int i2), .val (.int (i0 &&& (255 : Int32))), .val (.int (i1 &&& (255 : Int32))), .val (.int (0 : Int32)), .unset, .unset, .unset, .unset, .unset, .unset]) rfl (XS.iloadN C0.here C0.hx rfl (C0.dec at_28) rfl (XS.iconst C0.here C0.hx rfl (C0.dec at_29) (XS.iand C0.here C0.hx rfl (C0.dec at_30) rfl kk_)))))) ?_
    by_cases c2 : (i2 &&& (2 : Int32)) = (0 : Int32)
    · refine Endw.st (T' := T0) (g' := (mkF m 44 #[.val (.int i0), .val (.int i1), .val (.int i2), .val (.int (i0 &&& (255 : Int32))), .val (.int (i1 &&& (255 : Int32))), .val (.int (0 : Int32)), .val (.int (0 : Int32)), .unset, .unset, .unset, .unset, .unset] [(.int (i2 &&& (4 : Int32)))])) (fun tt_ kk_ => XS.ifYes C0.here C0.hx rfl (pc0 := 31) rfl (C0.dec at_31) rfl (XT.i0_eq_t c2) (by decide) rfl (XS.iconst C0.here C0.hx rfl (C0.dec at_38) (XS.istore C0.here C0.hx rfl (C0.dec at_39) rfl (l' := #[.val (.int i0), .val (.int i1), .val (.int i2), .val (.int (i0 &&& (255 : Int32))), .val (.int (i1 &&& (255 : Int32))), .val (.int (0 : Int32)), .val (.int (0 : Int32)), .unset, .unset, .unset, .unset, .unset]) rfl (XS.iloadN C0.here C0.hx rfl (C0.dec at_41) rfl (XS.iconst C0.here C0.hx rfl (C0.dec at_42) (XS.iand C0.here C0.hx rfl (C0.dec at_43) rfl kk_)))))) ?_
      by_cases c3 : (i2 &&& (4 : Int32)) = (0 : Int32)
      · refine Endw.st (T' := T0) (g' := (mkF m 65 #[.val (.int i0), .val (.int i1), .val (.int i2), .val (.int (i0 &&& (255 : Int32))), .val (.int (i1 &&& (255 : Int32))), .val (.int (0 : Int32)), .val (.int (0 : Int32)), .val (.int (0 : Int32)), .unset, .unset, .unset, .unset] [])) (fun tt_ kk_ => XS.ifYes C0.here C0.hx rfl (pc0 := 44) rfl (C0.dec at_44) rfl (XT.i0_eq_t c3) (by decide) rfl (XS.iconst C0.here C0.hx rfl (C0.dec at_51) (XS.istore C0.here C0.hx rfl (C0.dec at_52) rfl (l' := #[.val (.int i0), .val (.int i1), .val (.int i2), .val (.int (i0 &&& (255 : Int32))), .val (.int (i1 &&& (255 : Int32))), .val (.int (0 : Int32)), .val (.int (0 : Int32)), .val (.int (0 : Int32)), .unset, .unset, .unset, .unset]) rfl (XS.iload C0.here C0.hx rfl (C0.dec at_54) rfl (XS.ifYes C0.here C0.hx rfl (pc0 := 56) rfl (C0.dec at_56) rfl (XT.i0_eq_t (by decide)) (by decide) rfl kk_))))) ?_
        refine C0.getS (W0 hw) Sp at_65 (pc' := 68) rfl ?_
        intro T4 C4
        show Endw p e below T4 (mkF m 68 #[.val (.int i0), .val (.int i1), .val (.int i2), .val (.int (i0 &&& (255 : Int32))), .val (.int (i1 &&& (255 : Int32))), .val (.int (0 : Int32)), .val (.int (0 : Int32)), .val (.int (0 : Int32)), .unset, .unset, .unset, .unset] [(.ref dp)]) _
        refine Endw.st (T' := T4) (g' := (mkF m 70 #[.val (.int i0), .val (.int i1), .val (.int i2), .val (.int (i0 &&& (255 : Int32))), .val (.int (i1 &&& (255 : Int32))), .val (.int (0 : Int32)), .val (.int (0 : Int32)), .val (.int (0 : Int32)), .val (.ref dp), .unset, .unset, .unset] [])) (fun tt_ kk_ => XS.astore C4.here C4.hx rfl (C4.dec at_68) rfl rfl (l' := #[.val (.int i0), .val (.int i1), .val (.int i2), .val (.int (i0 &&& (255 : Int32))), .val (.int (i1 &&& (255 : Int32))), .val (.int (0 : Int32)), .val (.int (0 : Int32)), .val (.int (0 : Int32)), .val (.ref dp), .unset, .unset, .unset]) rfl kk_) ?_
        refine C4.new (W3 hw) (W4 hw) (W5 hw) at_70 (pc' := 73) rfl (by decide) (by decide) ?_
        intro T5 h5 a5 C5 K5 A5 ge5 zg5 E5 D5 S5
        show Endw p e below T5 (mkF m 73 #[.val (.int i0), .val (.int i1), .val (.int i2), .val (.int (i0 &&& (255 : Int32))), .val (.int (i1 &&& (255 : Int32))), .val (.int (0 : Int32)), .val (.int (0 : Int32)), .val (.int (0 : Int32)), .val (.ref dp), .unset, .unset, .unset] [(.ref a5)]) _
        refine Endw.st (T' := T5) (g' := (mkF m 75 #[.val (.int i0), .val (.int i1), .val (.int i2), .val (.int (i0 &&& (255 : Int32))), .val (.int (i1 &&& (255 : Int32))), .val (.int (0 : Int32)), .val (.int (0 : Int32)), .val (.int (0 : Int32)), .val (.ref dp), .unset, .unset, .unset] [(.int (2 : Int32)), (.ref a5), (.ref a5)])) (fun tt_ kk_ => XS.dup C5.here C5.hx rfl (C5.dec at_73) rfl rfl (XS.iconst C5.here C5.hx rfl (C5.dec at_74) kk_)) ?_
        refine C5.newA (aty := .char) (z := (2 : Int32)) (cap := 2) (vs := [(.int 0), (.int 0)]) (W6 hw) at_75 (pc' := 77) rfl (by decide) (by decide) (by decide) (by decide) (by decide) rfl ?_
        intro T6 h6 a6 kA6 C6 K6 A6 ge6 zg6 V6 S6
        show Endw p e below T6 (mkF m 77 #[.val (.int i0), .val (.int i1), .val (.int i2), .val (.int (i0 &&& (255 : Int32))), .val (.int (i1 &&& (255 : Int32))), .val (.int (0 : Int32)), .val (.int (0 : Int32)), .val (.int (0 : Int32)), .val (.ref dp), .unset, .unset, .unset] [(.ref a6), (.ref a5), (.ref a5)]) _
        refine Endw.st (T' := T6) (g' := (mkF m 80 #[.val (.int i0), .val (.int i1), .val (.int i2), .val (.int (i0 &&& (255 : Int32))), .val (.int (i1 &&& (255 : Int32))), .val (.int (0 : Int32)), .val (.int (0 : Int32)), .val (.int (0 : Int32)), .val (.ref dp), .unset, .unset, .unset] [(.int (i0 &&& (255 : Int32))), (.int (0 : Int32)), (.ref a6), (.ref a6), (.ref a5), (.ref a5)])) (fun tt_ kk_ => XS.dup C6.here C6.hx rfl (C6.dec at_77) rfl rfl (XS.iconst C6.here C6.hx rfl (C6.dec at_78) (XS.iloadN C6.here C6.hx rfl (C6.dec at_79) rfl kk_))) ?_
        refine C6.castore V6 ⟨by decide, by decide⟩ 0 (by decide) (Nat.le_of_ble_eq_true rfl) (x' := (i0 &&& (255 : Int32))) (i2c_mask _) zg6 (vs' := [(.int (i0 &&& (255 : Int32))), (.int 0)]) rfl at_80 (pc' := 81) rfl ?_
        intro T7 h7 C7 K7 A7 V7
        show Endw p e below T7 (mkF m 81 #[.val (.int i0), .val (.int i1), .val (.int i2), .val (.int (i0 &&& (255 : Int32))), .val (.int (i1 &&& (255 : Int32))), .val (.int (0 : Int32)), .val (.int (0 : Int32)), .val (.int (0 : Int32)), .val (.ref dp), .unset, .unset, .unset] [(.ref a6), (.ref a5), (.ref a5)]) _
        refine Endw.st (T' := T7) (g' := (mkF m 85 #[.val (.int i0), .val (.int i1), .val (.int i2), .val (.int (i0 &&& (255 : Int32))), .val (.int (i1 &&& (255 : Int32))), .val (.int (0 : Int32)), .val (.int (0 : Int32)), .val (.int (0 : Int32)), .val (.ref dp), .unset, .unset, .unset] [(.int (i1 &&& (255 : Int32))), (.int (1 : Int32)), (.ref a6), (.ref a6), (.ref a5), (.ref a5)])) (fun tt_ kk_ => XS.dup C7.here C7.hx rfl (C7.dec at_81) rfl rfl (XS.iconst C7.here C7.hx rfl (C7.dec at_82) (XS.iload C7.here C7.hx rfl (C7.dec at_83) rfl kk_))) ?_
        refine C7.castore V7 ⟨by decide, by decide⟩ 1 (by decide) (Nat.le_of_ble_eq_true rfl) (x' := (i1 &&& (255 : Int32))) (i2c_mask _) zg6 (vs' := [(.int (i0 &&& (255 : Int32))), (.int (i1 &&& (255 : Int32)))]) rfl at_85 (pc' := 86) rfl ?_
        intro T8 h8 C8 K8 A8 V8
        replace K8 := Keep.trans K7 K8 (allS (Or.inl (by simp)) all0)
        replace A8 := CHr.trans A7 A8
        clear C7 V7 K7 A7 T7 h7
        show Endw p e below T8 (mkF m 86 #[.val (.int i0), .val (.int i1), .val (.int i2), .val (.int (i0 &&& (255 : Int32))), .val (.int (i1 &&& (255 : Int32))), .val (.int (0 : Int32)), .val (.int (0 : Int32)), .val (.int (0 : Int32)), .val (.ref dp), .unset, .unset, .unset] [(.ref a6), (.ref a5), (.ref a5)]) _
        have f9 := ((E5.keep K6).keep K8)
        have f10 : Fld Z h5 a5 "java/lang/String" "value" "[B" .null := D5 (Or.inr (W32 hw)) (ty := (.array .byte)) (by decide)
        have f11 := ((f10.keep K6 nin0).keep K8 (ninS (Nat.ne_of_lt (Nat.lt_of_lt_of_le E5.lt ge6)) nin0))
        have f12 : Fld Z h5 a5 "java/lang/String" "coder" "B" (.int (0 : Int32)) := D5 (Or.inr (W30 hw)) (ty := .byte) (by decide)
        have f13 := ((f12.keep K6 nin0).keep K8 (ninS (Nat.ne_of_lt (Nat.lt_of_lt_of_le E5.lt ge6)) nin0))
        have hp14 : ∀ c ∈ [(i0 &&& (255 : Int32)), (i1 &&& (255 : Int32))], B8 c := (own_cS (own_mask255 _) (own_cS (own_mask255 _) own_c0))
        have f15 := (A8.safe (Nat.lt_of_lt_of_le E5.lt K6.1) (A6.safe E5.lt S5))
        refine C8.specialF (y := (⟨"java/lang/String", "<init>", "([C)V"⟩ : MethodName)) (ws := [a5]) (W := 1) (a := a5) (argsL := [.ref a6]) (rest := [(.ref a5)]) (ck := 1) (cn := 2) rfl (W7 hw) (W8 hw) (W9 hw) (by decide) (StrChars.Road.backV (W := 1) (n := 2) (n0 := Z.heap.size) (cs := [(i0 &&& (255 : Int32)), (i1 &&& (255 : Int32))]) (bs := [(i0 &&& (255 : Int32)).toInt8.toInt32, (i1 &&& (255 : Int32)).toInt8.toInt32]) C8.warm G.w_backV (kI := 4) (W4 hw) zg5 C8.le f9 f11 f13 V8 (Sc.ext C8.old) hzc rfl rfl (by decide) (by decide) hp14 rfl (by decide) (by decide)) (fun _ _ _ q => ⟨q.2.1, q.2.2.1⟩) (allS zg5 all0) (sfS f15 sf0) rfl (by decide) (by decide) (lenOf pd_285b432956 rfl) rfl (Nat.le_of_ble_eq_true rfl) rfl at_86 (pc' := 89) rfl ?_
        intro T14 h14 v14 C14 K14 A14 q14
        obtain ⟨_, rfl, -, -, E14, F14, t14, kb14, zg14, ge14, nt14, f14, V14⟩ := q14
        have Z14 : Str Z h14 a5 t14 kb14 [(i0 &&& (255 : Int32)), (i1 &&& (255 : Int32))] := ⟨E14, F14, f14, V14, hp14, Nat.le_of_ble_eq_true rfl⟩
        show Endw p e below T14 (mkF m 89 #[.val (.int i0), .val (.int i1), .val (.int i2), .val (.int (i0 &&& (255 : Int32))), .val (.int (i1 &&& (255 : Int32))), .val (.int (0 : Int32)), .val (.int (0 : Int32)), .val (.int (0 : Int32)), .val (.ref dp), .unset, .unset, .unset] [(.ref a5)]) _
        refine Endw.st (T' := T14) (g' := (mkF m 386 #[.val (.int i0), .val (.int i1), .val (.int i2), .val (.int (i0 &&& (255 : Int32))), .val (.int (i1 &&& (255 : Int32))), .val (.int (0 : Int32)), .val (.int (0 : Int32)), .val (.int (0 : Int32)), .val (.ref dp), .val (.ref a5), .unset, .unset] [(.int (2 : Int32))])) (fun tt_ kk_ => XS.astore C14.here C14.hx rfl (C14.dec at_89) rfl rfl (l' := #[.val (.int i0), .val (.int i1), .val (.int i2), .val (.int (i0 &&& (255 : Int32))), .val (.int (i1 &&& (255 : Int32))), .val (.int (0 : Int32)), .val (.int (0 : Int32)), .val (.int (0 : Int32)), .val (.ref dp), .val (.ref a5), .unset, .unset]) rfl (XS.iload C14.here C14.hx rfl (C14.dec at_91) rfl (XS.ifYes C14.here C14.hx rfl (pc0 := 93) rfl (C14.dec at_93) rfl (XT.i0_eq_t (by decide)) (by decide) rfl (XS.iload C14.here C14.hx rfl (C14.dec at_336) rfl (XS.ifYes C14.here C14.hx rfl (pc0 := 338) rfl (C14.dec at_338) rfl (XT.i0_eq_t (by decide)) (by decide) rfl (XS.iconst C14.here C14.hx rfl (C14.dec at_385) kk_)))))) ?_
        refine C14.newA (aty := .char) (z := (2 : Int32)) (cap := 2) (vs := [(.int 0), (.int 0)]) (W6 hw) at_386 (pc' := 388) rfl (by decide) (by decide) (by decide) (by decide) (by decide) rfl ?_
        intro T16 h16 a16 kA16 C16 K16 A16 ge16 zg16 V16 S16
        show Endw p e below T16 (mkF m 388 #[.val (.int i0), .val (.int i1), .val (.int i2), .val (.int (i0 &&& (255 : Int32))), .val (.int (i1 &&& (255 : Int32))), .val (.int (0 : Int32)), .val (.int (0 : Int32)), .val (.int (0 : Int32)), .val (.ref dp), .val (.ref a5), .unset, .unset] [(.ref a16)]) _
        refine Endw.st (T' := T16) (g' := (mkF m 391 #[.val (.int i0), .val (.int i1), .val (.int i2), .val (.int (i0 &&& (255 : Int32))), .val (.int (i1 &&& (255 : Int32))), .val (.int (0 : Int32)), .val (.int (0 : Int32)), .val (.int (0 : Int32)), .val (.ref dp), .val (.ref a5), .unset, .unset] [(.int (i0 &&& (255 : Int32))), (.int (0 : Int32)), (.ref a16), (.ref a16)])) (fun tt_ kk_ => XS.dup C16.here C16.hx rfl (C16.dec at_388) rfl rfl (XS.iconst C16.here C16.hx rfl (C16.dec at_389) (XS.iloadN C16.here C16.hx rfl (C16.dec at_390) rfl kk_))) ?_
        refine C16.castore V16 ⟨by decide, by decide⟩ 0 (by decide) (Nat.le_of_ble_eq_true rfl) (x' := (i0 &&& (255 : Int32))) (i2c_mask _) zg16 (vs' := [(.int (i0 &&& (255 : Int32))), (.int 0)]) rfl at_391 (pc' := 392) rfl ?_
        intro T17 h17 C17 K17 A17 V17
        show Endw p e below T17 (mkF m 392 #[.val (.int i0), .val (.int i1), .val (.int i2), .val (.int (i0 &&& (255 : Int32))), .val (.int (i1 &&& (255 : Int32))), .val (.int (0 : Int32)), .val (.int (0 : Int32)), .val (.int (0 : Int32)), .val (.ref dp), .val (.ref a5), .unset, .unset] [(.ref a16)]) _
        refine Endw.st (T' := T17) (g' := (mkF m 396 #[.val (.int i0), .val (.int i1), .val (.int i2), .val (.int (i0 &&& (255 : Int32))), .val (.int (i1 &&& (255 : Int32))), .val (.int (0 : Int32)), .val (.int (0 : Int32)), .val (.int (0 : Int32)), .val (.ref dp), .val (.ref a5), .unset, .unset] [(.int (i1 &&& (255 : Int32))), (.int (1 : Int32)), (.ref a16), (.ref a16)])) (fun tt_ kk_ => XS.dup C17.here C17.hx rfl (C17.dec at_392) rfl rfl (XS.iconst C17.here C17.hx rfl (C17.dec at_393) (XS.iload C17.here C17.hx rfl (C17.dec at_394) rfl kk_))) ?_
        refine C17.castore V17 ⟨by decide, by decide⟩ 1 (by decide) (Nat.le_of_ble_eq_true rfl) (x' := (i1 &&& (255 : Int32))) (i2c_mask _) zg16 (vs' := [(.int (i0 &&& (255 : Int32))), (.int (i1 &&& (255 : Int32)))]) rfl at_396 (pc' := 397) rfl ?_
        intro T18 h18 C18 K18 A18 V18
        replace K18 := Keep.trans K17 K18 (allS (Or.inl (by simp)) all0)
        replace A18 := CHr.trans A17 A18
        clear C17 V17 K17 A17 T17 h17
        show Endw p e below T18 (mkF m 397 #[.val (.int i0), .val (.int i1), .val (.int i2), .val (.int (i0 &&& (255 : Int32))), .val (.int (i1 &&& (255 : Int32))), .val (.int (0 : Int32)), .val (.int (0 : Int32)), .val (.int (0 : Int32)), .val (.ref dp), .val (.ref a5), .unset, .unset] [(.ref a16)]) _
        refine Endw.st (T' := T18) (g' := (mkF m 399 #[.val (.int i0), .val (.int i1), .val (.int i2), .val (.int (i0 &&& (255 : Int32))), .val (.int (i1 &&& (255 : Int32))), .val (.int (0 : Int32)), .val (.int (0 : Int32)), .val (.int (0 : Int32)), .val (.ref dp), .val (.ref a5), .val (.ref a16), .unset] [])) (fun tt_ kk_ => XS.astore C18.here C18.hx rfl (C18.dec at_397) rfl rfl (l' := #[.val (.int i0), .val (.int i1), .val (.int i2), .val (.int (i0 &&& (255 : Int32))), .val (.int (i1 &&& (255 : Int32))), .val (.int (0 : Int32)), .val (.int (0 : Int32)), .val (.int (0 : Int32)), .val (.ref dp), .val (.ref a5), .val (.ref a16), .unset]) rfl kk_) ?_
        refine C18.new (W3 hw) (W4 hw) (W5 hw) at_399 (pc' := 402) rfl (by decide) (by decide) ?_
        intro T19 h19 a19 C19 K19 A19 ge19 zg19 E19 D19 S19
        show Endw p e below T19 (mkF m 402 #[.val (.int i0), .val (.int i1), .val (.int i2), .val (.int (i0 &&& (255 : Int32))), .val (.int (i1 &&& (255 : Int32))), .val (.int (0 : Int32)), .val (.int (0 : Int32)), .val (.int (0 : Int32)), .val (.ref dp), .val (.ref a5), .val (.ref a16), .unset] [(.ref a19)]) _
        refine Endw.st (T' := T19) (g' := (mkF m 405 #[.val (.int i0), .val (.int i1), .val (.int i2), .val (.int (i0 &&& (255 : Int32))), .val (.int (i1 &&& (255 : Int32))), .val (.int (0 : Int32)), .val (.int (0 : Int32)), .val (.int (0 : Int32)), .val (.ref dp), .val (.ref a5), .val (.ref a16), .unset] [(.ref a16), (.ref a19), (.ref a19)])) (fun tt_ kk_ => XS.dup C19.here C19.hx rfl (C19.dec at_402) rfl rfl (XS.aload C19.here C19.hx rfl (C19.dec at_403) rfl rfl kk_)) ?_
        have f20 := (V18.keep K19 nin0)
        have f21 : Fld Z h19 a19 "java/lang/String" "value" "[B" .null := D19 (Or.inr (W32 hw)) (ty := (.array .byte)) (by decide)
        have f22 : Fld Z h19 a19 "java/lang/String" "coder" "B" (.int (0 : Int32)) := D19 (Or.inr (W30 hw)) (ty := .byte) (by decide)
        have hp23 : ∀ c ∈ [(i0 &&& (255 : Int32)), (i1 &&& (255 : Int32))], B8 c := (own_cS (own_mask255 _) (own_cS (own_mask255 _) own_c0))
        refine C19.specialF (y := (⟨"java/lang/String", "<init>", "([C)V"⟩ : MethodName)) (ws := [a19]) (W := 1) (a := a19) (argsL := [.ref a16]) (rest := [(.ref a19)]) (ck := 1) (cn := 2) rfl (W7 hw) (W8 hw) (W9 hw) (by decide) (StrChars.Road.backV (W := 1) (n := 2) (n0 := Z.heap.size) (cs := [(i0 &&& (255 : Int32)), (i1 &&& (255 : Int32))]) (bs := [(i0 &&& (255 : Int32)).toInt8.toInt32, (i1 &&& (255 : Int32)).toInt8.toInt32]) C19.warm G.w_backV (kI := 4) (W4 hw) zg19 C19.le E19 f21 f22 f20 (Sc.ext C19.old) hzc rfl rfl (by decide) (by decide) hp23 rfl (by decide) (by decide)) (fun _ _ _ q => ⟨q.2.1, q.2.2.1⟩) (allS zg19 all0) (sfS S19 sf0) rfl (by decide) (by decide) (lenOf pd_285b432956 rfl) rfl (Nat.le_of_ble_eq_true rfl) rfl at_405 (pc' := 408) rfl ?_
        intro T23 h23 v23 C23 K23 A23 q23
        obtain ⟨_, rfl, -, -, E23, F23, t23, kb23, zg23, ge23, nt23, f23, V23⟩ := q23
        have Z23 : Str Z h23 a19 t23 kb23 [(i0 &&& (255 : Int32)), (i1 &&& (255 : Int32))] := ⟨E23, F23, f23, V23, hp23, Nat.le_of_ble_eq_true rfl⟩
        show Endw p e below T23 (mkF m 408 #[.val (.int i0), .val (.int i1), .val (.int i2), .val (.int (i0 &&& (255 : Int32))), .val (.int (i1 &&& (255 : Int32))), .val (.int (0 : Int32)), .val (.int (0 : Int32)), .val (.int (0 : Int32)), .val (.ref dp), .val (.ref a5), .val (.ref a16), .unset] [(.ref a19)]) _
        refine Endw.st (T' := T23) (g' := (mkF m 420 #[.val (.int i0), .val (.int i1), .val (.int i2), .val (.int (i0 &&& (255 : Int32))), .val (.int (i1 &&& (255 : Int32))), .val (.int (0 : Int32)), .val (.int (0 : Int32)), .val (.int (0 : Int32)), .val (.ref dp), .val (.ref a5), .val (.ref a16), .val (.ref a19)] [(.int (0 : Int32)), (.int (0 : Int32)), (.ref a5), (.ref dp), (.ref a19)])) (fun tt_ kk_ => XS.astore C23.here C23.hx rfl (C23.dec at_408) rfl rfl (l' := #[.val (.int i0), .val (.int i1), .val (.int i2), .val (.int (i0 &&& (255 : Int32))), .val (.int (i1 &&& (255 : Int32))), .val (.int (0 : Int32)), .val (.int (0 : Int32)), .val (.int (0 : Int32)), .val (.ref dp), .val (.ref a5), .val (.ref a16), .val (.ref a19)]) rfl (XS.aload C23.here C23.hx rfl (C23.dec at_410) rfl rfl (XS.aload C23.here C23.hx rfl (C23.dec at_412) rfl rfl (XS.aload C23.here C23.hx rfl (C23.dec at_414) rfl rfl (XS.iload C23.here C23.hx rfl (C23.dec at_416) rfl (XS.iload C23.here C23.hx rfl (C23.dec at_418) rfl kk_)))))) ?_
        have f24 := (((((((((Fp.ext O).keep K5 nin0).keep K6 nin0).keep K8 (ninS (Nat.ne_of_lt (Nat.lt_of_lt_of_le (Nat.lt_of_lt_of_le (Ep.ext O).lt K5.1) ge6)) nin0)).keep K14 (ninS (Nat.ne_of_lt (Nat.lt_of_lt_of_le (Ep.ext O).lt ge5)) nin0)).keep K16 nin0).keep K18 (ninS (Nat.ne_of_lt (Nat.lt_of_lt_of_le (Nat.lt_of_lt_of_le (Ep.ext O).lt (Nat.le_trans K5.1 (Nat.le_trans K6.1 (Nat.le_trans K8.1 K14.1)))) ge16)) nin0)).keep K19 nin0).keep K23 (ninS (Nat.ne_of_lt (Nat.lt_of_lt_of_le (Nat.lt_of_lt_of_le (Ep.ext O).lt (Nat.le_trans K5.1 (Nat.le_trans K6.1 (Nat.le_trans K8.1 (Nat.le_trans K14.1 (Nat.le_trans K16.1 K18.1)))))) ge19)) nin0))
        have f25 := ((((Z14.keep K16 nin0 nin0).keep K18 (ninS (Nat.ne_of_lt (Nat.lt_of_lt_of_le (Nat.lt_of_lt_of_le E5.lt (Nat.le_trans K6.1 (Nat.le_trans K8.1 K14.1))) ge16)) nin0) (ninS (Nat.ne_of_lt (Nat.lt_of_lt_of_le V14.lt ge16)) nin0)).keep K19 nin0 nin0).keep K23 (ninS (Nat.ne_of_lt (Nat.lt_of_lt_of_le (Nat.lt_of_lt_of_le E5.lt (Nat.le_trans K6.1 (Nat.le_trans K8.1 (Nat.le_trans K14.1 (Nat.le_trans K16.1 K18.1))))) ge19)) nin0) (ninS (Nat.ne_of_lt (Nat.lt_of_lt_of_le (Nat.lt_of_lt_of_le V14.lt (Nat.le_trans K16.1 K18.1)) ge19)) nin0))
        have f27 := (((((((((Ep.ext O).keep K5).keep K6).keep K8).keep K14).keep K16).keep K18).keep K19).keep K23)
        refine C23.virtual (y := (⟨"com/example/frugal_orm/frugalorm/Dialect", "orderItems", "(Ljava/lang/String;ZZ)Ljava/lang/String;"⟩ : MethodName)) (z := (⟨"com/example/frugal_orm/frugalorm/Dialect", "orderItems", "(Ljava/lang/String;ZZ)Ljava/lang/String;"⟩ : MethodName)) (W := 1) (a := dp) (argsL := [(.ref a5), (.int (0 : Int32)), (.int (0 : Int32))]) (rest := [(.ref a19)]) (W33 hw) (W34 hw) (fun _ q => notFace_of_selects (args := #[]) (mvT q (W36 hw))) (W36 hw) (W35 hw) (W37 hw) (W1 hw) (by decide) (rm_oi000 l Z a0 EL G dp a5 t14 kb14 (i0 &&& (255 : Int32)) (i1 &&& (255 : Int32)) h23 C23.old f24 f25) (fun z => nomatch z) rfl f27 all0 (by decide) (by decide) (by decide) (by decide) (lenOf pd_19 rfl) rfl (Nat.le_of_ble_eq_true rfl) rfl at_420 (pc' := 423) rfl ?_
        intro vm26 T26 h26 v26 C26 A26 M26 q26
        obtain ⟨a26, t26, kb26, rfl, K26, ge26, gt26, zg26, zt26, Z26⟩ := q26
        show Endw p e below T26 (mkF m 423 #[.val (.int i0), .val (.int i1), .val (.int i2), .val (.int (i0 &&& (255 : Int32))), .val (.int (i1 &&& (255 : Int32))), .val (.int (0 : Int32)), .val (.int (0 : Int32)), .val (.int (0 : Int32)), .val (.ref dp), .val (.ref a5), .val (.ref a16), .val (.ref a19)] [(.ref a26), (.ref a19)]) _
        have f28 := (Z23.keep K26 nin0 nin0)
        have f30 := (E23.keep K26)
        refine C26.virtualF (y := (⟨"java/lang/String", "equals", "(Ljava/lang/Object;)Z"⟩ : MethodName)) (z := (⟨"java/lang/String", "equals", "(Ljava/lang/Object;)Z"⟩ : MethodName)) (ws := []) (W := 0) (a := a19) (argsL := [.ref a26]) (rest := []) (ck := 0) (cn := 0) (Qf := fun v h' L => ((v = some (.int 1) ∧ [(i0 &&& (255 : Int32)), (i1 &&& (255 : Int32))] = (([] ++ [(i0 &&& (255 : Int32)), (i1 &&& (255 : Int32))]) ++ [])) ∨ (v = some (.int 0) ∧ ¬ [(i0 &&& (255 : Int32)), (i1 &&& (255 : Int32))] = (([] ++ [(i0 &&& (255 : Int32)), (i1 &&& (255 : Int32))]) ++ []))) ∧ L = [] ∧ h' = h26) (W151 hw) (W152 hw) (fun _ q => notFace_of_selects (args := #[]) (mvT q (W154 hw))) (W154 hw) (W153 hw) (by decide) (StrChars.Road.eqW (W := 0) (cs := [(i0 &&& (255 : Int32)), (i1 &&& (255 : Int32))]) (ds := (([] ++ [(i0 &&& (255 : Int32)), (i1 &&& (255 : Int32))]) ++ [])) C26.warm G.w_eqW (kI := 4) (W4 hw) f28.1 f28.2.2.1 f28.2.1 f28.2.2.2.1 (StrChars.Road.codOf rfl (fun c q => (f28.2.2.2.2.1 c q).2)) (fun c q => own_b16 (f28.2.2.2.2.1 c q)) f28.2.2.2.2.2 Z26.1 Z26.2.2.1 Z26.2.1 Z26.2.2.2.1 (StrChars.Road.codOf rfl (fun c q => (Z26.2.2.2.2.1 c q).2)) (fun c q => own_b16 (Z26.2.2.2.2.1 c q)) Z26.2.2.2.2.2 (Sc.ext C26.old) hzc (by decide) (by decide)) (fun _ _ _ q => ⟨by rw [q.2.1]; exact Fr.nil _, by rw [q.2.2]; exact Keep.refl _ _⟩) all0 sf0 rfl f30 (by decide) (by decide) (lenOf pd_14 rfl) rfl (Nat.le_of_ble_eq_true rfl) rfl at_423 (pc' := 426) rfl ?_
        intro T29 h29 v29 C29 K29 A29 q29
        obtain ⟨_, q29, -, -⟩ := q29
        obtain rfl : v29 = some (.int 1) := q29.elim (fun z => z.1) (fun z => absurd (rfl) z.2)
        show Endw p e below T29 (mkF m 426 #[.val (.int i0), .val (.int i1), .val (.int i2), .val (.int (i0 &&& (255 : Int32))), .val (.int (i1 &&& (255 : Int32))), .val (.int (0 : Int32)), .val (.int (0 : Int32)), .val (.int (0 : Int32)), .val (.ref dp), .val (.ref a5), .val (.ref a16), .val (.ref a19)] [(.int (1 : Int32))]) _
        exact C29.retI (t := .boolean) rfl (by simp) rfl at_426 (by decide) (by decide) rfl
      · refine Endw.st (T' := T0) (g' := (mkF m 65 #[.val (.int i0), .val (.int i1), .val (.int i2), .val (.int (i0 &&& (255 : Int32))), .val (.int (i1 &&& (255 : Int32))), .val (.int (0 : Int32)), .val (.int (0 : Int32)), .val (.int (1 : Int32)), .unset, .unset, .unset, .unset] [])) (fun tt_ kk_ => XS.ifNo C0.here C0.hx rfl (C0.dec at_44) rfl (XT.i0_eq_f c3) (XS.iconst C0.here C0.hx rfl (C0.dec at_47) (XS.goto C0.here C0.hx rfl (pc0 := 48) rfl (C0.dec at_48) (by decide) rfl (XS.istore C0.here C0.hx rfl (C0.dec at_52) rfl (l' := #[.val (.int i0), .val (.int i1), .val (.int i2), .val (.int (i0 &&& (255 : Int32))), .val (.int (i1 &&& (255 : Int32))), .val (.int (0 : Int32)), .val (.int (0 : Int32)), .val (.int (1 : Int32)), .unset, .unset, .unset, .unset]) rfl (XS.iload C0.here C0.hx rfl (C0.dec at_54) rfl (XS.ifYes C0.here C0.hx rfl (pc0 := 56) rfl (C0.dec at_56) rfl (XT.i0_eq_t (by decide)) (by decide) rfl kk_)))))) ?_
        refine C0.getS (W0 hw) Sp at_65 (pc' := 68) rfl ?_
        intro T31 C31
        show Endw p e below T31 (mkF m 68 #[.val (.int i0), .val (.int i1), .val (.int i2), .val (.int (i0 &&& (255 : Int32))), .val (.int (i1 &&& (255 : Int32))), .val (.int (0 : Int32)), .val (.int (0 : Int32)), .val (.int (1 : Int32)), .unset, .unset, .unset, .unset] [(.ref dp)]) _
        refine Endw.st (T' := T31) (g' := (mkF m 70 #[.val (.int i0), .val (.int i1), .val (.int i2), .val (.int (i0 &&& (255 : Int32))), .val (.int (i1 &&& (255 : Int32))), .val (.int (0 : Int32)), .val (.int (0 : Int32)), .val (.int (1 : Int32)), .val (.ref dp), .unset, .unset, .unset] [])) (fun tt_ kk_ => XS.astore C31.here C31.hx rfl (C31.dec at_68) rfl rfl (l' := #[.val (.int i0), .val (.int i1), .val (.int i2), .val (.int (i0 &&& (255 : Int32))), .val (.int (i1 &&& (255 : Int32))), .val (.int (0 : Int32)), .val (.int (0 : Int32)), .val (.int (1 : Int32)), .val (.ref dp), .unset, .unset, .unset]) rfl kk_) ?_
        refine C31.new (W3 hw) (W4 hw) (W5 hw) at_70 (pc' := 73) rfl (by decide) (by decide) ?_
        intro T32 h32 a32 C32 K32 A32 ge32 zg32 E32 D32 S32
        show Endw p e below T32 (mkF m 73 #[.val (.int i0), .val (.int i1), .val (.int i2), .val (.int (i0 &&& (255 : Int32))), .val (.int (i1 &&& (255 : Int32))), .val (.int (0 : Int32)), .val (.int (0 : Int32)), .val (.int (1 : Int32)), .val (.ref dp), .unset, .unset, .unset] [(.ref a32)]) _
        refine Endw.st (T' := T32) (g' := (mkF m 75 #[.val (.int i0), .val (.int i1), .val (.int i2), .val (.int (i0 &&& (255 : Int32))), .val (.int (i1 &&& (255 : Int32))), .val (.int (0 : Int32)), .val (.int (0 : Int32)), .val (.int (1 : Int32)), .val (.ref dp), .unset, .unset, .unset] [(.int (2 : Int32)), (.ref a32), (.ref a32)])) (fun tt_ kk_ => XS.dup C32.here C32.hx rfl (C32.dec at_73) rfl rfl (XS.iconst C32.here C32.hx rfl (C32.dec at_74) kk_)) ?_
        refine C32.newA (aty := .char) (z := (2 : Int32)) (cap := 2) (vs := [(.int 0), (.int 0)]) (W6 hw) at_75 (pc' := 77) rfl (by decide) (by decide) (by decide) (by decide) (by decide) rfl ?_
        intro T33 h33 a33 kA33 C33 K33 A33 ge33 zg33 V33 S33
        show Endw p e below T33 (mkF m 77 #[.val (.int i0), .val (.int i1), .val (.int i2), .val (.int (i0 &&& (255 : Int32))), .val (.int (i1 &&& (255 : Int32))), .val (.int (0 : Int32)), .val (.int (0 : Int32)), .val (.int (1 : Int32)), .val (.ref dp), .unset, .unset, .unset] [(.ref a33), (.ref a32), (.ref a32)]) _
        refine Endw.st (T' := T33) (g' := (mkF m 80 #[.val (.int i0), .val (.int i1), .val (.int i2), .val (.int (i0 &&& (255 : Int32))), .val (.int (i1 &&& (255 : Int32))), .val (.int (0 : Int32)), .val (.int (0 : Int32)), .val (.int (1 : Int32)), .val (.ref dp), .unset, .unset, .unset] [(.int (i0 &&& (255 : Int32))), (.int (0 : Int32)), (.ref a33), (.ref a33), (.ref a32), (.ref a32)])) (fun tt_ kk_ => XS.dup C33.here C33.hx rfl (C33.dec at_77) rfl rfl (XS.iconst C33.here C33.hx rfl (C33.dec at_78) (XS.iloadN C33.here C33.hx rfl (C33.dec at_79) rfl kk_))) ?_
        refine C33.castore V33 ⟨by decide, by decide⟩ 0 (by decide) (Nat.le_of_ble_eq_true rfl) (x' := (i0 &&& (255 : Int32))) (i2c_mask _) zg33 (vs' := [(.int (i0 &&& (255 : Int32))), (.int 0)]) rfl at_80 (pc' := 81) rfl ?_
        intro T34 h34 C34 K34 A34 V34
        show Endw p e below T34 (mkF m 81 #[.val (.int i0), .val (.int i1), .val (.int i2), .val (.int (i0 &&& (255 : Int32))), .val (.int (i1 &&& (255 : Int32))), .val (.int (0 : Int32)), .val (.int (0 : Int32)), .val (.int (1 : Int32)), .val (.ref dp), .unset, .unset, .unset] [(.ref a33), (.ref a32), (.ref a32)]) _
        refine Endw.st (T' := T34) (g' := (mkF m 85 #[.val (.int i0), .val (.int i1), .val (.int i2), .val (.int (i0 &&& (255 : Int32))), .val (.int (i1 &&& (255 : Int32))), .val (.int (0 : Int32)), .val (.int (0 : Int32)), .val (.int (1 : Int32)), .val (.ref dp), .unset, .unset, .unset] [(.int (i1 &&& (255 : Int32))), (.int (1 : Int32)), (.ref a33), (.ref a33), (.ref a32), (.ref a32)])) (fun tt_ kk_ => XS.dup C34.here C34.hx rfl (C34.dec at_81) rfl rfl (XS.iconst C34.here C34.hx rfl (C34.dec at_82) (XS.iload C34.here C34.hx rfl (C34.dec at_83) rfl kk_))) ?_
        refine C34.castore V34 ⟨by decide, by decide⟩ 1 (by decide) (Nat.le_of_ble_eq_true rfl) (x' := (i1 &&& (255 : Int32))) (i2c_mask _) zg33 (vs' := [(.int (i0 &&& (255 : Int32))), (.int (i1 &&& (255 : Int32)))]) rfl at_85 (pc' := 86) rfl ?_
        intro T35 h35 C35 K35 A35 V35
        replace K35 := Keep.trans K34 K35 (allS (Or.inl (by simp)) all0)
        replace A35 := CHr.trans A34 A35
        clear C34 V34 K34 A34 T34 h34
        show Endw p e below T35 (mkF m 86 #[.val (.int i0), .val (.int i1), .val (.int i2), .val (.int (i0 &&& (255 : Int32))), .val (.int (i1 &&& (255 : Int32))), .val (.int (0 : Int32)), .val (.int (0 : Int32)), .val (.int (1 : Int32)), .val (.ref dp), .unset, .unset, .unset] [(.ref a33), (.ref a32), (.ref a32)]) _
        have f36 := ((E32.keep K33).keep K35)
        have f37 : Fld Z h32 a32 "java/lang/String" "value" "[B" .null := D32 (Or.inr (W32 hw)) (ty := (.array .byte)) (by decide)
        have f38 := ((f37.keep K33 nin0).keep K35 (ninS (Nat.ne_of_lt (Nat.lt_of_lt_of_le E32.lt ge33)) nin0))
        have f39 : Fld Z h32 a32 "java/lang/String" "coder" "B" (.int (0 : Int32)) := D32 (Or.inr (W30 hw)) (ty := .byte) (by decide)
        have f40 := ((f39.keep K33 nin0).keep K35 (ninS (Nat.ne_of_lt (Nat.lt_of_lt_of_le E32.lt ge33)) nin0))
        have hp41 : ∀ c ∈ [(i0 &&& (255 : Int32)), (i1 &&& (255 : Int32))], B8 c := (own_cS (own_mask255 _) (own_cS (own_mask255 _) own_c0))
        have f42 := (A35.safe (Nat.lt_of_lt_of_le E32.lt K33.1) (A33.safe E32.lt S32))
        refine C35.specialF (y := (⟨"java/lang/String", "<init>", "([C)V"⟩ : MethodName)) (ws := [a32]) (W := 1) (a := a32) (argsL := [.ref a33]) (rest := [(.ref a32)]) (ck := 1) (cn := 2) rfl (W7 hw) (W8 hw) (W9 hw) (by decide) (StrChars.Road.backV (W := 1) (n := 2) (n0 := Z.heap.size) (cs := [(i0 &&& (255 : Int32)), (i1 &&& (255 : Int32))]) (bs := [(i0 &&& (255 : Int32)).toInt8.toInt32, (i1 &&& (255 : Int32)).toInt8.toInt32]) C35.warm G.w_backV (kI := 4) (W4 hw) zg32 C35.le f36 f38 f40 V35 (Sc.ext C35.old) hzc rfl rfl (by decide) (by decide) hp41 rfl (by decide) (by decide)) (fun _ _ _ q => ⟨q.2.1, q.2.2.1⟩) (allS zg32 all0) (sfS f42 sf0) rfl (by decide) (by decide) (lenOf pd_285b432956 rfl) rfl (Nat.le_of_ble_eq_true rfl) rfl at_86 (pc' := 89) rfl ?_
        intro T41 h41 v41 C41 K41 A41 q41
        obtain ⟨_, rfl, -, -, E41, F41, t41, kb41, zg41, ge41, nt41, f41, V41⟩ := q41
        have Z41 : Str Z h41 a32 t41 kb41 [(i0 &&& (255 : Int32)), (i1 &&& (255 : Int32))] := ⟨E41, F41, f41, V41, hp41, Nat.le_of_ble_eq_true rfl⟩
        show Endw p e below T41 (mkF m 89 #[.val (.int i0), .val (.int i1), .val (.int i2), .val (.int (i0 &&& (255 : Int32))), .val (.int (i1 &&& (255 : Int32))), .val (.int (0 : Int32)), .val (.int (0 : Int32)), .val (.int (1 : Int32)), .val (.ref dp), .unset, .unset, .unset] [(.ref a32)]) _
        refine Endw.st (T' := T41) (g' := (mkF m 386 #[.val (.int i0), .val (.int i1), .val (.int i2), .val (.int (i0 &&& (255 : Int32))), .val (.int (i1 &&& (255 : Int32))), .val (.int (0 : Int32)), .val (.int (0 : Int32)), .val (.int (1 : Int32)), .val (.ref dp), .val (.ref a32), .unset, .unset] [(.int (2 : Int32))])) (fun tt_ kk_ => XS.astore C41.here C41.hx rfl (C41.dec at_89) rfl rfl (l' := #[.val (.int i0), .val (.int i1), .val (.int i2), .val (.int (i0 &&& (255 : Int32))), .val (.int (i1 &&& (255 : Int32))), .val (.int (0 : Int32)), .val (.int (0 : Int32)), .val (.int (1 : Int32)), .val (.ref dp), .val (.ref a32), .unset, .unset]) rfl (XS.iload C41.here C41.hx rfl (C41.dec at_91) rfl (XS.ifNo C41.here C41.hx rfl (C41.dec at_93) rfl (XT.i0_eq_f (by decide)) (XS.iload C41.here C41.hx rfl (C41.dec at_96) rfl (XS.ifYes C41.here C41.hx rfl (pc0 := 98) rfl (C41.dec at_98) rfl (XT.i0_eq_t (by decide)) (by decide) rfl (XS.iload C41.here C41.hx rfl (C41.dec at_336) rfl (XS.ifYes C41.here C41.hx rfl (pc0 := 338) rfl (C41.dec at_338) rfl (XT.i0_eq_t (by decide)) (by decide) rfl (XS.iconst C41.here C41.hx rfl (C41.dec at_385) kk_)))))))) ?_
        refine C41.newA (aty := .char) (z := (2 : Int32)) (cap := 2) (vs := [(.int 0), (.int 0)]) (W6 hw) at_386 (pc' := 388) rfl (by decide) (by decide) (by decide) (by decide) (by decide) rfl ?_
        intro T43 h43 a43 kA43 C43 K43 A43 ge43 zg43 V43 S43
        show Endw p e below T43 (mkF m 388 #[.val (.int i0), .val (.int i1), .val (.int i2), .val (.int (i0 &&& (255 : Int32))), .val (.int (i1 &&& (255 : Int32))), .val (.int (0 : Int32)), .val (.int (0 : Int32)), .val (.int (1 : Int32)), .val (.ref dp), .val (.ref a32), .unset, .unset] [(.ref a43)]) _
        refine Endw.st (T' := T43) (g' := (mkF m 391 #[.val (.int i0), .val (.int i1), .val (.int i2), .val (.int (i0 &&& (255 : Int32))), .val (.int (i1 &&& (255 : Int32))), .val (.int (0 : Int32)), .val (.int (0 : Int32)), .val (.int (1 : Int32)), .val (.ref dp), .val (.ref a32), .unset, .unset] [(.int (i0 &&& (255 : Int32))), (.int (0 : Int32)), (.ref a43), (.ref a43)])) (fun tt_ kk_ => XS.dup C43.here C43.hx rfl (C43.dec at_388) rfl rfl (XS.iconst C43.here C43.hx rfl (C43.dec at_389) (XS.iloadN C43.here C43.hx rfl (C43.dec at_390) rfl kk_))) ?_
        refine C43.castore V43 ⟨by decide, by decide⟩ 0 (by decide) (Nat.le_of_ble_eq_true rfl) (x' := (i0 &&& (255 : Int32))) (i2c_mask _) zg43 (vs' := [(.int (i0 &&& (255 : Int32))), (.int 0)]) rfl at_391 (pc' := 392) rfl ?_
        intro T44 h44 C44 K44 A44 V44
        show Endw p e below T44 (mkF m 392 #[.val (.int i0), .val (.int i1), .val (.int i2), .val (.int (i0 &&& (255 : Int32))), .val (.int (i1 &&& (255 : Int32))), .val (.int (0 : Int32)), .val (.int (0 : Int32)), .val (.int (1 : Int32)), .val (.ref dp), .val (.ref a32), .unset, .unset] [(.ref a43)]) _
        refine Endw.st (T' := T44) (g' := (mkF m 396 #[.val (.int i0), .val (.int i1), .val (.int i2), .val (.int (i0 &&& (255 : Int32))), .val (.int (i1 &&& (255 : Int32))), .val (.int (0 : Int32)), .val (.int (0 : Int32)), .val (.int (1 : Int32)), .val (.ref dp), .val (.ref a32), .unset, .unset] [(.int (i1 &&& (255 : Int32))), (.int (1 : Int32)), (.ref a43), (.ref a43)])) (fun tt_ kk_ => XS.dup C44.here C44.hx rfl (C44.dec at_392) rfl rfl (XS.iconst C44.here C44.hx rfl (C44.dec at_393) (XS.iload C44.here C44.hx rfl (C44.dec at_394) rfl kk_))) ?_
        refine C44.castore V44 ⟨by decide, by decide⟩ 1 (by decide) (Nat.le_of_ble_eq_true rfl) (x' := (i1 &&& (255 : Int32))) (i2c_mask _) zg43 (vs' := [(.int (i0 &&& (255 : Int32))), (.int (i1 &&& (255 : Int32)))]) rfl at_396 (pc' := 397) rfl ?_
        intro T45 h45 C45 K45 A45 V45
        replace K45 := Keep.trans K44 K45 (allS (Or.inl (by simp)) all0)
        replace A45 := CHr.trans A44 A45
        clear C44 V44 K44 A44 T44 h44
        show Endw p e below T45 (mkF m 397 #[.val (.int i0), .val (.int i1), .val (.int i2), .val (.int (i0 &&& (255 : Int32))), .val (.int (i1 &&& (255 : Int32))), .val (.int (0 : Int32)), .val (.int (0 : Int32)), .val (.int (1 : Int32)), .val (.ref dp), .val (.ref a32), .unset, .unset] [(.ref a43)]) _
        refine Endw.st (T' := T45) (g' := (mkF m 399 #[.val (.int i0), .val (.int i1), .val (.int i2), .val (.int (i0 &&& (255 : Int32))), .val (.int (i1 &&& (255 : Int32))), .val (.int (0 : Int32)), .val (.int (0 : Int32)), .val (.int (1 : Int32)), .val (.ref dp), .val (.ref a32), .val (.ref a43), .unset] [])) (fun tt_ kk_ => XS.astore C45.here C45.hx rfl (C45.dec at_397) rfl rfl (l' := #[.val (.int i0), .val (.int i1), .val (.int i2), .val (.int (i0 &&& (255 : Int32))), .val (.int (i1 &&& (255 : Int32))), .val (.int (0 : Int32)), .val (.int (0 : Int32)), .val (.int (1 : Int32)), .val (.ref dp), .val (.ref a32), .val (.ref a43), .unset]) rfl kk_) ?_
        refine C45.new (W3 hw) (W4 hw) (W5 hw) at_399 (pc' := 402) rfl (by decide) (by decide) ?_
        intro T46 h46 a46 C46 K46 A46 ge46 zg46 E46 D46 S46
        show Endw p e below T46 (mkF m 402 #[.val (.int i0), .val (.int i1), .val (.int i2), .val (.int (i0 &&& (255 : Int32))), .val (.int (i1 &&& (255 : Int32))), .val (.int (0 : Int32)), .val (.int (0 : Int32)), .val (.int (1 : Int32)), .val (.ref dp), .val (.ref a32), .val (.ref a43), .unset] [(.ref a46)]) _
        refine Endw.st (T' := T46) (g' := (mkF m 405 #[.val (.int i0), .val (.int i1), .val (.int i2), .val (.int (i0 &&& (255 : Int32))), .val (.int (i1 &&& (255 : Int32))), .val (.int (0 : Int32)), .val (.int (0 : Int32)), .val (.int (1 : Int32)), .val (.ref dp), .val (.ref a32), .val (.ref a43), .unset] [(.ref a43), (.ref a46), (.ref a46)])) (fun tt_ kk_ => XS.dup C46.here C46.hx rfl (C46.dec at_402) rfl rfl (XS.aload C46.here C46.hx rfl (C46.dec at_403) rfl rfl kk_)) ?_
        have f47 := (V45.keep K46 nin0)
        have f48 : Fld Z h46 a46 "java/lang/String" "value" "[B" .null := D46 (Or.inr (W32 hw)) (ty := (.array .byte)) (by decide)
        have f49 : Fld Z h46 a46 "java/lang/String" "coder" "B" (.int (0 : Int32)) := D46 (Or.inr (W30 hw)) (ty := .byte) (by decide)
        have hp50 : ∀ c ∈ [(i0 &&& (255 : Int32)), (i1 &&& (255 : Int32))], B8 c := (own_cS (own_mask255 _) (own_cS (own_mask255 _) own_c0))
        refine C46.specialF (y := (⟨"java/lang/String", "<init>", "([C)V"⟩ : MethodName)) (ws := [a46]) (W := 1) (a := a46) (argsL := [.ref a43]) (rest := [(.ref a46)]) (ck := 1) (cn := 2) rfl (W7 hw) (W8 hw) (W9 hw) (by decide) (StrChars.Road.backV (W := 1) (n := 2) (n0 := Z.heap.size) (cs := [(i0 &&& (255 : Int32)), (i1 &&& (255 : Int32))]) (bs := [(i0 &&& (255 : Int32)).toInt8.toInt32, (i1 &&& (255 : Int32)).toInt8.toInt32]) C46.warm G.w_backV (kI := 4) (W4 hw) zg46 C46.le E46 f48 f49 f47 (Sc.ext C46.old) hzc rfl rfl (by decide) (by decide) hp50 rfl (by decide) (by decide)) (fun _ _ _ q => ⟨q.2.1, q.2.2.1⟩) (allS zg46 all0) (sfS S46 sf0) rfl (by decide) (by decide) (lenOf pd_285b432956 rfl) rfl (Nat.le_of_ble_eq_true rfl) rfl at_405 (pc' := 408) rfl ?_
        intro T50 h50 v50 C50 K50 A50 q50
        obtain ⟨_, rfl, -, -, E50, F50, t50, kb50, zg50, ge50, nt50, f50, V50⟩ := q50
        have Z50 : Str Z h50 a46 t50 kb50 [(i0 &&& (255 : Int32)), (i1 &&& (255 : Int32))] := ⟨E50, F50, f50, V50, hp50, Nat.le_of_ble_eq_true rfl⟩
        show Endw p e below T50 (mkF m 408 #[.val (.int i0), .val (.int i1), .val (.int i2), .val (.int (i0 &&& (255 : Int32))), .val (.int (i1 &&& (255 : Int32))), .val (.int (0 : Int32)), .val (.int (0 : Int32)), .val (.int (1 : Int32)), .val (.ref dp), .val (.ref a32), .val (.ref a43), .unset] [(.ref a46)]) _
        refine Endw.st (T' := T50) (g' := (mkF m 420 #[.val (.int i0), .val (.int i1), .val (.int i2), .val (.int (i0 &&& (255 : Int32))), .val (.int (i1 &&& (255 : Int32))), .val (.int (0 : Int32)), .val (.int (0 : Int32)), .val (.int (1 : Int32)), .val (.ref dp), .val (.ref a32), .val (.ref a43), .val (.ref a46)] [(.int (1 : Int32)), (.int (0 : Int32)), (.ref a32), (.ref dp), (.ref a46)])) (fun tt_ kk_ => XS.astore C50.here C50.hx rfl (C50.dec at_408) rfl rfl (l' := #[.val (.int i0), .val (.int i1), .val (.int i2), .val (.int (i0 &&& (255 : Int32))), .val (.int (i1 &&& (255 : Int32))), .val (.int (0 : Int32)), .val (.int (0 : Int32)), .val (.int (1 : Int32)), .val (.ref dp), .val (.ref a32), .val (.ref a43), .val (.ref a46)]) rfl (XS.aload C50.here C50.hx rfl (C50.dec at_410) rfl rfl (XS.aload C50.here C50.hx rfl (C50.dec at_412) rfl rfl (XS.aload C50.here C50.hx rfl (C50.dec at_414) rfl rfl (XS.iload C50.here C50.hx rfl (C50.dec at_416) rfl (XS.iload C50.here C50.hx rfl (C50.dec at_418) rfl kk_)))))) ?_
        have f51 := (((((((((Fp.ext O).keep K32 nin0).keep K33 nin0).keep K35 (ninS (Nat.ne_of_lt (Nat.lt_of_lt_of_le (Nat.lt_of_lt_of_le (Ep.ext O).lt K32.1) ge33)) nin0)).keep K41 (ninS (Nat.ne_of_lt (Nat.lt_of_lt_of_le (Ep.ext O).lt ge32)) nin0)).keep K43 nin0).keep K45 (ninS (Nat.ne_of_lt (Nat.lt_of_lt_of_le (Nat.lt_of_lt_of_le (Ep.ext O).lt (Nat.le_trans K32.1 (Nat.le_trans K33.1 (Nat.le_trans K35.1 K41.1)))) ge43)) nin0)).keep K46 nin0).keep K50 (ninS (Nat.ne_of_lt (Nat.lt_of_lt_of_le (Nat.lt_of_lt_of_le (Ep.ext O).lt (Nat.le_trans K32.1 (Nat.le_trans K33.1 (Nat.le_trans K35.1 (Nat.le_trans K41.1 (Nat.le_trans K43.1 K45.1)))))) ge46)) nin0))
        have f52 := ((((Z41.keep K43 nin0 nin0).keep K45 (ninS (Nat.ne_of_lt (Nat.lt_of_lt_of_le (Nat.lt_of_lt_of_le E32.lt (Nat.le_trans K33.1 (Nat.le_trans K35.1 K41.1))) ge43)) nin0) (ninS (Nat.ne_of_lt (Nat.lt_of_lt_of_le V41.lt ge43)) nin0)).keep K46 nin0 nin0).keep K50 (ninS (Nat.ne_of_lt (Nat.lt_of_lt_of_le (Nat.lt_of_lt_of_le E32.lt (Nat.le_trans K33.1 (Nat.le_trans K35.1 (Nat.le_trans K41.1 (Nat.le_trans K43.1 K45.1))))) ge46)) nin0) (ninS (Nat.ne_of_lt (Nat.lt_of_lt_of_le (Nat.lt_of_lt_of_le V41.lt (Nat.le_trans K43.1 K45.1)) ge46)) nin0))
        have f54 := (((((((((Ep.ext O).keep K32).keep K33).keep K35).keep K41).keep K43).keep K45).keep K46).keep K50)
        refine C50.virtual (y := (⟨"com/example/frugal_orm/frugalorm/Dialect", "orderItems", "(Ljava/lang/String;ZZ)Ljava/lang/String;"⟩ : MethodName)) (z := (⟨"com/example/frugal_orm/frugalorm/Dialect", "orderItems", "(Ljava/lang/String;ZZ)Ljava/lang/String;"⟩ : MethodName)) (W := 1) (a := dp) (argsL := [(.ref a32), (.int (0 : Int32)), (.int (1 : Int32))]) (rest := [(.ref a46)]) (W33 hw) (W34 hw) (fun _ q => notFace_of_selects (args := #[]) (mvT q (W36 hw))) (W36 hw) (W35 hw) (W37 hw) (W1 hw) (by decide) (rm_oi010 l Z a0 EL G dp a32 t41 kb41 (i0 &&& (255 : Int32)) (i1 &&& (255 : Int32)) h50 C50.old f51 f52) (fun z => nomatch z) rfl f54 all0 (by decide) (by decide) (by decide) (by decide) (lenOf pd_19 rfl) rfl (Nat.le_of_ble_eq_true rfl) rfl at_420 (pc' := 423) rfl ?_
        intro vm53 T53 h53 v53 C53 A53 M53 q53
        obtain ⟨a53, t53, kb53, rfl, K53, ge53, gt53, zg53, zt53, Z53⟩ := q53
        show Endw p e below T53 (mkF m 423 #[.val (.int i0), .val (.int i1), .val (.int i2), .val (.int (i0 &&& (255 : Int32))), .val (.int (i1 &&& (255 : Int32))), .val (.int (0 : Int32)), .val (.int (0 : Int32)), .val (.int (1 : Int32)), .val (.ref dp), .val (.ref a32), .val (.ref a43), .val (.ref a46)] [(.ref a53), (.ref a46)]) _
        have f55 := (Z50.keep K53 nin0 nin0)
        have f57 := (E50.keep K53)
        refine C53.virtualF (y := (⟨"java/lang/String", "equals", "(Ljava/lang/Object;)Z"⟩ : MethodName)) (z := (⟨"java/lang/String", "equals", "(Ljava/lang/Object;)Z"⟩ : MethodName)) (ws := []) (W := 0) (a := a46) (argsL := [.ref a53]) (rest := []) (ck := 0) (cn := 0) (Qf := fun v h' L => ((v = some (.int 1) ∧ [(i0 &&& (255 : Int32)), (i1 &&& (255 : Int32))] = (([] ++ [(i0 &&& (255 : Int32)), (i1 &&& (255 : Int32))]) ++ [])) ∨ (v = some (.int 0) ∧ ¬ [(i0 &&& (255 : Int32)), (i1 &&& (255 : Int32))] = (([] ++ [(i0 &&& (255 : Int32)), (i1 &&& (255 : Int32))]) ++ []))) ∧ L = [] ∧ h' = h53) (W151 hw) (W152 hw) (fun _ q => notFace_of_selects (args := #[]) (mvT q (W154 hw))) (W154 hw) (W153 hw) (by decide) (StrChars.Road.eqW (W := 0) (cs := [(i0 &&& (255 : Int32)), (i1 &&& (255 : Int32))]) (ds := (([] ++ [(i0 &&& (255 : Int32)), (i1 &&& (255 : Int32))]) ++ [])) C53.warm G.w_eqW (kI := 4) (W4 hw) f55.1 f55.2.2.1 f55.2.1 f55.2.2.2.1 (StrChars.Road.codOf rfl (fun c q => (f55.2.2.2.2.1 c q).2)) (fun c q => own_b16 (f55.2.2.2.2.1 c q)) f55.2.2.2.2.2 Z53.1 Z53.2.2.1 Z53.2.1 Z53.2.2.2.1 (StrChars.Road.codOf rfl (fun c q => (Z53.2.2.2.2.1 c q).2)) (fun c q => own_b16 (Z53.2.2.2.2.1 c q)) Z53.2.2.2.2.2 (Sc.ext C53.old) hzc (by decide) (by decide)) (fun _ _ _ q => ⟨by rw [q.2.1]; exact Fr.nil _, by rw [q.2.2]; exact Keep.refl _ _⟩) all0 sf0 rfl f57 (by decide) (by decide) (lenOf pd_14 rfl) rfl (Nat.le_of_ble_eq_true rfl) rfl at_423 (pc' := 426) rfl ?_
        intro T56 h56 v56 C56 K56 A56 q56
        obtain ⟨_, q56, -, -⟩ := q56
        obtain rfl : v56 = some (.int 1) := q56.elim (fun z => z.1) (fun z => absurd (rfl) z.2)
        show Endw p e below T56 (mkF m 426 #[.val (.int i0), .val (.int i1), .val (.int i2), .val (.int (i0 &&& (255 : Int32))), .val (.int (i1 &&& (255 : Int32))), .val (.int (0 : Int32)), .val (.int (0 : Int32)), .val (.int (1 : Int32)), .val (.ref dp), .val (.ref a32), .val (.ref a43), .val (.ref a46)] [(.int (1 : Int32))]) _
        exact C56.retI (t := .boolean) rfl (by simp) rfl at_426 (by decide) (by decide) rfl
    · refine Endw.st (T' := T0) (g' := (mkF m 44 #[.val (.int i0), .val (.int i1), .val (.int i2), .val (.int (i0 &&& (255 : Int32))), .val (.int (i1 &&& (255 : Int32))), .val (.int (0 : Int32)), .val (.int (1 : Int32)), .unset, .unset, .unset, .unset, .unset] [(.int (i2 &&& (4 : Int32)))])) (fun tt_ kk_ => XS.ifNo C0.here C0.hx rfl (C0.dec at_31) rfl (XT.i0_eq_f c2) (XS.iconst C0.here C0.hx rfl (C0.dec at_34) (XS.goto C0.here C0.hx rfl (pc0 := 35) rfl (C0.dec at_35) (by decide) rfl (XS.istore C0.here C0.hx rfl (C0.dec at_39) rfl (l' := #[.val (.int i0), .val (.int i1), .val (.int i2), .val (.int (i0 &&& (255 : Int32))), .val (.int (i1 &&& (255 : Int32))), .val (.int (0 : Int32)), .val (.int (1 : Int32)), .unset, .unset, .unset, .unset, .unset]) rfl (XS.iloadN C0.here C0.hx rfl (C0.dec at_41) rfl (XS.iconst C0.here C0.hx rfl (C0.dec at_42) (XS.iand C0.here C0.hx rfl (C0.dec at_43) rfl kk_))))))) ?_
      by_cases c58 : (i2 &&& (4 : Int32)) = (0 : Int32)
      · refine Endw.st (T' := T0) (g' := (mkF m 65 #[.val (.int i0), .val (.int i1), .val (.int i2), .val (.int (i0 &&& (255 : Int32))), .val (.int (i1 &&& (255 : Int32))), .val (.int (0 : Int32)), .val (.int (1 : Int32)), .val (.int (0 : Int32)), .unset, .unset, .unset, .unset] [])) (fun tt_ kk_ => XS.ifYes C0.here C0.hx rfl (pc0 := 44) rfl (C0.dec at_44) rfl (XT.i0_eq_t c58) (by decide) rfl (XS.iconst C0.here C0.hx rfl (C0.dec at_51) (XS.istore C0.here C0.hx rfl (C0.dec at_52) rfl (l' := #[.val (.int i0), .val (.int i1), .val (.int i2), .val (.int (i0 &&& (255 : Int32))), .val (.int (i1 &&& (255 : Int32))), .val (.int (0 : Int32)), .val (.int (1 : Int32)), .val (.int (0 : Int32)), .unset, .unset, .unset, .unset]) rfl (XS.iload C0.here C0.hx rfl (C0.dec at_54) rfl (XS.ifYes C0.here C0.hx rfl (pc0 := 56) rfl (C0.dec at_56) rfl (XT.i0_eq_t (by decide)) (by decide) rfl kk_))))) ?_
        refine C0.getS (W0 hw) Sp at_65 (pc' := 68) rfl ?_
        intro T59 C59
        show Endw p e below T59 (mkF m 68 #[.val (.int i0), .val (.int i1), .val (.int i2), .val (.int (i0 &&& (255 : Int32))), .val (.int (i1 &&& (255 : Int32))), .val (.int (0 : Int32)), .val (.int (1 : Int32)), .val (.int (0 : Int32)), .unset, .unset, .unset, .unset] [(.ref dp)]) _
        refine Endw.st (T' := T59) (g' := (mkF m 70 #[.val (.int i0), .val (.int i1), .val (.int i2), .val (.int (i0 &&& (255 : Int32))), .val (.int (i1 &&& (255 : Int32))), .val (.int (0 : Int32)), .val (.int (1 : Int32)), .val (.int (0 : Int32)), .val (.ref dp), .unset, .unset, .unset] [])) (fun tt_ kk_ => XS.astore C59.here C59.hx rfl (C59.dec at_68) rfl rfl (l' := #[.val (.int i0), .val (.int i1), .val (.int i2), .val (.int (i0 &&& (255 : Int32))), .val (.int (i1 &&& (255 : Int32))), .val (.int (0 : Int32)), .val (.int (1 : Int32)), .val (.int (0 : Int32)), .val (.ref dp), .unset, .unset, .unset]) rfl kk_) ?_
        refine C59.new (W3 hw) (W4 hw) (W5 hw) at_70 (pc' := 73) rfl (by decide) (by decide) ?_
        intro T60 h60 a60 C60 K60 A60 ge60 zg60 E60 D60 S60
        show Endw p e below T60 (mkF m 73 #[.val (.int i0), .val (.int i1), .val (.int i2), .val (.int (i0 &&& (255 : Int32))), .val (.int (i1 &&& (255 : Int32))), .val (.int (0 : Int32)), .val (.int (1 : Int32)), .val (.int (0 : Int32)), .val (.ref dp), .unset, .unset, .unset] [(.ref a60)]) _
        refine Endw.st (T' := T60) (g' := (mkF m 75 #[.val (.int i0), .val (.int i1), .val (.int i2), .val (.int (i0 &&& (255 : Int32))), .val (.int (i1 &&& (255 : Int32))), .val (.int (0 : Int32)), .val (.int (1 : Int32)), .val (.int (0 : Int32)), .val (.ref dp), .unset, .unset, .unset] [(.int (2 : Int32)), (.ref a60), (.ref a60)])) (fun tt_ kk_ => XS.dup C60.here C60.hx rfl (C60.dec at_73) rfl rfl (XS.iconst C60.here C60.hx rfl (C60.dec at_74) kk_)) ?_
        refine C60.newA (aty := .char) (z := (2 : Int32)) (cap := 2) (vs := [(.int 0), (.int 0)]) (W6 hw) at_75 (pc' := 77) rfl (by decide) (by decide) (by decide) (by decide) (by decide) rfl ?_
        intro T61 h61 a61 kA61 C61 K61 A61 ge61 zg61 V61 S61
        show Endw p e below T61 (mkF m 77 #[.val (.int i0), .val (.int i1), .val (.int i2), .val (.int (i0 &&& (255 : Int32))), .val (.int (i1 &&& (255 : Int32))), .val (.int (0 : Int32)), .val (.int (1 : Int32)), .val (.int (0 : Int32)), .val (.ref dp), .unset, .unset, .unset] [(.ref a61), (.ref a60), (.ref a60)]) _
        refine Endw.st (T' := T61) (g' := (mkF m 80 #[.val (.int i0), .val (.int i1), .val (.int i2), .val (.int (i0 &&& (255 : Int32))), .val (.int (i1 &&& (255 : Int32))), .val (.int (0 : Int32)), .val (.int (1 : Int32)), .val (.int (0 : Int32)), .val (.ref dp), .unset, .unset, .unset] [(.int (i0 &&& (255 : Int32))), (.int (0 : Int32)), (.ref a61), (.ref a61), (.ref a60), (.ref a60)])) (fun tt_ kk_ => XS.dup C61.here C61.hx rfl (C61.dec at_77) rfl rfl (XS.iconst C61.here C61.hx rfl (C61.dec at_78) (XS.iloadN C61.here C61.hx rfl (C61.dec at_79) rfl kk_))) ?_
        refine C61.castore V61 ⟨by decide, by decide⟩ 0 (by decide) (Nat.le_of_ble_eq_true rfl) (x' := (i0 &&& (255 : Int32))) (i2c_mask _) zg61 (vs' := [(.int (i0 &&& (255 : Int32))), (.int 0)]) rfl at_80 (pc' := 81) rfl ?_
        intro T62 h62 C62 K62 A62 V62
        show Endw p e below T62 (mkF m 81 #[.val (.int i0), .val (.int i1), .val (.int i2), .val (.int (i0 &&& (255 : Int32))), .val (.int (i1 &&& (255 : Int32))), .val (.int (0 : Int32)), .val (.int (1 : Int32)), .val (.int (0 : Int32)), .val (.ref dp), .unset, .unset, .unset] [(.ref a61), (.ref a60), (.ref a60)]) _
        refine Endw.st (T' := T62) (g' := (mkF m 85 #[.val (.int i0), .val (.int i1), .val (.int i2), .val (.int (i0 &&& (255 : Int32))), .val (.int (i1 &&& (255 : Int32))), .val (.int (0 : Int32)), .val (.int (1 : Int32)), .val (.int (0 : Int32)), .val (.ref dp), .unset, .unset, .unset] [(.int (i1 &&& (255 : Int32))), (.int (1 : Int32)), (.ref a61), (.ref a61), (.ref a60), (.ref a60)])) (fun tt_ kk_ => XS.dup C62.here C62.hx rfl (C62.dec at_81) rfl rfl (XS.iconst C62.here C62.hx rfl (C62.dec at_82) (XS.iload C62.here C62.hx rfl (C62.dec at_83) rfl kk_))) ?_
        refine C62.castore V62 ⟨by decide, by decide⟩ 1 (by decide) (Nat.le_of_ble_eq_true rfl) (x' := (i1 &&& (255 : Int32))) (i2c_mask _) zg61 (vs' := [(.int (i0 &&& (255 : Int32))), (.int (i1 &&& (255 : Int32)))]) rfl at_85 (pc' := 86) rfl ?_
        intro T63 h63 C63 K63 A63 V63
        replace K63 := Keep.trans K62 K63 (allS (Or.inl (by simp)) all0)
        replace A63 := CHr.trans A62 A63
        clear C62 V62 K62 A62 T62 h62
        show Endw p e below T63 (mkF m 86 #[.val (.int i0), .val (.int i1), .val (.int i2), .val (.int (i0 &&& (255 : Int32))), .val (.int (i1 &&& (255 : Int32))), .val (.int (0 : Int32)), .val (.int (1 : Int32)), .val (.int (0 : Int32)), .val (.ref dp), .unset, .unset, .unset] [(.ref a61), (.ref a60), (.ref a60)]) _
        have f64 := ((E60.keep K61).keep K63)
        have f65 : Fld Z h60 a60 "java/lang/String" "value" "[B" .null := D60 (Or.inr (W32 hw)) (ty := (.array .byte)) (by decide)
        have f66 := ((f65.keep K61 nin0).keep K63 (ninS (Nat.ne_of_lt (Nat.lt_of_lt_of_le E60.lt ge61)) nin0))
        have f67 : Fld Z h60 a60 "java/lang/String" "coder" "B" (.int (0 : Int32)) := D60 (Or.inr (W30 hw)) (ty := .byte) (by decide)
        have f68 := ((f67.keep K61 nin0).keep K63 (ninS (Nat.ne_of_lt (Nat.lt_of_lt_of_le E60.lt ge61)) nin0))
        have hp69 : ∀ c ∈ [(i0 &&& (255 : Int32)), (i1 &&& (255 : Int32))], B8 c := (own_cS (own_mask255 _) (own_cS (own_mask255 _) own_c0))
        have f70 := (A63.safe (Nat.lt_of_lt_of_le E60.lt K61.1) (A61.safe E60.lt S60))
        refine C63.specialF (y := (⟨"java/lang/String", "<init>", "([C)V"⟩ : MethodName)) (ws := [a60]) (W := 1) (a := a60) (argsL := [.ref a61]) (rest := [(.ref a60)]) (ck := 1) (cn := 2) rfl (W7 hw) (W8 hw) (W9 hw) (by decide) (StrChars.Road.backV (W := 1) (n := 2) (n0 := Z.heap.size) (cs := [(i0 &&& (255 : Int32)), (i1 &&& (255 : Int32))]) (bs := [(i0 &&& (255 : Int32)).toInt8.toInt32, (i1 &&& (255 : Int32)).toInt8.toInt32]) C63.warm G.w_backV (kI := 4) (W4 hw) zg60 C63.le f64 f66 f68 V63 (Sc.ext C63.old) hzc rfl rfl (by decide) (by decide) hp69 rfl (by decide) (by decide)) (fun _ _ _ q => ⟨q.2.1, q.2.2.1⟩) (allS zg60 all0) (sfS f70 sf0) rfl (by decide) (by decide) (lenOf pd_285b432956 rfl) rfl (Nat.le_of_ble_eq_true rfl) rfl at_86 (pc' := 89) rfl ?_
        intro T69 h69 v69 C69 K69 A69 q69
        obtain ⟨_, rfl, -, -, E69, F69, t69, kb69, zg69, ge69, nt69, f69, V69⟩ := q69
        have Z69 : Str Z h69 a60 t69 kb69 [(i0 &&& (255 : Int32)), (i1 &&& (255 : Int32))] := ⟨E69, F69, f69, V69, hp69, Nat.le_of_ble_eq_true rfl⟩
        show Endw p e below T69 (mkF m 89 #[.val (.int i0), .val (.int i1), .val (.int i2), .val (.int (i0 &&& (255 : Int32))), .val (.int (i1 &&& (255 : Int32))), .val (.int (0 : Int32)), .val (.int (1 : Int32)), .val (.int (0 : Int32)), .val (.ref dp), .unset, .unset, .unset] [(.ref a60)]) _
        refine Endw.st (T' := T69) (g' := (mkF m 343 #[.val (.int i0), .val (.int i1), .val (.int i2), .val (.int (i0 &&& (255 : Int32))), .val (.int (i1 &&& (255 : Int32))), .val (.int (0 : Int32)), .val (.int (1 : Int32)), .val (.int (0 : Int32)), .val (.ref dp), .val (.ref a60), .unset, .unset] [(.int (7 : Int32))])) (fun tt_ kk_ => XS.astore C69.here C69.hx rfl (C69.dec at_89) rfl rfl (l' := #[.val (.int i0), .val (.int i1), .val (.int i2), .val (.int (i0 &&& (255 : Int32))), .val (.int (i1 &&& (255 : Int32))), .val (.int (0 : Int32)), .val (.int (1 : Int32)), .val (.int (0 : Int32)), .val (.ref dp), .val (.ref a60), .unset, .unset]) rfl (XS.iload C69.here C69.hx rfl (C69.dec at_91) rfl (XS.ifYes C69.here C69.hx rfl (pc0 := 93) rfl (C69.dec at_93) rfl (XT.i0_eq_t (by decide)) (by decide) rfl (XS.iload C69.here C69.hx rfl (C69.dec at_336) rfl (XS.ifNo C69.here C69.hx rfl (C69.dec at_338) rfl (XT.i0_eq_f (by decide)) (XS.bipush C69.here C69.hx rfl (C69.dec at_341) kk_)))))) ?_
        refine C69.newA (aty := .char) (z := (7 : Int32)) (cap := 7) (vs := [(.int 0), (.int 0), (.int 0), (.int 0), (.int 0), (.int 0), (.int 0)]) (W6 hw) at_343 (pc' := 345) rfl (by decide) (by decide) (by decide) (by decide) (by decide) rfl ?_
        intro T71 h71 a71 kA71 C71 K71 A71 ge71 zg71 V71 S71
        show Endw p e below T71 (mkF m 345 #[.val (.int i0), .val (.int i1), .val (.int i2), .val (.int (i0 &&& (255 : Int32))), .val (.int (i1 &&& (255 : Int32))), .val (.int (0 : Int32)), .val (.int (1 : Int32)), .val (.int (0 : Int32)), .val (.ref dp), .val (.ref a60), .unset, .unset] [(.ref a71)]) _
        refine Endw.st (T' := T71) (g' := (mkF m 348 #[.val (.int i0), .val (.int i1), .val (.int i2), .val (.int (i0 &&& (255 : Int32))), .val (.int (i1 &&& (255 : Int32))), .val (.int (0 : Int32)), .val (.int (1 : Int32)), .val (.int (0 : Int32)), .val (.ref dp), .val (.ref a60), .unset, .unset] [(.int (i0 &&& (255 : Int32))), (.int (0 : Int32)), (.ref a71), (.ref a71)])) (fun tt_ kk_ => XS.dup C71.here C71.hx rfl (C71.dec at_345) rfl rfl (XS.iconst C71.here C71.hx rfl (C71.dec at_346) (XS.iloadN C71.here C71.hx rfl (C71.dec at_347) rfl kk_))) ?_
        refine C71.castore V71 ⟨by decide, by decide⟩ 0 (by decide) (Nat.le_of_ble_eq_true rfl) (x' := (i0 &&& (255 : Int32))) (i2c_mask _) zg71 (vs' := [(.int (i0 &&& (255 : Int32))), (.int 0), (.int 0), (.int 0), (.int 0), (.int 0), (.int 0)]) rfl at_348 (pc' := 349) rfl ?_
        intro T72 h72 C72 K72 A72 V72
        show Endw p e below T72 (mkF m 349 #[.val (.int i0), .val (.int i1), .val (.int i2), .val (.int (i0 &&& (255 : Int32))), .val (.int (i1 &&& (255 : Int32))), .val (.int (0 : Int32)), .val (.int (1 : Int32)), .val (.int (0 : Int32)), .val (.ref dp), .val (.ref a60), .unset, .unset] [(.ref a71)]) _
        refine Endw.st (T' := T72) (g' := (mkF m 353 #[.val (.int i0), .val (.int i1), .val (.int i2), .val (.int (i0 &&& (255 : Int32))), .val (.int (i1 &&& (255 : Int32))), .val (.int (0 : Int32)), .val (.int (1 : Int32)), .val (.int (0 : Int32)), .val (.ref dp), .val (.ref a60), .unset, .unset] [(.int (i1 &&& (255 : Int32))), (.int (1 : Int32)), (.ref a71), (.ref a71)])) (fun tt_ kk_ => XS.dup C72.here C72.hx rfl (C72.dec at_349) rfl rfl (XS.iconst C72.here C72.hx rfl (C72.dec at_350) (XS.iload C72.here C72.hx rfl (C72.dec at_351) rfl kk_))) ?_
        refine C72.castore V72 ⟨by decide, by decide⟩ 1 (by decide) (Nat.le_of_ble_eq_true rfl) (x' := (i1 &&& (255 : Int32))) (i2c_mask _) zg71 (vs' := [(.int (i0 &&& (255 : Int32))), (.int (i1 &&& (255 : Int32))), (.int 0), (.int 0), (.int 0), (.int 0), (.int 0)]) rfl at_353 (pc' := 354) rfl ?_
        intro T73 h73 C73 K73 A73 V73
        replace K73 := Keep.trans K72 K73 (allS (Or.inl (by simp)) all0)
        replace A73 := CHr.trans A72 A73
        clear C72 V72 K72 A72 T72 h72
        show Endw p e below T73 (mkF m 354 #[.val (.int i0), .val (.int i1), .val (.int i2), .val (.int (i0 &&& (255 : Int32))), .val (.int (i1 &&& (255 : Int32))), .val (.int (0 : Int32)), .val (.int (1 : Int32)), .val (.int (0 : Int32)), .val (.ref dp), .val (.ref a60), .unset, .unset] [(.ref a71)]) _
        refine Endw.st (T' := T73) (g' := (mkF m 358 #[.val (.int i0), .val (.int i1), .val (.int i2), .val (.int (i0 &&& (255 : Int32))), .val (.int (i1 &&& (255 : Int32))), .val (.int (0 : Int32)), .val (.int (1 : Int32)), .val (.int (0 : Int32)), .val (.ref dp), .val (.ref a60), .unset, .unset] [(.int (32 : Int32)), (.int (2 : Int32)), (.ref a71), (.ref a71)])) (fun tt_ kk_ => XS.dup C73.here C73.hx rfl (C73.dec at_354) rfl rfl (XS.iconst C73.here C73.hx rfl (C73.dec at_355) (XS.bipush C73.here C73.hx rfl (C73.dec at_356) kk_))) ?_
        refine C73.castore V73 ⟨by decide, by decide⟩ 2 (by decide) (Nat.le_of_ble_eq_true rfl) (x' := (32 : Int32)) (by decide) zg71 (vs' := [(.int (i0 &&& (255 : Int32))), (.int (i1 &&& (255 : Int32))), (.int (32 : Int32)), (.int 0), (.int 0), (.int 0), (.int 0)]) rfl at_358 (pc' := 359) rfl ?_
        intro T74 h74 C74 K74 A74 V74
        replace K74 := Keep.trans K73 K74 (allS (Or.inl (by simp)) all0)
        replace A74 := CHr.trans A73 A74
        clear C73 V73 K73 A73 T73 h73
        show Endw p e below T74 (mkF m 359 #[.val (.int i0), .val (.int i1), .val (.int i2), .val (.int (i0 &&& (255 : Int32))), .val (.int (i1 &&& (255 : Int32))), .val (.int (0 : Int32)), .val (.int (1 : Int32)), .val (.int (0 : Int32)), .val (.ref dp), .val (.ref a60), .unset, .unset] [(.ref a71)]) _
        refine Endw.st (T' := T74) (g' := (mkF m 363 #[.val (.int i0), .val (.int i1), .val (.int i2), .val (.int (i0 &&& (255 : Int32))), .val (.int (i1 &&& (255 : Int32))), .val (.int (0 : Int32)), .val (.int (1 : Int32)), .val (.int (0 : Int32)), .val (.ref dp), .val (.ref a60), .unset, .unset] [(.int (100 : Int32)), (.int (3 : Int32)), (.ref a71), (.ref a71)])) (fun tt_ kk_ => XS.dup C74.here C74.hx rfl (C74.dec at_359) rfl rfl (XS.iconst C74.here C74.hx rfl (C74.dec at_360) (XS.bipush C74.here C74.hx rfl (C74.dec at_361) kk_))) ?_
        refine C74.castore V74 ⟨by decide, by decide⟩ 3 (by decide) (Nat.le_of_ble_eq_true rfl) (x' := (100 : Int32)) (by decide) zg71 (vs' := [(.int (i0 &&& (255 : Int32))), (.int (i1 &&& (255 : Int32))), (.int (32 : Int32)), (.int (100 : Int32)), (.int 0), (.int 0), (.int 0)]) rfl at_363 (pc' := 364) rfl ?_
        intro T75 h75 C75 K75 A75 V75
        replace K75 := Keep.trans K74 K75 (allS (Or.inl (by simp)) all0)
        replace A75 := CHr.trans A74 A75
        clear C74 V74 K74 A74 T74 h74
        show Endw p e below T75 (mkF m 364 #[.val (.int i0), .val (.int i1), .val (.int i2), .val (.int (i0 &&& (255 : Int32))), .val (.int (i1 &&& (255 : Int32))), .val (.int (0 : Int32)), .val (.int (1 : Int32)), .val (.int (0 : Int32)), .val (.ref dp), .val (.ref a60), .unset, .unset] [(.ref a71)]) _
        refine Endw.st (T' := T75) (g' := (mkF m 368 #[.val (.int i0), .val (.int i1), .val (.int i2), .val (.int (i0 &&& (255 : Int32))), .val (.int (i1 &&& (255 : Int32))), .val (.int (0 : Int32)), .val (.int (1 : Int32)), .val (.int (0 : Int32)), .val (.ref dp), .val (.ref a60), .unset, .unset] [(.int (101 : Int32)), (.int (4 : Int32)), (.ref a71), (.ref a71)])) (fun tt_ kk_ => XS.dup C75.here C75.hx rfl (C75.dec at_364) rfl rfl (XS.iconst C75.here C75.hx rfl (C75.dec at_365) (XS.bipush C75.here C75.hx rfl (C75.dec at_366) kk_))) ?_
        refine C75.castore V75 ⟨by decide, by decide⟩ 4 (by decide) (Nat.le_of_ble_eq_true rfl) (x' := (101 : Int32)) (by decide) zg71 (vs' := [(.int (i0 &&& (255 : Int32))), (.int (i1 &&& (255 : Int32))), (.int (32 : Int32)), (.int (100 : Int32)), (.int (101 : Int32)), (.int 0), (.int 0)]) rfl at_368 (pc' := 369) rfl ?_
        intro T76 h76 C76 K76 A76 V76
        replace K76 := Keep.trans K75 K76 (allS (Or.inl (by simp)) all0)
        replace A76 := CHr.trans A75 A76
        clear C75 V75 K75 A75 T75 h75
        show Endw p e below T76 (mkF m 369 #[.val (.int i0), .val (.int i1), .val (.int i2), .val (.int (i0 &&& (255 : Int32))), .val (.int (i1 &&& (255 : Int32))), .val (.int (0 : Int32)), .val (.int (1 : Int32)), .val (.int (0 : Int32)), .val (.ref dp), .val (.ref a60), .unset, .unset] [(.ref a71)]) _
        refine Endw.st (T' := T76) (g' := (mkF m 373 #[.val (.int i0), .val (.int i1), .val (.int i2), .val (.int (i0 &&& (255 : Int32))), .val (.int (i1 &&& (255 : Int32))), .val (.int (0 : Int32)), .val (.int (1 : Int32)), .val (.int (0 : Int32)), .val (.ref dp), .val (.ref a60), .unset, .unset] [(.int (115 : Int32)), (.int (5 : Int32)), (.ref a71), (.ref a71)])) (fun tt_ kk_ => XS.dup C76.here C76.hx rfl (C76.dec at_369) rfl rfl (XS.iconst C76.here C76.hx rfl (C76.dec at_370) (XS.bipush C76.here C76.hx rfl (C76.dec at_371) kk_))) ?_
        refine C76.castore V76 ⟨by decide, by decide⟩ 5 (by decide) (Nat.le_of_ble_eq_true rfl) (x' := (115 : Int32)) (by decide) zg71 (vs' := [(.int (i0 &&& (255 : Int32))), (.int (i1 &&& (255 : Int32))), (.int (32 : Int32)), (.int (100 : Int32)), (.int (101 : Int32)), (.int (115 : Int32)), (.int 0)]) rfl at_373 (pc' := 374) rfl ?_
        intro T77 h77 C77 K77 A77 V77
        replace K77 := Keep.trans K76 K77 (allS (Or.inl (by simp)) all0)
        replace A77 := CHr.trans A76 A77
        clear C76 V76 K76 A76 T76 h76
        show Endw p e below T77 (mkF m 374 #[.val (.int i0), .val (.int i1), .val (.int i2), .val (.int (i0 &&& (255 : Int32))), .val (.int (i1 &&& (255 : Int32))), .val (.int (0 : Int32)), .val (.int (1 : Int32)), .val (.int (0 : Int32)), .val (.ref dp), .val (.ref a60), .unset, .unset] [(.ref a71)]) _
        refine Endw.st (T' := T77) (g' := (mkF m 379 #[.val (.int i0), .val (.int i1), .val (.int i2), .val (.int (i0 &&& (255 : Int32))), .val (.int (i1 &&& (255 : Int32))), .val (.int (0 : Int32)), .val (.int (1 : Int32)), .val (.int (0 : Int32)), .val (.ref dp), .val (.ref a60), .unset, .unset] [(.int (99 : Int32)), (.int (6 : Int32)), (.ref a71), (.ref a71)])) (fun tt_ kk_ => XS.dup C77.here C77.hx rfl (C77.dec at_374) rfl rfl (XS.bipush C77.here C77.hx rfl (C77.dec at_375) (XS.bipush C77.here C77.hx rfl (C77.dec at_377) kk_))) ?_
        refine C77.castore V77 ⟨by decide, by decide⟩ 6 (by decide) (Nat.le_of_ble_eq_true rfl) (x' := (99 : Int32)) (by decide) zg71 (vs' := [(.int (i0 &&& (255 : Int32))), (.int (i1 &&& (255 : Int32))), (.int (32 : Int32)), (.int (100 : Int32)), (.int (101 : Int32)), (.int (115 : Int32)), (.int (99 : Int32))]) rfl at_379 (pc' := 380) rfl ?_
        intro T78 h78 C78 K78 A78 V78
        replace K78 := Keep.trans K77 K78 (allS (Or.inl (by simp)) all0)
        replace A78 := CHr.trans A77 A78
        clear C77 V77 K77 A77 T77 h77
        show Endw p e below T78 (mkF m 380 #[.val (.int i0), .val (.int i1), .val (.int i2), .val (.int (i0 &&& (255 : Int32))), .val (.int (i1 &&& (255 : Int32))), .val (.int (0 : Int32)), .val (.int (1 : Int32)), .val (.int (0 : Int32)), .val (.ref dp), .val (.ref a60), .unset, .unset] [(.ref a71)]) _
        refine Endw.st (T' := T78) (g' := (mkF m 399 #[.val (.int i0), .val (.int i1), .val (.int i2), .val (.int (i0 &&& (255 : Int32))), .val (.int (i1 &&& (255 : Int32))), .val (.int (0 : Int32)), .val (.int (1 : Int32)), .val (.int (0 : Int32)), .val (.ref dp), .val (.ref a60), .val (.ref a71), .unset] [])) (fun tt_ kk_ => XS.astore C78.here C78.hx rfl (C78.dec at_380) rfl rfl (l' := #[.val (.int i0), .val (.int i1), .val (.int i2), .val (.int (i0 &&& (255 : Int32))), .val (.int (i1 &&& (255 : Int32))), .val (.int (0 : Int32)), .val (.int (1 : Int32)), .val (.int (0 : Int32)), .val (.ref dp), .val (.ref a60), .val (.ref a71), .unset]) rfl (XS.goto C78.here C78.hx rfl (pc0 := 382) rfl (C78.dec at_382) (by decide) rfl kk_)) ?_
        refine C78.new (W3 hw) (W4 hw) (W5 hw) at_399 (pc' := 402) rfl (by decide) (by decide) ?_
        intro T79 h79 a79 C79 K79 A79 ge79 zg79 E79 D79 S79
        show Endw p e below T79 (mkF m 402 #[.val (.int i0), .val (.int i1), .val (.int i2), .val (.int (i0 &&& (255 : Int32))), .val (.int (i1 &&& (255 : Int32))), .val (.int (0 : Int32)), .val (.int (1 : Int32)), .val (.int (0 : Int32)), .val (.ref dp), .val (.ref a60), .val (.ref a71), .unset] [(.ref a79)]) _
        refine Endw.st (T' := T79) (g' := (mkF m 405 #[.val (.int i0), .val (.int i1), .val (.int i2), .val (.int (i0 &&& (255 : Int32))), .val (.int (i1 &&& (255 : Int32))), .val (.int (0 : Int32)), .val (.int (1 : Int32)), .val (.int (0 : Int32)), .val (.ref dp), .val (.ref a60), .val (.ref a71), .unset] [(.ref a71), (.ref a79), (.ref a79)])) (fun tt_ kk_ => XS.dup C79.here C79.hx rfl (C79.dec at_402) rfl rfl (XS.aload C79.here C79.hx rfl (C79.dec at_403) rfl rfl kk_)) ?_
        have f80 := (V78.keep K79 nin0)
        have f81 : Fld Z h79 a79 "java/lang/String" "value" "[B" .null := D79 (Or.inr (W32 hw)) (ty := (.array .byte)) (by decide)
        have f82 : Fld Z h79 a79 "java/lang/String" "coder" "B" (.int (0 : Int32)) := D79 (Or.inr (W30 hw)) (ty := .byte) (by decide)
        have hp83 : ∀ c ∈ [(i0 &&& (255 : Int32)), (i1 &&& (255 : Int32)), (32 : Int32), (100 : Int32), (101 : Int32), (115 : Int32), (99 : Int32)], B8 c := (own_cS (own_mask255 _) (own_cS (own_mask255 _) (own_cS ⟨by decide, by decide⟩ (own_cS ⟨by decide, by decide⟩ (own_cS ⟨by decide, by decide⟩ (own_cS ⟨by decide, by decide⟩ (own_cS ⟨by decide, by decide⟩ own_c0)))))))
        refine C79.specialF (y := (⟨"java/lang/String", "<init>", "([C)V"⟩ : MethodName)) (ws := [a79]) (W := 1) (a := a79) (argsL := [.ref a71]) (rest := [(.ref a79)]) (ck := 1) (cn := 7) rfl (W7 hw) (W8 hw) (W9 hw) (by decide) (StrChars.Road.backV (W := 1) (n := 7) (n0 := Z.heap.size) (cs := [(i0 &&& (255 : Int32)), (i1 &&& (255 : Int32)), (32 : Int32), (100 : Int32), (101 : Int32), (115 : Int32), (99 : Int32)]) (bs := [(i0 &&& (255 : Int32)).toInt8.toInt32, (i1 &&& (255 : Int32)).toInt8.toInt32, (32 : Int32).toInt8.toInt32, (100 : Int32).toInt8.toInt32, (101 : Int32).toInt8.toInt32, (115 : Int32).toInt8.toInt32, (99 : Int32).toInt8.toInt32]) C79.warm G.w_backV (kI := 4) (W4 hw) zg79 C79.le E79 f81 f82 f80 (Sc.ext C79.old) hzc rfl rfl (by decide) (by decide) hp83 rfl (by decide) (by decide)) (fun _ _ _ q => ⟨q.2.1, q.2.2.1⟩) (allS zg79 all0) (sfS S79 sf0) rfl (by decide) (by decide) (lenOf pd_285b432956 rfl) rfl (Nat.le_of_ble_eq_true rfl) rfl at_405 (pc' := 408) rfl ?_
        intro T83 h83 v83 C83 K83 A83 q83
        obtain ⟨_, rfl, -, -, E83, F83, t83, kb83, zg83, ge83, nt83, f83, V83⟩ := q83
        have Z83 : Str Z h83 a79 t83 kb83 [(i0 &&& (255 : Int32)), (i1 &&& (255 : Int32)), (32 : Int32), (100 : Int32), (101 : Int32), (115 : Int32), (99 : Int32)] := ⟨E83, F83, f83, V83, hp83, Nat.le_of_ble_eq_true rfl⟩
        show Endw p e below T83 (mkF m 408 #[.val (.int i0), .val (.int i1), .val (.int i2), .val (.int (i0 &&& (255 : Int32))), .val (.int (i1 &&& (255 : Int32))), .val (.int (0 : Int32)), .val (.int (1 : Int32)), .val (.int (0 : Int32)), .val (.ref dp), .val (.ref a60), .val (.ref a71), .unset] [(.ref a79)]) _
        refine Endw.st (T' := T83) (g' := (mkF m 420 #[.val (.int i0), .val (.int i1), .val (.int i2), .val (.int (i0 &&& (255 : Int32))), .val (.int (i1 &&& (255 : Int32))), .val (.int (0 : Int32)), .val (.int (1 : Int32)), .val (.int (0 : Int32)), .val (.ref dp), .val (.ref a60), .val (.ref a71), .val (.ref a79)] [(.int (0 : Int32)), (.int (1 : Int32)), (.ref a60), (.ref dp), (.ref a79)])) (fun tt_ kk_ => XS.astore C83.here C83.hx rfl (C83.dec at_408) rfl rfl (l' := #[.val (.int i0), .val (.int i1), .val (.int i2), .val (.int (i0 &&& (255 : Int32))), .val (.int (i1 &&& (255 : Int32))), .val (.int (0 : Int32)), .val (.int (1 : Int32)), .val (.int (0 : Int32)), .val (.ref dp), .val (.ref a60), .val (.ref a71), .val (.ref a79)]) rfl (XS.aload C83.here C83.hx rfl (C83.dec at_410) rfl rfl (XS.aload C83.here C83.hx rfl (C83.dec at_412) rfl rfl (XS.aload C83.here C83.hx rfl (C83.dec at_414) rfl rfl (XS.iload C83.here C83.hx rfl (C83.dec at_416) rfl (XS.iload C83.here C83.hx rfl (C83.dec at_418) rfl kk_)))))) ?_
        have f84 := (((((((((Fp.ext O).keep K60 nin0).keep K61 nin0).keep K63 (ninS (Nat.ne_of_lt (Nat.lt_of_lt_of_le (Nat.lt_of_lt_of_le (Ep.ext O).lt K60.1) ge61)) nin0)).keep K69 (ninS (Nat.ne_of_lt (Nat.lt_of_lt_of_le (Ep.ext O).lt ge60)) nin0)).keep K71 nin0).keep K78 (ninS (Nat.ne_of_lt (Nat.lt_of_lt_of_le (Nat.lt_of_lt_of_le (Ep.ext O).lt (Nat.le_trans K60.1 (Nat.le_trans K61.1 (Nat.le_trans K63.1 K69.1)))) ge71)) nin0)).keep K79 nin0).keep K83 (ninS (Nat.ne_of_lt (Nat.lt_of_lt_of_le (Nat.lt_of_lt_of_le (Ep.ext O).lt (Nat.le_trans K60.1 (Nat.le_trans K61.1 (Nat.le_trans K63.1 (Nat.le_trans K69.1 (Nat.le_trans K71.1 K78.1)))))) ge79)) nin0))
        have f85 := ((((Z69.keep K71 nin0 nin0).keep K78 (ninS (Nat.ne_of_lt (Nat.lt_of_lt_of_le (Nat.lt_of_lt_of_le E60.lt (Nat.le_trans K61.1 (Nat.le_trans K63.1 K69.1))) ge71)) nin0) (ninS (Nat.ne_of_lt (Nat.lt_of_lt_of_le V69.lt ge71)) nin0)).keep K79 nin0 nin0).keep K83 (ninS (Nat.ne_of_lt (Nat.lt_of_lt_of_le (Nat.lt_of_lt_of_le E60.lt (Nat.le_trans K61.1 (Nat.le_trans K63.1 (Nat.le_trans K69.1 (Nat.le_trans K71.1 K78.1))))) ge79)) nin0) (ninS (Nat.ne_of_lt (Nat.lt_of_lt_of_le (Nat.lt_of_lt_of_le V69.lt (Nat.le_trans K71.1 K78.1)) ge79)) nin0))
        have f87 := (((((((((Ep.ext O).keep K60).keep K61).keep K63).keep K69).keep K71).keep K78).keep K79).keep K83)
        refine C83.virtual (y := (⟨"com/example/frugal_orm/frugalorm/Dialect", "orderItems", "(Ljava/lang/String;ZZ)Ljava/lang/String;"⟩ : MethodName)) (z := (⟨"com/example/frugal_orm/frugalorm/Dialect", "orderItems", "(Ljava/lang/String;ZZ)Ljava/lang/String;"⟩ : MethodName)) (W := 1) (a := dp) (argsL := [(.ref a60), (.int (1 : Int32)), (.int (0 : Int32))]) (rest := [(.ref a79)]) (W33 hw) (W34 hw) (fun _ q => notFace_of_selects (args := #[]) (mvT q (W36 hw))) (W36 hw) (W35 hw) (W37 hw) (W1 hw) (by decide) (rm_oi100 l Z a0 EL G dp a60 t69 kb69 (i0 &&& (255 : Int32)) (i1 &&& (255 : Int32)) h83 C83.old f84 f85) (fun z => nomatch z) rfl f87 all0 (by decide) (by decide) (by decide) (by decide) (lenOf pd_19 rfl) rfl (Nat.le_of_ble_eq_true rfl) rfl at_420 (pc' := 423) rfl ?_
        intro vm86 T86 h86 v86 C86 A86 M86 q86
        obtain ⟨a86, t86, kb86, rfl, K86, ge86, gt86, zg86, zt86, Z86⟩ := q86
        show Endw p e below T86 (mkF m 423 #[.val (.int i0), .val (.int i1), .val (.int i2), .val (.int (i0 &&& (255 : Int32))), .val (.int (i1 &&& (255 : Int32))), .val (.int (0 : Int32)), .val (.int (1 : Int32)), .val (.int (0 : Int32)), .val (.ref dp), .val (.ref a60), .val (.ref a71), .val (.ref a79)] [(.ref a86), (.ref a79)]) _
        have f88 := (Z83.keep K86 nin0 nin0)
        have f90 := (E83.keep K86)
        refine C86.virtualF (y := (⟨"java/lang/String", "equals", "(Ljava/lang/Object;)Z"⟩ : MethodName)) (z := (⟨"java/lang/String", "equals", "(Ljava/lang/Object;)Z"⟩ : MethodName)) (ws := []) (W := 0) (a := a79) (argsL := [.ref a86]) (rest := []) (ck := 0) (cn := 0) (Qf := fun v h' L => ((v = some (.int 1) ∧ [(i0 &&& (255 : Int32)), (i1 &&& (255 : Int32)), (32 : Int32), (100 : Int32), (101 : Int32), (115 : Int32), (99 : Int32)] = (([] ++ [(i0 &&& (255 : Int32)), (i1 &&& (255 : Int32))]) ++ [(32 : Int32), (100 : Int32), (101 : Int32), (115 : Int32), (99 : Int32)])) ∨ (v = some (.int 0) ∧ ¬ [(i0 &&& (255 : Int32)), (i1 &&& (255 : Int32)), (32 : Int32), (100 : Int32), (101 : Int32), (115 : Int32), (99 : Int32)] = (([] ++ [(i0 &&& (255 : Int32)), (i1 &&& (255 : Int32))]) ++ [(32 : Int32), (100 : Int32), (101 : Int32), (115 : Int32), (99 : Int32)]))) ∧ L = [] ∧ h' = h86) (W151 hw) (W152 hw) (fun _ q => notFace_of_selects (args := #[]) (mvT q (W154 hw))) (W154 hw) (W153 hw) (by decide) (StrChars.Road.eqW (W := 0) (cs := [(i0 &&& (255 : Int32)), (i1 &&& (255 : Int32)), (32 : Int32), (100 : Int32), (101 : Int32), (115 : Int32), (99 : Int32)]) (ds := (([] ++ [(i0 &&& (255 : Int32)), (i1 &&& (255 : Int32))]) ++ [(32 : Int32), (100 : Int32), (101 : Int32), (115 : Int32), (99 : Int32)])) C86.warm G.w_eqW (kI := 4) (W4 hw) f88.1 f88.2.2.1 f88.2.1 f88.2.2.2.1 (StrChars.Road.codOf rfl (fun c q => (f88.2.2.2.2.1 c q).2)) (fun c q => own_b16 (f88.2.2.2.2.1 c q)) f88.2.2.2.2.2 Z86.1 Z86.2.2.1 Z86.2.1 Z86.2.2.2.1 (StrChars.Road.codOf rfl (fun c q => (Z86.2.2.2.2.1 c q).2)) (fun c q => own_b16 (Z86.2.2.2.2.1 c q)) Z86.2.2.2.2.2 (Sc.ext C86.old) hzc (by decide) (by decide)) (fun _ _ _ q => ⟨by rw [q.2.1]; exact Fr.nil _, by rw [q.2.2]; exact Keep.refl _ _⟩) all0 sf0 rfl f90 (by decide) (by decide) (lenOf pd_14 rfl) rfl (Nat.le_of_ble_eq_true rfl) rfl at_423 (pc' := 426) rfl ?_
        intro T89 h89 v89 C89 K89 A89 q89
        obtain ⟨_, q89, -, -⟩ := q89
        obtain rfl : v89 = some (.int 1) := q89.elim (fun z => z.1) (fun z => absurd (rfl) z.2)
        show Endw p e below T89 (mkF m 426 #[.val (.int i0), .val (.int i1), .val (.int i2), .val (.int (i0 &&& (255 : Int32))), .val (.int (i1 &&& (255 : Int32))), .val (.int (0 : Int32)), .val (.int (1 : Int32)), .val (.int (0 : Int32)), .val (.ref dp), .val (.ref a60), .val (.ref a71), .val (.ref a79)] [(.int (1 : Int32))]) _
        exact C89.retI (t := .boolean) rfl (by simp) rfl at_426 (by decide) (by decide) rfl
      · refine Endw.st (T' := T0) (g' := (mkF m 65 #[.val (.int i0), .val (.int i1), .val (.int i2), .val (.int (i0 &&& (255 : Int32))), .val (.int (i1 &&& (255 : Int32))), .val (.int (0 : Int32)), .val (.int (1 : Int32)), .val (.int (1 : Int32)), .unset, .unset, .unset, .unset] [])) (fun tt_ kk_ => XS.ifNo C0.here C0.hx rfl (C0.dec at_44) rfl (XT.i0_eq_f c58) (XS.iconst C0.here C0.hx rfl (C0.dec at_47) (XS.goto C0.here C0.hx rfl (pc0 := 48) rfl (C0.dec at_48) (by decide) rfl (XS.istore C0.here C0.hx rfl (C0.dec at_52) rfl (l' := #[.val (.int i0), .val (.int i1), .val (.int i2), .val (.int (i0 &&& (255 : Int32))), .val (.int (i1 &&& (255 : Int32))), .val (.int (0 : Int32)), .val (.int (1 : Int32)), .val (.int (1 : Int32)), .unset, .unset, .unset, .unset]) rfl (XS.iload C0.here C0.hx rfl (C0.dec at_54) rfl (XS.ifYes C0.here C0.hx rfl (pc0 := 56) rfl (C0.dec at_56) rfl (XT.i0_eq_t (by decide)) (by decide) rfl kk_)))))) ?_
        refine C0.getS (W0 hw) Sp at_65 (pc' := 68) rfl ?_
        intro T91 C91
        show Endw p e below T91 (mkF m 68 #[.val (.int i0), .val (.int i1), .val (.int i2), .val (.int (i0 &&& (255 : Int32))), .val (.int (i1 &&& (255 : Int32))), .val (.int (0 : Int32)), .val (.int (1 : Int32)), .val (.int (1 : Int32)), .unset, .unset, .unset, .unset] [(.ref dp)]) _
        refine Endw.st (T' := T91) (g' := (mkF m 70 #[.val (.int i0), .val (.int i1), .val (.int i2), .val (.int (i0 &&& (255 : Int32))), .val (.int (i1 &&& (255 : Int32))), .val (.int (0 : Int32)), .val (.int (1 : Int32)), .val (.int (1 : Int32)), .val (.ref dp), .unset, .unset, .unset] [])) (fun tt_ kk_ => XS.astore C91.here C91.hx rfl (C91.dec at_68) rfl rfl (l' := #[.val (.int i0), .val (.int i1), .val (.int i2), .val (.int (i0 &&& (255 : Int32))), .val (.int (i1 &&& (255 : Int32))), .val (.int (0 : Int32)), .val (.int (1 : Int32)), .val (.int (1 : Int32)), .val (.ref dp), .unset, .unset, .unset]) rfl kk_) ?_
        refine C91.new (W3 hw) (W4 hw) (W5 hw) at_70 (pc' := 73) rfl (by decide) (by decide) ?_
        intro T92 h92 a92 C92 K92 A92 ge92 zg92 E92 D92 S92
        show Endw p e below T92 (mkF m 73 #[.val (.int i0), .val (.int i1), .val (.int i2), .val (.int (i0 &&& (255 : Int32))), .val (.int (i1 &&& (255 : Int32))), .val (.int (0 : Int32)), .val (.int (1 : Int32)), .val (.int (1 : Int32)), .val (.ref dp), .unset, .unset, .unset] [(.ref a92)]) _
        refine Endw.st (T' := T92) (g' := (mkF m 75 #[.val (.int i0), .val (.int i1), .val (.int i2), .val (.int (i0 &&& (255 : Int32))), .val (.int (i1 &&& (255 : Int32))), .val (.int (0 : Int32)), .val (.int (1 : Int32)), .val (.int (1 : Int32)), .val (.ref dp), .unset, .unset, .unset] [(.int (2 : Int32)), (.ref a92), (.ref a92)])) (fun tt_ kk_ => XS.dup C92.here C92.hx rfl (C92.dec at_73) rfl rfl (XS.iconst C92.here C92.hx rfl (C92.dec at_74) kk_)) ?_
        refine C92.newA (aty := .char) (z := (2 : Int32)) (cap := 2) (vs := [(.int 0), (.int 0)]) (W6 hw) at_75 (pc' := 77) rfl (by decide) (by decide) (by decide) (by decide) (by decide) rfl ?_
        intro T93 h93 a93 kA93 C93 K93 A93 ge93 zg93 V93 S93
        show Endw p e below T93 (mkF m 77 #[.val (.int i0), .val (.int i1), .val (.int i2), .val (.int (i0 &&& (255 : Int32))), .val (.int (i1 &&& (255 : Int32))), .val (.int (0 : Int32)), .val (.int (1 : Int32)), .val (.int (1 : Int32)), .val (.ref dp), .unset, .unset, .unset] [(.ref a93), (.ref a92), (.ref a92)]) _
        refine Endw.st (T' := T93) (g' := (mkF m 80 #[.val (.int i0), .val (.int i1), .val (.int i2), .val (.int (i0 &&& (255 : Int32))), .val (.int (i1 &&& (255 : Int32))), .val (.int (0 : Int32)), .val (.int (1 : Int32)), .val (.int (1 : Int32)), .val (.ref dp), .unset, .unset, .unset] [(.int (i0 &&& (255 : Int32))), (.int (0 : Int32)), (.ref a93), (.ref a93), (.ref a92), (.ref a92)])) (fun tt_ kk_ => XS.dup C93.here C93.hx rfl (C93.dec at_77) rfl rfl (XS.iconst C93.here C93.hx rfl (C93.dec at_78) (XS.iloadN C93.here C93.hx rfl (C93.dec at_79) rfl kk_))) ?_
        refine C93.castore V93 ⟨by decide, by decide⟩ 0 (by decide) (Nat.le_of_ble_eq_true rfl) (x' := (i0 &&& (255 : Int32))) (i2c_mask _) zg93 (vs' := [(.int (i0 &&& (255 : Int32))), (.int 0)]) rfl at_80 (pc' := 81) rfl ?_
        intro T94 h94 C94 K94 A94 V94
        show Endw p e below T94 (mkF m 81 #[.val (.int i0), .val (.int i1), .val (.int i2), .val (.int (i0 &&& (255 : Int32))), .val (.int (i1 &&& (255 : Int32))), .val (.int (0 : Int32)), .val (.int (1 : Int32)), .val (.int (1 : Int32)), .val (.ref dp), .unset, .unset, .unset] [(.ref a93), (.ref a92), (.ref a92)]) _
        refine Endw.st (T' := T94) (g' := (mkF m 85 #[.val (.int i0), .val (.int i1), .val (.int i2), .val (.int (i0 &&& (255 : Int32))), .val (.int (i1 &&& (255 : Int32))), .val (.int (0 : Int32)), .val (.int (1 : Int32)), .val (.int (1 : Int32)), .val (.ref dp), .unset, .unset, .unset] [(.int (i1 &&& (255 : Int32))), (.int (1 : Int32)), (.ref a93), (.ref a93), (.ref a92), (.ref a92)])) (fun tt_ kk_ => XS.dup C94.here C94.hx rfl (C94.dec at_81) rfl rfl (XS.iconst C94.here C94.hx rfl (C94.dec at_82) (XS.iload C94.here C94.hx rfl (C94.dec at_83) rfl kk_))) ?_
        refine C94.castore V94 ⟨by decide, by decide⟩ 1 (by decide) (Nat.le_of_ble_eq_true rfl) (x' := (i1 &&& (255 : Int32))) (i2c_mask _) zg93 (vs' := [(.int (i0 &&& (255 : Int32))), (.int (i1 &&& (255 : Int32)))]) rfl at_85 (pc' := 86) rfl ?_
        intro T95 h95 C95 K95 A95 V95
        replace K95 := Keep.trans K94 K95 (allS (Or.inl (by simp)) all0)
        replace A95 := CHr.trans A94 A95
        clear C94 V94 K94 A94 T94 h94
        show Endw p e below T95 (mkF m 86 #[.val (.int i0), .val (.int i1), .val (.int i2), .val (.int (i0 &&& (255 : Int32))), .val (.int (i1 &&& (255 : Int32))), .val (.int (0 : Int32)), .val (.int (1 : Int32)), .val (.int (1 : Int32)), .val (.ref dp), .unset, .unset, .unset] [(.ref a93), (.ref a92), (.ref a92)]) _
        have f96 := ((E92.keep K93).keep K95)
        have f97 : Fld Z h92 a92 "java/lang/String" "value" "[B" .null := D92 (Or.inr (W32 hw)) (ty := (.array .byte)) (by decide)
        have f98 := ((f97.keep K93 nin0).keep K95 (ninS (Nat.ne_of_lt (Nat.lt_of_lt_of_le E92.lt ge93)) nin0))
        have f99 : Fld Z h92 a92 "java/lang/String" "coder" "B" (.int (0 : Int32)) := D92 (Or.inr (W30 hw)) (ty := .byte) (by decide)
        have f100 := ((f99.keep K93 nin0).keep K95 (ninS (Nat.ne_of_lt (Nat.lt_of_lt_of_le E92.lt ge93)) nin0))
        have hp101 : ∀ c ∈ [(i0 &&& (255 : Int32)), (i1 &&& (255 : Int32))], B8 c := (own_cS (own_mask255 _) (own_cS (own_mask255 _) own_c0))
        have f102 := (A95.safe (Nat.lt_of_lt_of_le E92.lt K93.1) (A93.safe E92.lt S92))
        refine C95.specialF (y := (⟨"java/lang/String", "<init>", "([C)V"⟩ : MethodName)) (ws := [a92]) (W := 1) (a := a92) (argsL := [.ref a93]) (rest := [(.ref a92)]) (ck := 1) (cn := 2) rfl (W7 hw) (W8 hw) (W9 hw) (by decide) (StrChars.Road.backV (W := 1) (n := 2) (n0 := Z.heap.size) (cs := [(i0 &&& (255 : Int32)), (i1 &&& (255 : Int32))]) (bs := [(i0 &&& (255 : Int32)).toInt8.toInt32, (i1 &&& (255 : Int32)).toInt8.toInt32]) C95.warm G.w_backV (kI := 4) (W4 hw) zg92 C95.le f96 f98 f100 V95 (Sc.ext C95.old) hzc rfl rfl (by decide) (by decide) hp101 rfl (by decide) (by decide)) (fun _ _ _ q => ⟨q.2.1, q.2.2.1⟩) (allS zg92 all0) (sfS f102 sf0) rfl (by decide) (by decide) (lenOf pd_285b432956 rfl) rfl (Nat.le_of_ble_eq_true rfl) rfl at_86 (pc' := 89) rfl ?_
        intro T101 h101 v101 C101 K101 A101 q101
        obtain ⟨_, rfl, -, -, E101, F101, t101, kb101, zg101, ge101, nt101, f101, V101⟩ := q101
        have Z101 : Str Z h101 a92 t101 kb101 [(i0 &&& (255 : Int32)), (i1 &&& (255 : Int32))] := ⟨E101, F101, f101, V101, hp101, Nat.le_of_ble_eq_true rfl⟩
        show Endw p e below T101 (mkF m 89 #[.val (.int i0), .val (.int i1), .val (.int i2), .val (.int (i0 &&& (255 : Int32))), .val (.int (i1 &&& (255 : Int32))), .val (.int (0 : Int32)), .val (.int (1 : Int32)), .val (.int (1 : Int32)), .val (.ref dp), .unset, .unset, .unset] [(.ref a92)]) _
        refine Endw.st (T' := T101) (g' := (mkF m 343 #[.val (.int i0), .val (.int i1), .val (.int i2), .val (.int (i0 &&& (255 : Int32))), .val (.int (i1 &&& (255 : Int32))), .val (.int (0 : Int32)), .val (.int (1 : Int32)), .val (.int (1 : Int32)), .val (.ref dp), .val (.ref a92), .unset, .unset] [(.int (7 : Int32))])) (fun tt_ kk_ => XS.astore C101.here C101.hx rfl (C101.dec at_89) rfl rfl (l' := #[.val (.int i0), .val (.int i1), .val (.int i2), .val (.int (i0 &&& (255 : Int32))), .val (.int (i1 &&& (255 : Int32))), .val (.int (0 : Int32)), .val (.int (1 : Int32)), .val (.int (1 : Int32)), .val (.ref dp), .val (.ref a92), .unset, .unset]) rfl (XS.iload C101.here C101.hx rfl (C101.dec at_91) rfl (XS.ifNo C101.here C101.hx rfl (C101.dec at_93) rfl (XT.i0_eq_f (by decide)) (XS.iload C101.here C101.hx rfl (C101.dec at_96) rfl (XS.ifYes C101.here C101.hx rfl (pc0 := 98) rfl (C101.dec at_98) rfl (XT.i0_eq_t (by decide)) (by decide) rfl (XS.iload C101.here C101.hx rfl (C101.dec at_336) rfl (XS.ifNo C101.here C101.hx rfl (C101.dec at_338) rfl (XT.i0_eq_f (by decide)) (XS.bipush C101.here C101.hx rfl (C101.dec at_341) kk_)))))))) ?_
        refine C101.newA (aty := .char) (z := (7 : Int32)) (cap := 7) (vs := [(.int 0), (.int 0), (.int 0), (.int 0), (.int 0), (.int 0), (.int 0)]) (W6 hw) at_343 (pc' := 345) rfl (by decide) (by decide) (by decide) (by decide) (by decide) rfl ?_
        intro T103 h103 a103 kA103 C103 K103 A103 ge103 zg103 V103 S103
        show Endw p e below T103 (mkF m 345 #[.val (.int i0), .val (.int i1), .val (.int i2), .val (.int (i0 &&& (255 : Int32))), .val (.int (i1 &&& (255 : Int32))), .val (.int (0 : Int32)), .val (.int (1 : Int32)), .val (.int (1 : Int32)), .val (.ref dp), .val (.ref a92), .unset, .unset] [(.ref a103)]) _
        refine Endw.st (T' := T103) (g' := (mkF m 348 #[.val (.int i0), .val (.int i1), .val (.int i2), .val (.int (i0 &&& (255 : Int32))), .val (.int (i1 &&& (255 : Int32))), .val (.int (0 : Int32)), .val (.int (1 : Int32)), .val (.int (1 : Int32)), .val (.ref dp), .val (.ref a92), .unset, .unset] [(.int (i0 &&& (255 : Int32))), (.int (0 : Int32)), (.ref a103), (.ref a103)])) (fun tt_ kk_ => XS.dup C103.here C103.hx rfl (C103.dec at_345) rfl rfl (XS.iconst C103.here C103.hx rfl (C103.dec at_346) (XS.iloadN C103.here C103.hx rfl (C103.dec at_347) rfl kk_))) ?_
        refine C103.castore V103 ⟨by decide, by decide⟩ 0 (by decide) (Nat.le_of_ble_eq_true rfl) (x' := (i0 &&& (255 : Int32))) (i2c_mask _) zg103 (vs' := [(.int (i0 &&& (255 : Int32))), (.int 0), (.int 0), (.int 0), (.int 0), (.int 0), (.int 0)]) rfl at_348 (pc' := 349) rfl ?_
        intro T104 h104 C104 K104 A104 V104
        show Endw p e below T104 (mkF m 349 #[.val (.int i0), .val (.int i1), .val (.int i2), .val (.int (i0 &&& (255 : Int32))), .val (.int (i1 &&& (255 : Int32))), .val (.int (0 : Int32)), .val (.int (1 : Int32)), .val (.int (1 : Int32)), .val (.ref dp), .val (.ref a92), .unset, .unset] [(.ref a103)]) _
        refine Endw.st (T' := T104) (g' := (mkF m 353 #[.val (.int i0), .val (.int i1), .val (.int i2), .val (.int (i0 &&& (255 : Int32))), .val (.int (i1 &&& (255 : Int32))), .val (.int (0 : Int32)), .val (.int (1 : Int32)), .val (.int (1 : Int32)), .val (.ref dp), .val (.ref a92), .unset, .unset] [(.int (i1 &&& (255 : Int32))), (.int (1 : Int32)), (.ref a103), (.ref a103)])) (fun tt_ kk_ => XS.dup C104.here C104.hx rfl (C104.dec at_349) rfl rfl (XS.iconst C104.here C104.hx rfl (C104.dec at_350) (XS.iload C104.here C104.hx rfl (C104.dec at_351) rfl kk_))) ?_
        refine C104.castore V104 ⟨by decide, by decide⟩ 1 (by decide) (Nat.le_of_ble_eq_true rfl) (x' := (i1 &&& (255 : Int32))) (i2c_mask _) zg103 (vs' := [(.int (i0 &&& (255 : Int32))), (.int (i1 &&& (255 : Int32))), (.int 0), (.int 0), (.int 0), (.int 0), (.int 0)]) rfl at_353 (pc' := 354) rfl ?_
        intro T105 h105 C105 K105 A105 V105
        replace K105 := Keep.trans K104 K105 (allS (Or.inl (by simp)) all0)
        replace A105 := CHr.trans A104 A105
        clear C104 V104 K104 A104 T104 h104
        show Endw p e below T105 (mkF m 354 #[.val (.int i0), .val (.int i1), .val (.int i2), .val (.int (i0 &&& (255 : Int32))), .val (.int (i1 &&& (255 : Int32))), .val (.int (0 : Int32)), .val (.int (1 : Int32)), .val (.int (1 : Int32)), .val (.ref dp), .val (.ref a92), .unset, .unset] [(.ref a103)]) _
        refine Endw.st (T' := T105) (g' := (mkF m 358 #[.val (.int i0), .val (.int i1), .val (.int i2), .val (.int (i0 &&& (255 : Int32))), .val (.int (i1 &&& (255 : Int32))), .val (.int (0 : Int32)), .val (.int (1 : Int32)), .val (.int (1 : Int32)), .val (.ref dp), .val (.ref a92), .unset, .unset] [(.int (32 : Int32)), (.int (2 : Int32)), (.ref a103), (.ref a103)])) (fun tt_ kk_ => XS.dup C105.here C105.hx rfl (C105.dec at_354) rfl rfl (XS.iconst C105.here C105.hx rfl (C105.dec at_355) (XS.bipush C105.here C105.hx rfl (C105.dec at_356) kk_))) ?_
        refine C105.castore V105 ⟨by decide, by decide⟩ 2 (by decide) (Nat.le_of_ble_eq_true rfl) (x' := (32 : Int32)) (by decide) zg103 (vs' := [(.int (i0 &&& (255 : Int32))), (.int (i1 &&& (255 : Int32))), (.int (32 : Int32)), (.int 0), (.int 0), (.int 0), (.int 0)]) rfl at_358 (pc' := 359) rfl ?_
        intro T106 h106 C106 K106 A106 V106
        replace K106 := Keep.trans K105 K106 (allS (Or.inl (by simp)) all0)
        replace A106 := CHr.trans A105 A106
        clear C105 V105 K105 A105 T105 h105
        show Endw p e below T106 (mkF m 359 #[.val (.int i0), .val (.int i1), .val (.int i2), .val (.int (i0 &&& (255 : Int32))), .val (.int (i1 &&& (255 : Int32))), .val (.int (0 : Int32)), .val (.int (1 : Int32)), .val (.int (1 : Int32)), .val (.ref dp), .val (.ref a92), .unset, .unset] [(.ref a103)]) _
        refine Endw.st (T' := T106) (g' := (mkF m 363 #[.val (.int i0), .val (.int i1), .val (.int i2), .val (.int (i0 &&& (255 : Int32))), .val (.int (i1 &&& (255 : Int32))), .val (.int (0 : Int32)), .val (.int (1 : Int32)), .val (.int (1 : Int32)), .val (.ref dp), .val (.ref a92), .unset, .unset] [(.int (100 : Int32)), (.int (3 : Int32)), (.ref a103), (.ref a103)])) (fun tt_ kk_ => XS.dup C106.here C106.hx rfl (C106.dec at_359) rfl rfl (XS.iconst C106.here C106.hx rfl (C106.dec at_360) (XS.bipush C106.here C106.hx rfl (C106.dec at_361) kk_))) ?_
        refine C106.castore V106 ⟨by decide, by decide⟩ 3 (by decide) (Nat.le_of_ble_eq_true rfl) (x' := (100 : Int32)) (by decide) zg103 (vs' := [(.int (i0 &&& (255 : Int32))), (.int (i1 &&& (255 : Int32))), (.int (32 : Int32)), (.int (100 : Int32)), (.int 0), (.int 0), (.int 0)]) rfl at_363 (pc' := 364) rfl ?_
        intro T107 h107 C107 K107 A107 V107
        replace K107 := Keep.trans K106 K107 (allS (Or.inl (by simp)) all0)
        replace A107 := CHr.trans A106 A107
        clear C106 V106 K106 A106 T106 h106
        show Endw p e below T107 (mkF m 364 #[.val (.int i0), .val (.int i1), .val (.int i2), .val (.int (i0 &&& (255 : Int32))), .val (.int (i1 &&& (255 : Int32))), .val (.int (0 : Int32)), .val (.int (1 : Int32)), .val (.int (1 : Int32)), .val (.ref dp), .val (.ref a92), .unset, .unset] [(.ref a103)]) _
        refine Endw.st (T' := T107) (g' := (mkF m 368 #[.val (.int i0), .val (.int i1), .val (.int i2), .val (.int (i0 &&& (255 : Int32))), .val (.int (i1 &&& (255 : Int32))), .val (.int (0 : Int32)), .val (.int (1 : Int32)), .val (.int (1 : Int32)), .val (.ref dp), .val (.ref a92), .unset, .unset] [(.int (101 : Int32)), (.int (4 : Int32)), (.ref a103), (.ref a103)])) (fun tt_ kk_ => XS.dup C107.here C107.hx rfl (C107.dec at_364) rfl rfl (XS.iconst C107.here C107.hx rfl (C107.dec at_365) (XS.bipush C107.here C107.hx rfl (C107.dec at_366) kk_))) ?_
        refine C107.castore V107 ⟨by decide, by decide⟩ 4 (by decide) (Nat.le_of_ble_eq_true rfl) (x' := (101 : Int32)) (by decide) zg103 (vs' := [(.int (i0 &&& (255 : Int32))), (.int (i1 &&& (255 : Int32))), (.int (32 : Int32)), (.int (100 : Int32)), (.int (101 : Int32)), (.int 0), (.int 0)]) rfl at_368 (pc' := 369) rfl ?_
        intro T108 h108 C108 K108 A108 V108
        replace K108 := Keep.trans K107 K108 (allS (Or.inl (by simp)) all0)
        replace A108 := CHr.trans A107 A108
        clear C107 V107 K107 A107 T107 h107
        show Endw p e below T108 (mkF m 369 #[.val (.int i0), .val (.int i1), .val (.int i2), .val (.int (i0 &&& (255 : Int32))), .val (.int (i1 &&& (255 : Int32))), .val (.int (0 : Int32)), .val (.int (1 : Int32)), .val (.int (1 : Int32)), .val (.ref dp), .val (.ref a92), .unset, .unset] [(.ref a103)]) _
        refine Endw.st (T' := T108) (g' := (mkF m 373 #[.val (.int i0), .val (.int i1), .val (.int i2), .val (.int (i0 &&& (255 : Int32))), .val (.int (i1 &&& (255 : Int32))), .val (.int (0 : Int32)), .val (.int (1 : Int32)), .val (.int (1 : Int32)), .val (.ref dp), .val (.ref a92), .unset, .unset] [(.int (115 : Int32)), (.int (5 : Int32)), (.ref a103), (.ref a103)])) (fun tt_ kk_ => XS.dup C108.here C108.hx rfl (C108.dec at_369) rfl rfl (XS.iconst C108.here C108.hx rfl (C108.dec at_370) (XS.bipush C108.here C108.hx rfl (C108.dec at_371) kk_))) ?_
        refine C108.castore V108 ⟨by decide, by decide⟩ 5 (by decide) (Nat.le_of_ble_eq_true rfl) (x' := (115 : Int32)) (by decide) zg103 (vs' := [(.int (i0 &&& (255 : Int32))), (.int (i1 &&& (255 : Int32))), (.int (32 : Int32)), (.int (100 : Int32)), (.int (101 : Int32)), (.int (115 : Int32)), (.int 0)]) rfl at_373 (pc' := 374) rfl ?_
        intro T109 h109 C109 K109 A109 V109
        replace K109 := Keep.trans K108 K109 (allS (Or.inl (by simp)) all0)
        replace A109 := CHr.trans A108 A109
        clear C108 V108 K108 A108 T108 h108
        show Endw p e below T109 (mkF m 374 #[.val (.int i0), .val (.int i1), .val (.int i2), .val (.int (i0 &&& (255 : Int32))), .val (.int (i1 &&& (255 : Int32))), .val (.int (0 : Int32)), .val (.int (1 : Int32)), .val (.int (1 : Int32)), .val (.ref dp), .val (.ref a92), .unset, .unset] [(.ref a103)]) _
        refine Endw.st (T' := T109) (g' := (mkF m 379 #[.val (.int i0), .val (.int i1), .val (.int i2), .val (.int (i0 &&& (255 : Int32))), .val (.int (i1 &&& (255 : Int32))), .val (.int (0 : Int32)), .val (.int (1 : Int32)), .val (.int (1 : Int32)), .val (.ref dp), .val (.ref a92), .unset, .unset] [(.int (99 : Int32)), (.int (6 : Int32)), (.ref a103), (.ref a103)])) (fun tt_ kk_ => XS.dup C109.here C109.hx rfl (C109.dec at_374) rfl rfl (XS.bipush C109.here C109.hx rfl (C109.dec at_375) (XS.bipush C109.here C109.hx rfl (C109.dec at_377) kk_))) ?_
        refine C109.castore V109 ⟨by decide, by decide⟩ 6 (by decide) (Nat.le_of_ble_eq_true rfl) (x' := (99 : Int32)) (by decide) zg103 (vs' := [(.int (i0 &&& (255 : Int32))), (.int (i1 &&& (255 : Int32))), (.int (32 : Int32)), (.int (100 : Int32)), (.int (101 : Int32)), (.int (115 : Int32)), (.int (99 : Int32))]) rfl at_379 (pc' := 380) rfl ?_
        intro T110 h110 C110 K110 A110 V110
        replace K110 := Keep.trans K109 K110 (allS (Or.inl (by simp)) all0)
        replace A110 := CHr.trans A109 A110
        clear C109 V109 K109 A109 T109 h109
        show Endw p e below T110 (mkF m 380 #[.val (.int i0), .val (.int i1), .val (.int i2), .val (.int (i0 &&& (255 : Int32))), .val (.int (i1 &&& (255 : Int32))), .val (.int (0 : Int32)), .val (.int (1 : Int32)), .val (.int (1 : Int32)), .val (.ref dp), .val (.ref a92), .unset, .unset] [(.ref a103)]) _
        refine Endw.st (T' := T110) (g' := (mkF m 399 #[.val (.int i0), .val (.int i1), .val (.int i2), .val (.int (i0 &&& (255 : Int32))), .val (.int (i1 &&& (255 : Int32))), .val (.int (0 : Int32)), .val (.int (1 : Int32)), .val (.int (1 : Int32)), .val (.ref dp), .val (.ref a92), .val (.ref a103), .unset] [])) (fun tt_ kk_ => XS.astore C110.here C110.hx rfl (C110.dec at_380) rfl rfl (l' := #[.val (.int i0), .val (.int i1), .val (.int i2), .val (.int (i0 &&& (255 : Int32))), .val (.int (i1 &&& (255 : Int32))), .val (.int (0 : Int32)), .val (.int (1 : Int32)), .val (.int (1 : Int32)), .val (.ref dp), .val (.ref a92), .val (.ref a103), .unset]) rfl (XS.goto C110.here C110.hx rfl (pc0 := 382) rfl (C110.dec at_382) (by decide) rfl kk_)) ?_
        refine C110.new (W3 hw) (W4 hw) (W5 hw) at_399 (pc' := 402) rfl (by decide) (by decide) ?_
        intro T111 h111 a111 C111 K111 A111 ge111 zg111 E111 D111 S111
        show Endw p e below T111 (mkF m 402 #[.val (.int i0), .val (.int i1), .val (.int i2), .val (.int (i0 &&& (255 : Int32))), .val (.int (i1 &&& (255 : Int32))), .val (.int (0 : Int32)), .val (.int (1 : Int32)), .val (.int (1 : Int32)), .val (.ref dp), .val (.ref a92), .val (.ref a103), .unset] [(.ref a111)]) _
        refine Endw.st (T' := T111) (g' := (mkF m 405 #[.val (.int i0), .val (.int i1), .val (.int i2), .val (.int (i0 &&& (255 : Int32))), .val (.int (i1 &&& (255 : Int32))), .val (.int (0 : Int32)), .val (.int (1 : Int32)), .val (.int (1 : Int32)), .val (.ref dp), .val (.ref a92), .val (.ref a103), .unset] [(.ref a103), (.ref a111), (.ref a111)])) (fun tt_ kk_ => XS.dup C111.here C111.hx rfl (C111.dec at_402) rfl rfl (XS.aload C111.here C111.hx rfl (C111.dec at_403) rfl rfl kk_)) ?_
        have f112 := (V110.keep K111 nin0)
        have f113 : Fld Z h111 a111 "java/lang/String" "value" "[B" .null := D111 (Or.inr (W32 hw)) (ty := (.array .byte)) (by decide)
        have f114 : Fld Z h111 a111 "java/lang/String" "coder" "B" (.int (0 : Int32)) := D111 (Or.inr (W30 hw)) (ty := .byte) (by decide)
        have hp115 : ∀ c ∈ [(i0 &&& (255 : Int32)), (i1 &&& (255 : Int32)), (32 : Int32), (100 : Int32), (101 : Int32), (115 : Int32), (99 : Int32)], B8 c := (own_cS (own_mask255 _) (own_cS (own_mask255 _) (own_cS ⟨by decide, by decide⟩ (own_cS ⟨by decide, by decide⟩ (own_cS ⟨by decide, by decide⟩ (own_cS ⟨by decide, by decide⟩ (own_cS ⟨by decide, by decide⟩ own_c0)))))))
        refine C111.specialF (y := (⟨"java/lang/String", "<init>", "([C)V"⟩ : MethodName)) (ws := [a111]) (W := 1) (a := a111) (argsL := [.ref a103]) (rest := [(.ref a111)]) (ck := 1) (cn := 7) rfl (W7 hw) (W8 hw) (W9 hw) (by decide) (StrChars.Road.backV (W := 1) (n := 7) (n0 := Z.heap.size) (cs := [(i0 &&& (255 : Int32)), (i1 &&& (255 : Int32)), (32 : Int32), (100 : Int32), (101 : Int32), (115 : Int32), (99 : Int32)]) (bs := [(i0 &&& (255 : Int32)).toInt8.toInt32, (i1 &&& (255 : Int32)).toInt8.toInt32, (32 : Int32).toInt8.toInt32, (100 : Int32).toInt8.toInt32, (101 : Int32).toInt8.toInt32, (115 : Int32).toInt8.toInt32, (99 : Int32).toInt8.toInt32]) C111.warm G.w_backV (kI := 4) (W4 hw) zg111 C111.le E111 f113 f114 f112 (Sc.ext C111.old) hzc rfl rfl (by decide) (by decide) hp115 rfl (by decide) (by decide)) (fun _ _ _ q => ⟨q.2.1, q.2.2.1⟩) (allS zg111 all0) (sfS S111 sf0) rfl (by decide) (by decide) (lenOf pd_285b432956 rfl) rfl (Nat.le_of_ble_eq_true rfl) rfl at_405 (pc' := 408) rfl ?_
        intro T115 h115 v115 C115 K115 A115 q115
        obtain ⟨_, rfl, -, -, E115, F115, t115, kb115, zg115, ge115, nt115, f115, V115⟩ := q115
        have Z115 : Str Z h115 a111 t115 kb115 [(i0 &&& (255 : Int32)), (i1 &&& (255 : Int32)), (32 : Int32), (100 : Int32), (101 : Int32), (115 : Int32), (99 : Int32)] := ⟨E115, F115, f115, V115, hp115, Nat.le_of_ble_eq_true rfl⟩
        show Endw p e below T115 (mkF m 408 #[.val (.int i0), .val (.int i1), .val (.int i2), .val (.int (i0 &&& (255 : Int32))), .val (.int (i1 &&& (255 : Int32))), .val (.int (0 : Int32)), .val (.int (1 : Int32)), .val (.int (1 : Int32)), .val (.ref dp), .val (.ref a92), .val (.ref a103), .unset] [(.ref a111)]) _
        refine Endw.st (T' := T115) (g' := (mkF m 420 #[.val (.int i0), .val (.int i1), .val (.int i2), .val (.int (i0 &&& (255 : Int32))), .val (.int (i1 &&& (255 : Int32))), .val (.int (0 : Int32)), .val (.int (1 : Int32)), .val (.int (1 : Int32)), .val (.ref dp), .val (.ref a92), .val (.ref a103), .val (.ref a111)] [(.int (1 : Int32)), (.int (1 : Int32)), (.ref a92), (.ref dp), (.ref a111)])) (fun tt_ kk_ => XS.astore C115.here C115.hx rfl (C115.dec at_408) rfl rfl (l' := #[.val (.int i0), .val (.int i1), .val (.int i2), .val (.int (i0 &&& (255 : Int32))), .val (.int (i1 &&& (255 : Int32))), .val (.int (0 : Int32)), .val (.int (1 : Int32)), .val (.int (1 : Int32)), .val (.ref dp), .val (.ref a92), .val (.ref a103), .val (.ref a111)]) rfl (XS.aload C115.here C115.hx rfl (C115.dec at_410) rfl rfl (XS.aload C115.here C115.hx rfl (C115.dec at_412) rfl rfl (XS.aload C115.here C115.hx rfl (C115.dec at_414) rfl rfl (XS.iload C115.here C115.hx rfl (C115.dec at_416) rfl (XS.iload C115.here C115.hx rfl (C115.dec at_418) rfl kk_)))))) ?_
        have f116 := (((((((((Fp.ext O).keep K92 nin0).keep K93 nin0).keep K95 (ninS (Nat.ne_of_lt (Nat.lt_of_lt_of_le (Nat.lt_of_lt_of_le (Ep.ext O).lt K92.1) ge93)) nin0)).keep K101 (ninS (Nat.ne_of_lt (Nat.lt_of_lt_of_le (Ep.ext O).lt ge92)) nin0)).keep K103 nin0).keep K110 (ninS (Nat.ne_of_lt (Nat.lt_of_lt_of_le (Nat.lt_of_lt_of_le (Ep.ext O).lt (Nat.le_trans K92.1 (Nat.le_trans K93.1 (Nat.le_trans K95.1 K101.1)))) ge103)) nin0)).keep K111 nin0).keep K115 (ninS (Nat.ne_of_lt (Nat.lt_of_lt_of_le (Nat.lt_of_lt_of_le (Ep.ext O).lt (Nat.le_trans K92.1 (Nat.le_trans K93.1 (Nat.le_trans K95.1 (Nat.le_trans K101.1 (Nat.le_trans K103.1 K110.1)))))) ge111)) nin0))
        have f117 := ((((Z101.keep K103 nin0 nin0).keep K110 (ninS (Nat.ne_of_lt (Nat.lt_of_lt_of_le (Nat.lt_of_lt_of_le E92.lt (Nat.le_trans K93.1 (Nat.le_trans K95.1 K101.1))) ge103)) nin0) (ninS (Nat.ne_of_lt (Nat.lt_of_lt_of_le V101.lt ge103)) nin0)).keep K111 nin0 nin0).keep K115 (ninS (Nat.ne_of_lt (Nat.lt_of_lt_of_le (Nat.lt_of_lt_of_le E92.lt (Nat.le_trans K93.1 (Nat.le_trans K95.1 (Nat.le_trans K101.1 (Nat.le_trans K103.1 K110.1))))) ge111)) nin0) (ninS (Nat.ne_of_lt (Nat.lt_of_lt_of_le (Nat.lt_of_lt_of_le V101.lt (Nat.le_trans K103.1 K110.1)) ge111)) nin0))
        have f119 := (((((((((Ep.ext O).keep K92).keep K93).keep K95).keep K101).keep K103).keep K110).keep K111).keep K115)
        refine C115.virtual (y := (⟨"com/example/frugal_orm/frugalorm/Dialect", "orderItems", "(Ljava/lang/String;ZZ)Ljava/lang/String;"⟩ : MethodName)) (z := (⟨"com/example/frugal_orm/frugalorm/Dialect", "orderItems", "(Ljava/lang/String;ZZ)Ljava/lang/String;"⟩ : MethodName)) (W := 1) (a := dp) (argsL := [(.ref a92), (.int (1 : Int32)), (.int (1 : Int32))]) (rest := [(.ref a111)]) (W33 hw) (W34 hw) (fun _ q => notFace_of_selects (args := #[]) (mvT q (W36 hw))) (W36 hw) (W35 hw) (W37 hw) (W1 hw) (by decide) (rm_oi110 l Z a0 EL G dp a92 t101 kb101 (i0 &&& (255 : Int32)) (i1 &&& (255 : Int32)) h115 C115.old f116 f117) (fun z => nomatch z) rfl f119 all0 (by decide) (by decide) (by decide) (by decide) (lenOf pd_19 rfl) rfl (Nat.le_of_ble_eq_true rfl) rfl at_420 (pc' := 423) rfl ?_
        intro vm118 T118 h118 v118 C118 A118 M118 q118
        obtain ⟨a118, t118, kb118, rfl, K118, ge118, gt118, zg118, zt118, Z118⟩ := q118
        show Endw p e below T118 (mkF m 423 #[.val (.int i0), .val (.int i1), .val (.int i2), .val (.int (i0 &&& (255 : Int32))), .val (.int (i1 &&& (255 : Int32))), .val (.int (0 : Int32)), .val (.int (1 : Int32)), .val (.int (1 : Int32)), .val (.ref dp), .val (.ref a92), .val (.ref a103), .val (.ref a111)] [(.ref a118), (.ref a111)]) _
        have f120 := (Z115.keep K118 nin0 nin0)
        have f122 := (E115.keep K118)
        refine C118.virtualF (y := (⟨"java/lang/String", "equals", "(Ljava/lang/Object;)Z"⟩ : MethodName)) (z := (⟨"java/lang/String", "equals", "(Ljava/lang/Object;)Z"⟩ : MethodName)) (ws := []) (W := 0) (a := a111) (argsL := [.ref a118]) (rest := []) (ck := 0) (cn := 0) (Qf := fun v h' L => ((v = some (.int 1) ∧ [(i0 &&& (255 : Int32)), (i1 &&& (255 : Int32)), (32 : Int32), (100 : Int32), (101 : Int32), (115 : Int32), (99 : Int32)] = (([] ++ [(i0 &&& (255 : Int32)), (i1 &&& (255 : Int32))]) ++ [(32 : Int32), (100 : Int32), (101 : Int32), (115 : Int32), (99 : Int32)])) ∨ (v = some (.int 0) ∧ ¬ [(i0 &&& (255 : Int32)), (i1 &&& (255 : Int32)), (32 : Int32), (100 : Int32), (101 : Int32), (115 : Int32), (99 : Int32)] = (([] ++ [(i0 &&& (255 : Int32)), (i1 &&& (255 : Int32))]) ++ [(32 : Int32), (100 : Int32), (101 : Int32), (115 : Int32), (99 : Int32)]))) ∧ L = [] ∧ h' = h118) (W151 hw) (W152 hw) (fun _ q => notFace_of_selects (args := #[]) (mvT q (W154 hw))) (W154 hw) (W153 hw) (by decide) (StrChars.Road.eqW (W := 0) (cs := [(i0 &&& (255 : Int32)), (i1 &&& (255 : Int32)), (32 : Int32), (100 : Int32), (101 : Int32), (115 : Int32), (99 : Int32)]) (ds := (([] ++ [(i0 &&& (255 : Int32)), (i1 &&& (255 : Int32))]) ++ [(32 : Int32), (100 : Int32), (101 : Int32), (115 : Int32), (99 : Int32)])) C118.warm G.w_eqW (kI := 4) (W4 hw) f120.1 f120.2.2.1 f120.2.1 f120.2.2.2.1 (StrChars.Road.codOf rfl (fun c q => (f120.2.2.2.2.1 c q).2)) (fun c q => own_b16 (f120.2.2.2.2.1 c q)) f120.2.2.2.2.2 Z118.1 Z118.2.2.1 Z118.2.1 Z118.2.2.2.1 (StrChars.Road.codOf rfl (fun c q => (Z118.2.2.2.2.1 c q).2)) (fun c q => own_b16 (Z118.2.2.2.2.1 c q)) Z118.2.2.2.2.2 (Sc.ext C118.old) hzc (by decide) (by decide)) (fun _ _ _ q => ⟨by rw [q.2.1]; exact Fr.nil _, by rw [q.2.2]; exact Keep.refl _ _⟩) all0 sf0 rfl f122 (by decide) (by decide) (lenOf pd_14 rfl) rfl (Nat.le_of_ble_eq_true rfl) rfl at_423 (pc' := 426) rfl ?_
        intro T121 h121 v121 C121 K121 A121 q121
        obtain ⟨_, q121, -, -⟩ := q121
        obtain rfl : v121 = some (.int 1) := q121.elim (fun z => z.1) (fun z => absurd (rfl) z.2)
        show Endw p e below T121 (mkF m 426 #[.val (.int i0), .val (.int i1), .val (.int i2), .val (.int (i0 &&& (255 : Int32))), .val (.int (i1 &&& (255 : Int32))), .val (.int (0 : Int32)), .val (.int (1 : Int32)), .val (.int (1 : Int32)), .val (.ref dp), .val (.ref a92), .val (.ref a103), .val (.ref a111)] [(.int (1 : Int32))]) _
        exact C121.retI (t := .boolean) rfl (by simp) rfl at_426 (by decide) (by decide) rfl
  · refine Endw.st (T' := T0) (g' := (mkF m 31 #[.val (.int i0), .val (.int i1), .val (.int i2), .val (.int (i0 &&& (255 : Int32))), .val (.int (i1 &&& (255 : Int32))), .val (.int (1 : Int32)), .unset, .unset, .unset, .unset, .unset, .unset] [(.int (i2 &&& (2 : Int32)))])) (fun tt_ kk_ => XS.ifNo C0.here C0.hx rfl (C0.dec at_18) rfl (XT.i0_eq_f c1) (XS.iconst C0.here C0.hx rfl (C0.dec at_21) (XS.goto C0.here C0.hx rfl (pc0 := 22) rfl (C0.dec at_22) (by decide) rfl (XS.istore C0.here C0.hx rfl (C0.dec at_26) rfl (l' := #[.val (.int i0), .val (.int i1), .val (.int i2), .val (.int (i0 &&& (255 : Int32))), .val (.int (i1 &&& (255 : Int32))), .val (.int (1 : Int32)), .unset, .unset, .unset, .unset, .unset, .unset]) rfl (XS.iloadN C0.here C0.hx rfl (C0.dec at_28) rfl (XS.iconst C0.here C0.hx rfl (C0.dec at_29) (XS.iand C0.here C0.hx rfl (C0.dec at_30) rfl kk_))))))) ?_
    by_cases c123 : (i2 &&& (2 : Int32)) = (0 : Int32)
    · refine Endw.st (T' := T0) (g' := (mkF m 44 #[.val (.int i0), .val (.int i1), .val (.int i2), .val (.int (i0 &&& (255 : Int32))), .val (.int (i1 &&& (255 : Int32))), .val (.int (1 : Int32)), .val (.int (0 : Int32)), .unset, .unset, .unset, .unset, .unset] [(.int (i2 &&& (4 : Int32)))])) (fun tt_ kk_ => XS.ifYes C0.here C0.hx rfl (pc0 := 31) rfl (C0.dec at_31) rfl (XT.i0_eq_t c123) (by decide) rfl (XS.iconst C0.here C0.hx rfl (C0.dec at_38) (XS.istore C0.here C0.hx rfl (C0.dec at_39) rfl (l' := #[.val (.int i0), .val (.int i1), .val (.int i2), .val (.int (i0 &&& (255 : Int32))), .val (.int (i1 &&& (255 : Int32))), .val (.int (1 : Int32)), .val (.int (0 : Int32)), .unset, .unset, .unset, .unset, .unset]) rfl (XS.iloadN C0.here C0.hx rfl (C0.dec at_41) rfl (XS.iconst C0.here C0.hx rfl (C0.dec at_42) (XS.iand C0.here C0.hx rfl (C0.dec at_43) rfl kk_)))))) ?_
      by_cases c124 : (i2 &&& (4 : Int32)) = (0 : Int32)
      · refine Endw.st (T' := T0) (g' := (mkF m 59 #[.val (.int i0), .val (.int i1), .val (.int i2), .val (.int (i0 &&& (255 : Int32))), .val (.int (i1 &&& (255 : Int32))), .val (.int (1 : Int32)), .val (.int (0 : Int32)), .val (.int (0 : Int32)), .unset, .unset, .unset, .unset] [])) (fun tt_ kk_ => XS.ifYes C0.here C0.hx rfl (pc0 := 44) rfl (C0.dec at_44) rfl (XT.i0_eq_t c124) (by decide) rfl (XS.iconst C0.here C0.hx rfl (C0.dec at_51) (XS.istore C0.here C0.hx rfl (C0.dec at_52) rfl (l' := #[.val (.int i0), .val (.int i1), .val (.int i2), .val (.int (i0 &&& (255 : Int32))), .val (.int (i1 &&& (255 : Int32))), .val (.int (1 : Int32)), .val (.int (0 : Int32)), .val (.int (0 : Int32)), .unset, .unset, .unset, .unset]) rfl (XS.iload C0.here C0.hx rfl (C0.dec at_54) rfl (XS.ifNo C0.here C0.hx rfl (C0.dec at_56) rfl (XT.i0_eq_f (by decide)) kk_))))) ?_
        refine C0.getS (W161 hw) Sm at_59 (pc' := 62) rfl ?_
        intro T125 C125
        show Endw p e below T125 (mkF m 62 #[.val (.int i0), .val (.int i1), .val (.int i2), .val (.int (i0 &&& (255 : Int32))), .val (.int (i1 &&& (255 : Int32))), .val (.int (1 : Int32)), .val (.int (0 : Int32)), .val (.int (0 : Int32)), .unset, .unset, .unset, .unset] [(.ref dm)]) _
        refine Endw.st (T' := T125) (g' := (mkF m 70 #[.val (.int i0), .val (.int i1), .val (.int i2), .val (.int (i0 &&& (255 : Int32))), .val (.int (i1 &&& (255 : Int32))), .val (.int (1 : Int32)), .val (.int (0 : Int32)), .val (.int (0 : Int32)), .val (.ref dm), .unset, .unset, .unset] [])) (fun tt_ kk_ => XS.goto C125.here C125.hx rfl (pc0 := 62) rfl (C125.dec at_62) (by decide) rfl (XS.astore C125.here C125.hx rfl (C125.dec at_68) rfl rfl (l' := #[.val (.int i0), .val (.int i1), .val (.int i2), .val (.int (i0 &&& (255 : Int32))), .val (.int (i1 &&& (255 : Int32))), .val (.int (1 : Int32)), .val (.int (0 : Int32)), .val (.int (0 : Int32)), .val (.ref dm), .unset, .unset, .unset]) rfl kk_)) ?_
        refine C125.new (W3 hw) (W4 hw) (W5 hw) at_70 (pc' := 73) rfl (by decide) (by decide) ?_
        intro T126 h126 a126 C126 K126 A126 ge126 zg126 E126 D126 S126
        show Endw p e below T126 (mkF m 73 #[.val (.int i0), .val (.int i1), .val (.int i2), .val (.int (i0 &&& (255 : Int32))), .val (.int (i1 &&& (255 : Int32))), .val (.int (1 : Int32)), .val (.int (0 : Int32)), .val (.int (0 : Int32)), .val (.ref dm), .unset, .unset, .unset] [(.ref a126)]) _
        refine Endw.st (T' := T126) (g' := (mkF m 75 #[.val (.int i0), .val (.int i1), .val (.int i2), .val (.int (i0 &&& (255 : Int32))), .val (.int (i1 &&& (255 : Int32))), .val (.int (1 : Int32)), .val (.int (0 : Int32)), .val (.int (0 : Int32)), .val (.ref dm), .unset, .unset, .unset] [(.int (2 : Int32)), (.ref a126), (.ref a126)])) (fun tt_ kk_ => XS.dup C126.here C126.hx rfl (C126.dec at_73) rfl rfl (XS.iconst C126.here C126.hx rfl (C126.dec at_74) kk_)) ?_
        refine C126.newA (aty := .char) (z := (2 : Int32)) (cap := 2) (vs := [(.int 0), (.int 0)]) (W6 hw) at_75 (pc' := 77) rfl (by decide) (by decide) (by decide) (by decide) (by decide) rfl ?_
        intro T127 h127 a127 kA127 C127 K127 A127 ge127 zg127 V127 S127
        show Endw p e below T127 (mkF m 77 #[.val (.int i0), .val (.int i1), .val (.int i2), .val (.int (i0 &&& (255 : Int32))), .val (.int (i1 &&& (255 : Int32))), .val (.int (1 : Int32)), .val (.int (0 : Int32)), .val (.int (0 : Int32)), .val (.ref dm), .unset, .unset, .unset] [(.ref a127), (.ref a126), (.ref a126)]) _
        refine Endw.st (T' := T127) (g' := (mkF m 80 #[.val (.int i0), .val (.int i1), .val (.int i2), .val (.int (i0 &&& (255 : Int32))), .val (.int (i1 &&& (255 : Int32))), .val (.int (1 : Int32)), .val (.int (0 : Int32)), .val (.int (0 : Int32)), .val (.ref dm), .unset, .unset, .unset] [(.int (i0 &&& (255 : Int32))), (.int (0 : Int32)), (.ref a127), (.ref a127), (.ref a126), (.ref a126)])) (fun tt_ kk_ => XS.dup C127.here C127.hx rfl (C127.dec at_77) rfl rfl (XS.iconst C127.here C127.hx rfl (C127.dec at_78) (XS.iloadN C127.here C127.hx rfl (C127.dec at_79) rfl kk_))) ?_
        refine C127.castore V127 ⟨by decide, by decide⟩ 0 (by decide) (Nat.le_of_ble_eq_true rfl) (x' := (i0 &&& (255 : Int32))) (i2c_mask _) zg127 (vs' := [(.int (i0 &&& (255 : Int32))), (.int 0)]) rfl at_80 (pc' := 81) rfl ?_
        intro T128 h128 C128 K128 A128 V128
        show Endw p e below T128 (mkF m 81 #[.val (.int i0), .val (.int i1), .val (.int i2), .val (.int (i0 &&& (255 : Int32))), .val (.int (i1 &&& (255 : Int32))), .val (.int (1 : Int32)), .val (.int (0 : Int32)), .val (.int (0 : Int32)), .val (.ref dm), .unset, .unset, .unset] [(.ref a127), (.ref a126), (.ref a126)]) _
        refine Endw.st (T' := T128) (g' := (mkF m 85 #[.val (.int i0), .val (.int i1), .val (.int i2), .val (.int (i0 &&& (255 : Int32))), .val (.int (i1 &&& (255 : Int32))), .val (.int (1 : Int32)), .val (.int (0 : Int32)), .val (.int (0 : Int32)), .val (.ref dm), .unset, .unset, .unset] [(.int (i1 &&& (255 : Int32))), (.int (1 : Int32)), (.ref a127), (.ref a127), (.ref a126), (.ref a126)])) (fun tt_ kk_ => XS.dup C128.here C128.hx rfl (C128.dec at_81) rfl rfl (XS.iconst C128.here C128.hx rfl (C128.dec at_82) (XS.iload C128.here C128.hx rfl (C128.dec at_83) rfl kk_))) ?_
        refine C128.castore V128 ⟨by decide, by decide⟩ 1 (by decide) (Nat.le_of_ble_eq_true rfl) (x' := (i1 &&& (255 : Int32))) (i2c_mask _) zg127 (vs' := [(.int (i0 &&& (255 : Int32))), (.int (i1 &&& (255 : Int32)))]) rfl at_85 (pc' := 86) rfl ?_
        intro T129 h129 C129 K129 A129 V129
        replace K129 := Keep.trans K128 K129 (allS (Or.inl (by simp)) all0)
        replace A129 := CHr.trans A128 A129
        clear C128 V128 K128 A128 T128 h128
        show Endw p e below T129 (mkF m 86 #[.val (.int i0), .val (.int i1), .val (.int i2), .val (.int (i0 &&& (255 : Int32))), .val (.int (i1 &&& (255 : Int32))), .val (.int (1 : Int32)), .val (.int (0 : Int32)), .val (.int (0 : Int32)), .val (.ref dm), .unset, .unset, .unset] [(.ref a127), (.ref a126), (.ref a126)]) _
        have f130 := ((E126.keep K127).keep K129)
        have f131 : Fld Z h126 a126 "java/lang/String" "value" "[B" .null := D126 (Or.inr (W32 hw)) (ty := (.array .byte)) (by decide)
        have f132 := ((f131.keep K127 nin0).keep K129 (ninS (Nat.ne_of_lt (Nat.lt_of_lt_of_le E126.lt ge127)) nin0))
        have f133 : Fld Z h126 a126 "java/lang/String" "coder" "B" (.int (0 : Int32)) := D126 (Or.inr (W30 hw)) (ty := .byte) (by decide)
        have f134 := ((f133.keep K127 nin0).keep K129 (ninS (Nat.ne_of_lt (Nat.lt_of_lt_of_le E126.lt ge127)) nin0))
        have hp135 : ∀ c ∈ [(i0 &&& (255 : Int32)), (i1 &&& (255 : Int32))], B8 c := (own_cS (own_mask255 _) (own_cS (own_mask255 _) own_c0))
        have f136 := (A129.safe (Nat.lt_of_lt_of_le E126.lt K127.1) (A127.safe E126.lt S126))
        refine C129.specialF (y := (⟨"java/lang/String", "<init>", "([C)V"⟩ : MethodName)) (ws := [a126]) (W := 1) (a := a126) (argsL := [.ref a127]) (rest := [(.ref a126)]) (ck := 1) (cn := 2) rfl (W7 hw) (W8 hw) (W9 hw) (by decide) (StrChars.Road.backV (W := 1) (n := 2) (n0 := Z.heap.size) (cs := [(i0 &&& (255 : Int32)), (i1 &&& (255 : Int32))]) (bs := [(i0 &&& (255 : Int32)).toInt8.toInt32, (i1 &&& (255 : Int32)).toInt8.toInt32]) C129.warm G.w_backV (kI := 4) (W4 hw) zg126 C129.le f130 f132 f134 V129 (Sc.ext C129.old) hzc rfl rfl (by decide) (by decide) hp135 rfl (by decide) (by decide)) (fun _ _ _ q => ⟨q.2.1, q.2.2.1⟩) (allS zg126 all0) (sfS f136 sf0) rfl (by decide) (by decide) (lenOf pd_285b432956 rfl) rfl (Nat.le_of_ble_eq_true rfl) rfl at_86 (pc' := 89) rfl ?_
        intro T135 h135 v135 C135 K135 A135 q135
        obtain ⟨_, rfl, -, -, E135, F135, t135, kb135, zg135, ge135, nt135, f135, V135⟩ := q135
        have Z135 : Str Z h135 a126 t135 kb135 [(i0 &&& (255 : Int32)), (i1 &&& (255 : Int32))] := ⟨E135, F135, f135, V135, hp135, Nat.le_of_ble_eq_true rfl⟩
        show Endw p e below T135 (mkF m 89 #[.val (.int i0), .val (.int i1), .val (.int i2), .val (.int (i0 &&& (255 : Int32))), .val (.int (i1 &&& (255 : Int32))), .val (.int (1 : Int32)), .val (.int (0 : Int32)), .val (.int (0 : Int32)), .val (.ref dm), .unset, .unset, .unset] [(.ref a126)]) _
        refine Endw.st (T' := T135) (g' := (mkF m 386 #[.val (.int i0), .val (.int i1), .val (.int i2), .val (.int (i0 &&& (255 : Int32))), .val (.int (i1 &&& (255 : Int32))), .val (.int (1 : Int32)), .val (.int (0 : Int32)), .val (.int (0 : Int32)), .val (.ref dm), .val (.ref a126), .unset, .unset] [(.int (2 : Int32))])) (fun tt_ kk_ => XS.astore C135.here C135.hx rfl (C135.dec at_89) rfl rfl (l' := #[.val (.int i0), .val (.int i1), .val (.int i2), .val (.int (i0 &&& (255 : Int32))), .val (.int (i1 &&& (255 : Int32))), .val (.int (1 : Int32)), .val (.int (0 : Int32)), .val (.int (0 : Int32)), .val (.ref dm), .val (.ref a126), .unset, .unset]) rfl (XS.iload C135.here C135.hx rfl (C135.dec at_91) rfl (XS.ifYes C135.here C135.hx rfl (pc0 := 93) rfl (C135.dec at_93) rfl (XT.i0_eq_t (by decide)) (by decide) rfl (XS.iload C135.here C135.hx rfl (C135.dec at_336) rfl (XS.ifYes C135.here C135.hx rfl (pc0 := 338) rfl (C135.dec at_338) rfl (XT.i0_eq_t (by decide)) (by decide) rfl (XS.iconst C135.here C135.hx rfl (C135.dec at_385) kk_)))))) ?_
        refine C135.newA (aty := .char) (z := (2 : Int32)) (cap := 2) (vs := [(.int 0), (.int 0)]) (W6 hw) at_386 (pc' := 388) rfl (by decide) (by decide) (by decide) (by decide) (by decide) rfl ?_
        intro T137 h137 a137 kA137 C137 K137 A137 ge137 zg137 V137 S137
        show Endw p e below T137 (mkF m 388 #[.val (.int i0), .val (.int i1), .val (.int i2), .val (.int (i0 &&& (255 : Int32))), .val (.int (i1 &&& (255 : Int32))), .val (.int (1 : Int32)), .val (.int (0 : Int32)), .val (.int (0 : Int32)), .val (.ref dm), .val (.ref a126), .unset, .unset] [(.ref a137)]) _
        refine Endw.st (T' := T137) (g' := (mkF m 391 #[.val (.int i0), .val (.int i1), .val (.int i2), .val (.int (i0 &&& (255 : Int32))), .val (.int (i1 &&& (255 : Int32))), .val (.int (1 : Int32)), .val (.int (0 : Int32)), .val (.int (0 : Int32)), .val (.ref dm), .val (.ref a126), .unset, .unset] [(.int (i0 &&& (255 : Int32))), (.int (0 : Int32)), (.ref a137), (.ref a137)])) (fun tt_ kk_ => XS.dup C137.here C137.hx rfl (C137.dec at_388) rfl rfl (XS.iconst C137.here C137.hx rfl (C137.dec at_389) (XS.iloadN C137.here C137.hx rfl (C137.dec at_390) rfl kk_))) ?_
        refine C137.castore V137 ⟨by decide, by decide⟩ 0 (by decide) (Nat.le_of_ble_eq_true rfl) (x' := (i0 &&& (255 : Int32))) (i2c_mask _) zg137 (vs' := [(.int (i0 &&& (255 : Int32))), (.int 0)]) rfl at_391 (pc' := 392) rfl ?_
        intro T138 h138 C138 K138 A138 V138
        show Endw p e below T138 (mkF m 392 #[.val (.int i0), .val (.int i1), .val (.int i2), .val (.int (i0 &&& (255 : Int32))), .val (.int (i1 &&& (255 : Int32))), .val (.int (1 : Int32)), .val (.int (0 : Int32)), .val (.int (0 : Int32)), .val (.ref dm), .val (.ref a126), .unset, .unset] [(.ref a137)]) _
        refine Endw.st (T' := T138) (g' := (mkF m 396 #[.val (.int i0), .val (.int i1), .val (.int i2), .val (.int (i0 &&& (255 : Int32))), .val (.int (i1 &&& (255 : Int32))), .val (.int (1 : Int32)), .val (.int (0 : Int32)), .val (.int (0 : Int32)), .val (.ref dm), .val (.ref a126), .unset, .unset] [(.int (i1 &&& (255 : Int32))), (.int (1 : Int32)), (.ref a137), (.ref a137)])) (fun tt_ kk_ => XS.dup C138.here C138.hx rfl (C138.dec at_392) rfl rfl (XS.iconst C138.here C138.hx rfl (C138.dec at_393) (XS.iload C138.here C138.hx rfl (C138.dec at_394) rfl kk_))) ?_
        refine C138.castore V138 ⟨by decide, by decide⟩ 1 (by decide) (Nat.le_of_ble_eq_true rfl) (x' := (i1 &&& (255 : Int32))) (i2c_mask _) zg137 (vs' := [(.int (i0 &&& (255 : Int32))), (.int (i1 &&& (255 : Int32)))]) rfl at_396 (pc' := 397) rfl ?_
        intro T139 h139 C139 K139 A139 V139
        replace K139 := Keep.trans K138 K139 (allS (Or.inl (by simp)) all0)
        replace A139 := CHr.trans A138 A139
        clear C138 V138 K138 A138 T138 h138
        show Endw p e below T139 (mkF m 397 #[.val (.int i0), .val (.int i1), .val (.int i2), .val (.int (i0 &&& (255 : Int32))), .val (.int (i1 &&& (255 : Int32))), .val (.int (1 : Int32)), .val (.int (0 : Int32)), .val (.int (0 : Int32)), .val (.ref dm), .val (.ref a126), .unset, .unset] [(.ref a137)]) _
        refine Endw.st (T' := T139) (g' := (mkF m 399 #[.val (.int i0), .val (.int i1), .val (.int i2), .val (.int (i0 &&& (255 : Int32))), .val (.int (i1 &&& (255 : Int32))), .val (.int (1 : Int32)), .val (.int (0 : Int32)), .val (.int (0 : Int32)), .val (.ref dm), .val (.ref a126), .val (.ref a137), .unset] [])) (fun tt_ kk_ => XS.astore C139.here C139.hx rfl (C139.dec at_397) rfl rfl (l' := #[.val (.int i0), .val (.int i1), .val (.int i2), .val (.int (i0 &&& (255 : Int32))), .val (.int (i1 &&& (255 : Int32))), .val (.int (1 : Int32)), .val (.int (0 : Int32)), .val (.int (0 : Int32)), .val (.ref dm), .val (.ref a126), .val (.ref a137), .unset]) rfl kk_) ?_
        refine C139.new (W3 hw) (W4 hw) (W5 hw) at_399 (pc' := 402) rfl (by decide) (by decide) ?_
        intro T140 h140 a140 C140 K140 A140 ge140 zg140 E140 D140 S140
        show Endw p e below T140 (mkF m 402 #[.val (.int i0), .val (.int i1), .val (.int i2), .val (.int (i0 &&& (255 : Int32))), .val (.int (i1 &&& (255 : Int32))), .val (.int (1 : Int32)), .val (.int (0 : Int32)), .val (.int (0 : Int32)), .val (.ref dm), .val (.ref a126), .val (.ref a137), .unset] [(.ref a140)]) _
        refine Endw.st (T' := T140) (g' := (mkF m 405 #[.val (.int i0), .val (.int i1), .val (.int i2), .val (.int (i0 &&& (255 : Int32))), .val (.int (i1 &&& (255 : Int32))), .val (.int (1 : Int32)), .val (.int (0 : Int32)), .val (.int (0 : Int32)), .val (.ref dm), .val (.ref a126), .val (.ref a137), .unset] [(.ref a137), (.ref a140), (.ref a140)])) (fun tt_ kk_ => XS.dup C140.here C140.hx rfl (C140.dec at_402) rfl rfl (XS.aload C140.here C140.hx rfl (C140.dec at_403) rfl rfl kk_)) ?_
        have f141 := (V139.keep K140 nin0)
        have f142 : Fld Z h140 a140 "java/lang/String" "value" "[B" .null := D140 (Or.inr (W32 hw)) (ty := (.array .byte)) (by decide)
        have f143 : Fld Z h140 a140 "java/lang/String" "coder" "B" (.int (0 : Int32)) := D140 (Or.inr (W30 hw)) (ty := .byte) (by decide)
        have hp144 : ∀ c ∈ [(i0 &&& (255 : Int32)), (i1 &&& (255 : Int32))], B8 c := (own_cS (own_mask255 _) (own_cS (own_mask255 _) own_c0))
        refine C140.specialF (y := (⟨"java/lang/String", "<init>", "([C)V"⟩ : MethodName)) (ws := [a140]) (W := 1) (a := a140) (argsL := [.ref a137]) (rest := [(.ref a140)]) (ck := 1) (cn := 2) rfl (W7 hw) (W8 hw) (W9 hw) (by decide) (StrChars.Road.backV (W := 1) (n := 2) (n0 := Z.heap.size) (cs := [(i0 &&& (255 : Int32)), (i1 &&& (255 : Int32))]) (bs := [(i0 &&& (255 : Int32)).toInt8.toInt32, (i1 &&& (255 : Int32)).toInt8.toInt32]) C140.warm G.w_backV (kI := 4) (W4 hw) zg140 C140.le E140 f142 f143 f141 (Sc.ext C140.old) hzc rfl rfl (by decide) (by decide) hp144 rfl (by decide) (by decide)) (fun _ _ _ q => ⟨q.2.1, q.2.2.1⟩) (allS zg140 all0) (sfS S140 sf0) rfl (by decide) (by decide) (lenOf pd_285b432956 rfl) rfl (Nat.le_of_ble_eq_true rfl) rfl at_405 (pc' := 408) rfl ?_
        intro T144 h144 v144 C144 K144 A144 q144
        obtain ⟨_, rfl, -, -, E144, F144, t144, kb144, zg144, ge144, nt144, f144, V144⟩ := q144
        have Z144 : Str Z h144 a140 t144 kb144 [(i0 &&& (255 : Int32)), (i1 &&& (255 : Int32))] := ⟨E144, F144, f144, V144, hp144, Nat.le_of_ble_eq_true rfl⟩
        show Endw p e below T144 (mkF m 408 #[.val (.int i0), .val (.int i1), .val (.int i2), .val (.int (i0 &&& (255 : Int32))), .val (.int (i1 &&& (255 : Int32))), .val (.int (1 : Int32)), .val (.int (0 : Int32)), .val (.int (0 : Int32)), .val (.ref dm), .val (.ref a126), .val (.ref a137), .unset] [(.ref a140)]) _
        refine Endw.st (T' := T144) (g' := (mkF m 420 #[.val (.int i0), .val (.int i1), .val (.int i2), .val (.int (i0 &&& (255 : Int32))), .val (.int (i1 &&& (255 : Int32))), .val (.int (1 : Int32)), .val (.int (0 : Int32)), .val (.int (0 : Int32)), .val (.ref dm), .val (.ref a126), .val (.ref a137), .val (.ref a140)] [(.int (0 : Int32)), (.int (0 : Int32)), (.ref a126), (.ref dm), (.ref a140)])) (fun tt_ kk_ => XS.astore C144.here C144.hx rfl (C144.dec at_408) rfl rfl (l' := #[.val (.int i0), .val (.int i1), .val (.int i2), .val (.int (i0 &&& (255 : Int32))), .val (.int (i1 &&& (255 : Int32))), .val (.int (1 : Int32)), .val (.int (0 : Int32)), .val (.int (0 : Int32)), .val (.ref dm), .val (.ref a126), .val (.ref a137), .val (.ref a140)]) rfl (XS.aload C144.here C144.hx rfl (C144.dec at_410) rfl rfl (XS.aload C144.here C144.hx rfl (C144.dec at_412) rfl rfl (XS.aload C144.here C144.hx rfl (C144.dec at_414) rfl rfl (XS.iload C144.here C144.hx rfl (C144.dec at_416) rfl (XS.iload C144.here C144.hx rfl (C144.dec at_418) rfl kk_)))))) ?_
        have f145 := (((((((((Fm.ext O).keep K126 nin0).keep K127 nin0).keep K129 (ninS (Nat.ne_of_lt (Nat.lt_of_lt_of_le (Nat.lt_of_lt_of_le (Em.ext O).lt K126.1) ge127)) nin0)).keep K135 (ninS (Nat.ne_of_lt (Nat.lt_of_lt_of_le (Em.ext O).lt ge126)) nin0)).keep K137 nin0).keep K139 (ninS (Nat.ne_of_lt (Nat.lt_of_lt_of_le (Nat.lt_of_lt_of_le (Em.ext O).lt (Nat.le_trans K126.1 (Nat.le_trans K127.1 (Nat.le_trans K129.1 K135.1)))) ge137)) nin0)).keep K140 nin0).keep K144 (ninS (Nat.ne_of_lt (Nat.lt_of_lt_of_le (Nat.lt_of_lt_of_le (Em.ext O).lt (Nat.le_trans K126.1 (Nat.le_trans K127.1 (Nat.le_trans K129.1 (Nat.le_trans K135.1 (Nat.le_trans K137.1 K139.1)))))) ge140)) nin0))
        have f146 := ((((Z135.keep K137 nin0 nin0).keep K139 (ninS (Nat.ne_of_lt (Nat.lt_of_lt_of_le (Nat.lt_of_lt_of_le E126.lt (Nat.le_trans K127.1 (Nat.le_trans K129.1 K135.1))) ge137)) nin0) (ninS (Nat.ne_of_lt (Nat.lt_of_lt_of_le V135.lt ge137)) nin0)).keep K140 nin0 nin0).keep K144 (ninS (Nat.ne_of_lt (Nat.lt_of_lt_of_le (Nat.lt_of_lt_of_le E126.lt (Nat.le_trans K127.1 (Nat.le_trans K129.1 (Nat.le_trans K135.1 (Nat.le_trans K137.1 K139.1))))) ge140)) nin0) (ninS (Nat.ne_of_lt (Nat.lt_of_lt_of_le (Nat.lt_of_lt_of_le V135.lt (Nat.le_trans K137.1 K139.1)) ge140)) nin0))
        have f148 := (((((((((Em.ext O).keep K126).keep K127).keep K129).keep K135).keep K137).keep K139).keep K140).keep K144)
        refine C144.virtual (y := (⟨"com/example/frugal_orm/frugalorm/Dialect", "orderItems", "(Ljava/lang/String;ZZ)Ljava/lang/String;"⟩ : MethodName)) (z := (⟨"com/example/frugal_orm/frugalorm/Dialect", "orderItems", "(Ljava/lang/String;ZZ)Ljava/lang/String;"⟩ : MethodName)) (W := 1) (a := dm) (argsL := [(.ref a126), (.int (0 : Int32)), (.int (0 : Int32))]) (rest := [(.ref a140)]) (W33 hw) (W34 hw) (fun _ q => notFace_of_selects (args := #[]) (mvT q (W36 hw))) (W36 hw) (W35 hw) (W37 hw) (W1 hw) (by decide) (rm_oi001 l Z a0 EL G dm a126 t135 kb135 (i0 &&& (255 : Int32)) (i1 &&& (255 : Int32)) h144 C144.old f145 f146) (fun z => nomatch z) rfl f148 all0 (by decide) (by decide) (by decide) (by decide) (lenOf pd_19 rfl) rfl (Nat.le_of_ble_eq_true rfl) rfl at_420 (pc' := 423) rfl ?_
        intro vm147 T147 h147 v147 C147 A147 M147 q147
        obtain ⟨a147, t147, kb147, rfl, K147, ge147, gt147, zg147, zt147, Z147⟩ := q147
        show Endw p e below T147 (mkF m 423 #[.val (.int i0), .val (.int i1), .val (.int i2), .val (.int (i0 &&& (255 : Int32))), .val (.int (i1 &&& (255 : Int32))), .val (.int (1 : Int32)), .val (.int (0 : Int32)), .val (.int (0 : Int32)), .val (.ref dm), .val (.ref a126), .val (.ref a137), .val (.ref a140)] [(.ref a147), (.ref a140)]) _
        have f149 := (Z144.keep K147 nin0 nin0)
        have f151 := (E144.keep K147)
        refine C147.virtualF (y := (⟨"java/lang/String", "equals", "(Ljava/lang/Object;)Z"⟩ : MethodName)) (z := (⟨"java/lang/String", "equals", "(Ljava/lang/Object;)Z"⟩ : MethodName)) (ws := []) (W := 0) (a := a140) (argsL := [.ref a147]) (rest := []) (ck := 0) (cn := 0) (Qf := fun v h' L => ((v = some (.int 1) ∧ [(i0 &&& (255 : Int32)), (i1 &&& (255 : Int32))] = (([] ++ [(i0 &&& (255 : Int32)), (i1 &&& (255 : Int32))]) ++ [])) ∨ (v = some (.int 0) ∧ ¬ [(i0 &&& (255 : Int32)), (i1 &&& (255 : Int32))] = (([] ++ [(i0 &&& (255 : Int32)), (i1 &&& (255 : Int32))]) ++ []))) ∧ L = [] ∧ h' = h147) (W151 hw) (W152 hw) (fun _ q => notFace_of_selects (args := #[]) (mvT q (W154 hw))) (W154 hw) (W153 hw) (by decide) (StrChars.Road.eqW (W := 0) (cs := [(i0 &&& (255 : Int32)), (i1 &&& (255 : Int32))]) (ds := (([] ++ [(i0 &&& (255 : Int32)), (i1 &&& (255 : Int32))]) ++ [])) C147.warm G.w_eqW (kI := 4) (W4 hw) f149.1 f149.2.2.1 f149.2.1 f149.2.2.2.1 (StrChars.Road.codOf rfl (fun c q => (f149.2.2.2.2.1 c q).2)) (fun c q => own_b16 (f149.2.2.2.2.1 c q)) f149.2.2.2.2.2 Z147.1 Z147.2.2.1 Z147.2.1 Z147.2.2.2.1 (StrChars.Road.codOf rfl (fun c q => (Z147.2.2.2.2.1 c q).2)) (fun c q => own_b16 (Z147.2.2.2.2.1 c q)) Z147.2.2.2.2.2 (Sc.ext C147.old) hzc (by decide) (by decide)) (fun _ _ _ q => ⟨by rw [q.2.1]; exact Fr.nil _, by rw [q.2.2]; exact Keep.refl _ _⟩) all0 sf0 rfl f151 (by decide) (by decide) (lenOf pd_14 rfl) rfl (Nat.le_of_ble_eq_true rfl) rfl at_423 (pc' := 426) rfl ?_
        intro T150 h150 v150 C150 K150 A150 q150
        obtain ⟨_, q150, -, -⟩ := q150
        obtain rfl : v150 = some (.int 1) := q150.elim (fun z => z.1) (fun z => absurd (rfl) z.2)
        show Endw p e below T150 (mkF m 426 #[.val (.int i0), .val (.int i1), .val (.int i2), .val (.int (i0 &&& (255 : Int32))), .val (.int (i1 &&& (255 : Int32))), .val (.int (1 : Int32)), .val (.int (0 : Int32)), .val (.int (0 : Int32)), .val (.ref dm), .val (.ref a126), .val (.ref a137), .val (.ref a140)] [(.int (1 : Int32))]) _
        exact C150.retI (t := .boolean) rfl (by simp) rfl at_426 (by decide) (by decide) rfl
      · refine Endw.st (T' := T0) (g' := (mkF m 59 #[.val (.int i0), .val (.int i1), .val (.int i2), .val (.int (i0 &&& (255 : Int32))), .val (.int (i1 &&& (255 : Int32))), .val (.int (1 : Int32)), .val (.int (0 : Int32)), .val (.int (1 : Int32)), .unset, .unset, .unset, .unset] [])) (fun tt_ kk_ => XS.ifNo C0.here C0.hx rfl (C0.dec at_44) rfl (XT.i0_eq_f c124) (XS.iconst C0.here C0.hx rfl (C0.dec at_47) (XS.goto C0.here C0.hx rfl (pc0 := 48) rfl (C0.dec at_48) (by decide) rfl (XS.istore C0.here C0.hx rfl (C0.dec at_52) rfl (l' := #[.val (.int i0), .val (.int i1), .val (.int i2), .val (.int (i0 &&& (255 : Int32))), .val (.int (i1 &&& (255 : Int32))), .val (.int (1 : Int32)), .val (.int (0 : Int32)), .val (.int (1 : Int32)), .unset, .unset, .unset, .unset]) rfl (XS.iload C0.here C0.hx rfl (C0.dec at_54) rfl (XS.ifNo C0.here C0.hx rfl (C0.dec at_56) rfl (XT.i0_eq_f (by decide)) kk_)))))) ?_
        refine C0.getS (W161 hw) Sm at_59 (pc' := 62) rfl ?_
        intro T152 C152
        show Endw p e below T152 (mkF m 62 #[.val (.int i0), .val (.int i1), .val (.int i2), .val (.int (i0 &&& (255 : Int32))), .val (.int (i1 &&& (255 : Int32))), .val (.int (1 : Int32)), .val (.int (0 : Int32)), .val (.int (1 : Int32)), .unset, .unset, .unset, .unset] [(.ref dm)]) _
        refine Endw.st (T' := T152) (g' := (mkF m 70 #[.val (.int i0), .val (.int i1), .val (.int i2), .val (.int (i0 &&& (255 : Int32))), .val (.int (i1 &&& (255 : Int32))), .val (.int (1 : Int32)), .val (.int (0 : Int32)), .val (.int (1 : Int32)), .val (.ref dm), .unset, .unset, .unset] [])) (fun tt_ kk_ => XS.goto C152.here C152.hx rfl (pc0 := 62) rfl (C152.dec at_62) (by decide) rfl (XS.astore C152.here C152.hx rfl (C152.dec at_68) rfl rfl (l' := #[.val (.int i0), .val (.int i1), .val (.int i2), .val (.int (i0 &&& (255 : Int32))), .val (.int (i1 &&& (255 : Int32))), .val (.int (1 : Int32)), .val (.int (0 : Int32)), .val (.int (1 : Int32)), .val (.ref dm), .unset, .unset, .unset]) rfl kk_)) ?_
        refine C152.new (W3 hw) (W4 hw) (W5 hw) at_70 (pc' := 73) rfl (by decide) (by decide) ?_
        intro T153 h153 a153 C153 K153 A153 ge153 zg153 E153 D153 S153
        show Endw p e below T153 (mkF m 73 #[.val (.int i0), .val (.int i1), .val (.int i2), .val (.int (i0 &&& (255 : Int32))), .val (.int (i1 &&& (255 : Int32))), .val (.int (1 : Int32)), .val (.int (0 : Int32)), .val (.int (1 : Int32)), .val (.ref dm), .unset, .unset, .unset] [(.ref a153)]) _
        refine Endw.st (T' := T153) (g' := (mkF m 75 #[.val (.int i0), .val (.int i1), .val (.int i2), .val (.int (i0 &&& (255 : Int32))), .val (.int (i1 &&& (255 : Int32))), .val (.int (1 : Int32)), .val (.int (0 : Int32)), .val (.int (1 : Int32)), .val (.ref dm), .unset, .unset, .unset] [(.int (2 : Int32)), (.ref a153), (.ref a153)])) (fun tt_ kk_ => XS.dup C153.here C153.hx rfl (C153.dec at_73) rfl rfl (XS.iconst C153.here C153.hx rfl (C153.dec at_74) kk_)) ?_
        refine C153.newA (aty := .char) (z := (2 : Int32)) (cap := 2) (vs := [(.int 0), (.int 0)]) (W6 hw) at_75 (pc' := 77) rfl (by decide) (by decide) (by decide) (by decide) (by decide) rfl ?_
        intro T154 h154 a154 kA154 C154 K154 A154 ge154 zg154 V154 S154
        show Endw p e below T154 (mkF m 77 #[.val (.int i0), .val (.int i1), .val (.int i2), .val (.int (i0 &&& (255 : Int32))), .val (.int (i1 &&& (255 : Int32))), .val (.int (1 : Int32)), .val (.int (0 : Int32)), .val (.int (1 : Int32)), .val (.ref dm), .unset, .unset, .unset] [(.ref a154), (.ref a153), (.ref a153)]) _
        refine Endw.st (T' := T154) (g' := (mkF m 80 #[.val (.int i0), .val (.int i1), .val (.int i2), .val (.int (i0 &&& (255 : Int32))), .val (.int (i1 &&& (255 : Int32))), .val (.int (1 : Int32)), .val (.int (0 : Int32)), .val (.int (1 : Int32)), .val (.ref dm), .unset, .unset, .unset] [(.int (i0 &&& (255 : Int32))), (.int (0 : Int32)), (.ref a154), (.ref a154), (.ref a153), (.ref a153)])) (fun tt_ kk_ => XS.dup C154.here C154.hx rfl (C154.dec at_77) rfl rfl (XS.iconst C154.here C154.hx rfl (C154.dec at_78) (XS.iloadN C154.here C154.hx rfl (C154.dec at_79) rfl kk_))) ?_
        refine C154.castore V154 ⟨by decide, by decide⟩ 0 (by decide) (Nat.le_of_ble_eq_true rfl) (x' := (i0 &&& (255 : Int32))) (i2c_mask _) zg154 (vs' := [(.int (i0 &&& (255 : Int32))), (.int 0)]) rfl at_80 (pc' := 81) rfl ?_
        intro T155 h155 C155 K155 A155 V155
        show Endw p e below T155 (mkF m 81 #[.val (.int i0), .val (.int i1), .val (.int i2), .val (.int (i0 &&& (255 : Int32))), .val (.int (i1 &&& (255 : Int32))), .val (.int (1 : Int32)), .val (.int (0 : Int32)), .val (.int (1 : Int32)), .val (.ref dm), .unset, .unset, .unset] [(.ref a154), (.ref a153), (.ref a153)]) _
        refine Endw.st (T' := T155) (g' := (mkF m 85 #[.val (.int i0), .val (.int i1), .val (.int i2), .val (.int (i0 &&& (255 : Int32))), .val (.int (i1 &&& (255 : Int32))), .val (.int (1 : Int32)), .val (.int (0 : Int32)), .val (.int (1 : Int32)), .val (.ref dm), .unset, .unset, .unset] [(.int (i1 &&& (255 : Int32))), (.int (1 : Int32)), (.ref a154), (.ref a154), (.ref a153), (.ref a153)])) (fun tt_ kk_ => XS.dup C155.here C155.hx rfl (C155.dec at_81) rfl rfl (XS.iconst C155.here C155.hx rfl (C155.dec at_82) (XS.iload C155.here C155.hx rfl (C155.dec at_83) rfl kk_))) ?_
        refine C155.castore V155 ⟨by decide, by decide⟩ 1 (by decide) (Nat.le_of_ble_eq_true rfl) (x' := (i1 &&& (255 : Int32))) (i2c_mask _) zg154 (vs' := [(.int (i0 &&& (255 : Int32))), (.int (i1 &&& (255 : Int32)))]) rfl at_85 (pc' := 86) rfl ?_
        intro T156 h156 C156 K156 A156 V156
        replace K156 := Keep.trans K155 K156 (allS (Or.inl (by simp)) all0)
        replace A156 := CHr.trans A155 A156
        clear C155 V155 K155 A155 T155 h155
        show Endw p e below T156 (mkF m 86 #[.val (.int i0), .val (.int i1), .val (.int i2), .val (.int (i0 &&& (255 : Int32))), .val (.int (i1 &&& (255 : Int32))), .val (.int (1 : Int32)), .val (.int (0 : Int32)), .val (.int (1 : Int32)), .val (.ref dm), .unset, .unset, .unset] [(.ref a154), (.ref a153), (.ref a153)]) _
        have f157 := ((E153.keep K154).keep K156)
        have f158 : Fld Z h153 a153 "java/lang/String" "value" "[B" .null := D153 (Or.inr (W32 hw)) (ty := (.array .byte)) (by decide)
        have f159 := ((f158.keep K154 nin0).keep K156 (ninS (Nat.ne_of_lt (Nat.lt_of_lt_of_le E153.lt ge154)) nin0))
        have f160 : Fld Z h153 a153 "java/lang/String" "coder" "B" (.int (0 : Int32)) := D153 (Or.inr (W30 hw)) (ty := .byte) (by decide)
        have f161 := ((f160.keep K154 nin0).keep K156 (ninS (Nat.ne_of_lt (Nat.lt_of_lt_of_le E153.lt ge154)) nin0))
        have hp162 : ∀ c ∈ [(i0 &&& (255 : Int32)), (i1 &&& (255 : Int32))], B8 c := (own_cS (own_mask255 _) (own_cS (own_mask255 _) own_c0))
        have f163 := (A156.safe (Nat.lt_of_lt_of_le E153.lt K154.1) (A154.safe E153.lt S153))
        refine C156.specialF (y := (⟨"java/lang/String", "<init>", "([C)V"⟩ : MethodName)) (ws := [a153]) (W := 1) (a := a153) (argsL := [.ref a154]) (rest := [(.ref a153)]) (ck := 1) (cn := 2) rfl (W7 hw) (W8 hw) (W9 hw) (by decide) (StrChars.Road.backV (W := 1) (n := 2) (n0 := Z.heap.size) (cs := [(i0 &&& (255 : Int32)), (i1 &&& (255 : Int32))]) (bs := [(i0 &&& (255 : Int32)).toInt8.toInt32, (i1 &&& (255 : Int32)).toInt8.toInt32]) C156.warm G.w_backV (kI := 4) (W4 hw) zg153 C156.le f157 f159 f161 V156 (Sc.ext C156.old) hzc rfl rfl (by decide) (by decide) hp162 rfl (by decide) (by decide)) (fun _ _ _ q => ⟨q.2.1, q.2.2.1⟩) (allS zg153 all0) (sfS f163 sf0) rfl (by decide) (by decide) (lenOf pd_285b432956 rfl) rfl (Nat.le_of_ble_eq_true rfl) rfl at_86 (pc' := 89) rfl ?_
        intro T162 h162 v162 C162 K162 A162 q162
        obtain ⟨_, rfl, -, -, E162, F162, t162, kb162, zg162, ge162, nt162, f162, V162⟩ := q162
        have Z162 : Str Z h162 a153 t162 kb162 [(i0 &&& (255 : Int32)), (i1 &&& (255 : Int32))] := ⟨E162, F162, f162, V162, hp162, Nat.le_of_ble_eq_true rfl⟩
        show Endw p e below T162 (mkF m 89 #[.val (.int i0), .val (.int i1), .val (.int i2), .val (.int (i0 &&& (255 : Int32))), .val (.int (i1 &&& (255 : Int32))), .val (.int (1 : Int32)), .val (.int (0 : Int32)), .val (.int (1 : Int32)), .val (.ref dm), .unset, .unset, .unset] [(.ref a153)]) _
        refine Endw.st (T' := T162) (g' := (mkF m 253 #[.val (.int i0), .val (.int i1), .val (.int i2), .val (.int (i0 &&& (255 : Int32))), .val (.int (i1 &&& (255 : Int32))), .val (.int (1 : Int32)), .val (.int (0 : Int32)), .val (.int (1 : Int32)), .val (.ref dm), .val (.ref a153), .unset, .unset] [(.int (14 : Int32))])) (fun tt_ kk_ => XS.astore C162.here C162.hx rfl (C162.dec at_89) rfl rfl (l' := #[.val (.int i0), .val (.int i1), .val (.int i2), .val (.int (i0 &&& (255 : Int32))), .val (.int (i1 &&& (255 : Int32))), .val (.int (1 : Int32)), .val (.int (0 : Int32)), .val (.int (1 : Int32)), .val (.ref dm), .val (.ref a153), .unset, .unset]) rfl (XS.iload C162.here C162.hx rfl (C162.dec at_91) rfl (XS.ifNo C162.here C162.hx rfl (C162.dec at_93) rfl (XT.i0_eq_f (by decide)) (XS.iload C162.here C162.hx rfl (C162.dec at_96) rfl (XS.ifNo C162.here C162.hx rfl (C162.dec at_98) rfl (XT.i0_eq_f (by decide)) (XS.iload C162.here C162.hx rfl (C162.dec at_101) rfl (XS.ifYes C162.here C162.hx rfl (pc0 := 103) rfl (C162.dec at_103) rfl (XT.i0_eq_t (by decide)) (by decide) rfl (XS.bipush C162.here C162.hx rfl (C162.dec at_251) kk_)))))))) ?_
        refine C162.newA (aty := .char) (z := (14 : Int32)) (cap := 14) (vs := [(.int 0), (.int 0), (.int 0), (.int 0), (.int 0), (.int 0), (.int 0), (.int 0), (.int 0), (.int 0), (.int 0), (.int 0), (.int 0), (.int 0)]) (W6 hw) at_253 (pc' := 255) rfl (by decide) (by decide) (by decide) (by decide) (by decide) rfl ?_
        intro T164 h164 a164 kA164 C164 K164 A164 ge164 zg164 V164 S164
        show Endw p e below T164 (mkF m 255 #[.val (.int i0), .val (.int i1), .val (.int i2), .val (.int (i0 &&& (255 : Int32))), .val (.int (i1 &&& (255 : Int32))), .val (.int (1 : Int32)), .val (.int (0 : Int32)), .val (.int (1 : Int32)), .val (.ref dm), .val (.ref a153), .unset, .unset] [(.ref a164)]) _
        refine Endw.st (T' := T164) (g' := (mkF m 258 #[.val (.int i0), .val (.int i1), .val (.int i2), .val (.int (i0 &&& (255 : Int32))), .val (.int (i1 &&& (255 : Int32))), .val (.int (1 : Int32)), .val (.int (0 : Int32)), .val (.int (1 : Int32)), .val (.ref dm), .val (.ref a153), .unset, .unset] [(.int (i0 &&& (255 : Int32))), (.int (0 : Int32)), (.ref a164), (.ref a164)])) (fun tt_ kk_ => XS.dup C164.here C164.hx rfl (C164.dec at_255) rfl rfl (XS.iconst C164.here C164.hx rfl (C164.dec at_256) (XS.iloadN C164.here C164.hx rfl (C164.dec at_257) rfl kk_))) ?_
        refine C164.castore V164 ⟨by decide, by decide⟩ 0 (by decide) (Nat.le_of_ble_eq_true rfl) (x' := (i0 &&& (255 : Int32))) (i2c_mask _) zg164 (vs' := [(.int (i0 &&& (255 : Int32))), (.int 0), (.int 0), (.int 0), (.int 0), (.int 0), (.int 0), (.int 0), (.int 0), (.int 0), (.int 0), (.int 0), (.int 0), (.int 0)]) rfl at_258 (pc' := 259) rfl ?_
        intro T165 h165 C165 K165 A165 V165
        show Endw p e below T165 (mkF m 259 #[.val (.int i0), .val (.int i1), .val (.int i2), .val (.int (i0 &&& (255 : Int32))), .val (.int (i1 &&& (255 : Int32))), .val (.int (1 : Int32)), .val (.int (0 : Int32)), .val (.int (1 : Int32)), .val (.ref dm), .val (.ref a153), .unset, .unset] [(.ref a164)]) _
        refine Endw.st (T' := T165) (g' := (mkF m 263 #[.val (.int i0), .val (.int i1), .val (.int i2), .val (.int (i0 &&& (255 : Int32))), .val (.int (i1 &&& (255 : Int32))), .val (.int (1 : Int32)), .val (.int (0 : Int32)), .val (.int (1 : Int32)), .val (.ref dm), .val (.ref a153), .unset, .unset] [(.int (i1 &&& (255 : Int32))), (.int (1 : Int32)), (.ref a164), (.ref a164)])) (fun tt_ kk_ => XS.dup C165.here C165.hx rfl (C165.dec at_259) rfl rfl (XS.iconst C165.here C165.hx rfl (C165.dec at_260) (XS.iload C165.here C165.hx rfl (C165.dec at_261) rfl kk_))) ?_
        refine C165.castore V165 ⟨by decide, by decide⟩ 1 (by decide) (Nat.le_of_ble_eq_true rfl) (x' := (i1 &&& (255 : Int32))) (i2c_mask _) zg164 (vs' := [(.int (i0 &&& (255 : Int32))), (.int (i1 &&& (255 : Int32))), (.int 0), (.int 0), (.int 0), (.int 0), (.int 0), (.int 0), (.int 0), (.int 0), (.int 0), (.int 0), (.int 0), (.int 0)]) rfl at_263 (pc' := 264) rfl ?_
        intro T166 h166 C166 K166 A166 V166
        replace K166 := Keep.trans K165 K166 (allS (Or.inl (by simp)) all0)
        replace A166 := CHr.trans A165 A166
        clear C165 V165 K165 A165 T165 h165
        show Endw p e below T166 (mkF m 264 #[.val (.int i0), .val (.int i1), .val (.int i2), .val (.int (i0 &&& (255 : Int32))), .val (.int (i1 &&& (255 : Int32))), .val (.int (1 : Int32)), .val (.int (0 : Int32)), .val (.int (1 : Int32)), .val (.ref dm), .val (.ref a153), .unset, .unset] [(.ref a164)]) _
        refine Endw.st (T' := T166) (g' := (mkF m 268 #[.val (.int i0), .val (.int i1), .val (.int i2), .val (.int (i0 &&& (255 : Int32))), .val (.int (i1 &&& (255 : Int32))), .val (.int (1 : Int32)), .val (.int (0 : Int32)), .val (.int (1 : Int32)), .val (.ref dm), .val (.ref a153), .unset, .unset] [(.int (32 : Int32)), (.int (2 : Int32)), (.ref a164), (.ref a164)])) (fun tt_ kk_ => XS.dup C166.here C166.hx rfl (C166.dec at_264) rfl rfl (XS.iconst C166.here C166.hx rfl (C166.dec at_265) (XS.bipush C166.here C166.hx rfl (C166.dec at_266) kk_))) ?_
        refine C166.castore V166 ⟨by decide, by decide⟩ 2 (by decide) (Nat.le_of_ble_eq_true rfl) (x' := (32 : Int32)) (by decide) zg164 (vs' := [(.int (i0 &&& (255 : Int32))), (.int (i1 &&& (255 : Int32))), (.int (32 : Int32)), (.int 0), (.int 0), (.int 0), (.int 0), (.int 0), (.int 0), (.int 0), (.int 0), (.int 0), (.int 0), (.int 0)]) rfl at_268 (pc' := 269) rfl ?_
        intro T167 h167 C167 K167 A167 V167
        replace K167 := Keep.trans K166 K167 (allS (Or.inl (by simp)) all0)
        replace A167 := CHr.trans A166 A167
        clear C166 V166 K166 A166 T166 h166
        show Endw p e below T167 (mkF m 269 #[.val (.int i0), .val (.int i1), .val (.int i2), .val (.int (i0 &&& (255 : Int32))), .val (.int (i1 &&& (255 : Int32))), .val (.int (1 : Int32)), .val (.int (0 : Int32)), .val (.int (1 : Int32)), .val (.ref dm), .val (.ref a153), .unset, .unset] [(.ref a164)]) _
        refine Endw.st (T' := T167) (g' := (mkF m 273 #[.val (.int i0), .val (.int i1), .val (.int i2), .val (.int (i0 &&& (255 : Int32))), .val (.int (i1 &&& (255 : Int32))), .val (.int (1 : Int32)), .val (.int (0 : Int32)), .val (.int (1 : Int32)), .val (.ref dm), .val (.ref a153), .unset, .unset] [(.int (105 : Int32)), (.int (3 : Int32)), (.ref a164), (.ref a164)])) (fun tt_ kk_ => XS.dup C167.here C167.hx rfl (C167.dec at_269) rfl rfl (XS.iconst C167.here C167.hx rfl (C167.dec at_270) (XS.bipush C167.here C167.hx rfl (C167.dec at_271) kk_))) ?_
        refine C167.castore V167 ⟨by decide, by decide⟩ 3 (by decide) (Nat.le_of_ble_eq_true rfl) (x' := (105 : Int32)) (by decide) zg164 (vs' := [(.int (i0 &&& (255 : Int32))), (.int (i1 &&& (255 : Int32))), (.int (32 : Int32)), (.int (105 : Int32)), (.int 0), (.int 0), (.int 0), (.int 0), (.int 0), (.int 0), (.int 0), (.int 0), (.int 0), (.int 0)]) rfl at_273 (pc' := 274) rfl ?_
        intro T168 h168 C168 K168 A168 V168
        replace K168 := Keep.trans K167 K168 (allS (Or.inl (by simp)) all0)
        replace A168 := CHr.trans A167 A168
        clear C167 V167 K167 A167 T167 h167
        show Endw p e below T168 (mkF m 274 #[.val (.int i0), .val (.int i1), .val (.int i2), .val (.int (i0 &&& (255 : Int32))), .val (.int (i1 &&& (255 : Int32))), .val (.int (1 : Int32)), .val (.int (0 : Int32)), .val (.int (1 : Int32)), .val (.ref dm), .val (.ref a153), .unset, .unset] [(.ref a164)]) _
        refine Endw.st (T' := T168) (g' := (mkF m 278 #[.val (.int i0), .val (.int i1), .val (.int i2), .val (.int (i0 &&& (255 : Int32))), .val (.int (i1 &&& (255 : Int32))), .val (.int (1 : Int32)), .val (.int (0 : Int32)), .val (.int (1 : Int32)), .val (.ref dm), .val (.ref a153), .unset, .unset] [(.int (115 : Int32)), (.int (4 : Int32)), (.ref a164), (.ref a164)])) (fun tt_ kk_ => XS.dup C168.here C168.hx rfl (C168.dec at_274) rfl rfl (XS.iconst C168.here C168.hx rfl (C168.dec at_275) (XS.bipush C168.here C168.hx rfl (C168.dec at_276) kk_))) ?_
        refine C168.castore V168 ⟨by decide, by decide⟩ 4 (by decide) (Nat.le_of_ble_eq_true rfl) (x' := (115 : Int32)) (by decide) zg164 (vs' := [(.int (i0 &&& (255 : Int32))), (.int (i1 &&& (255 : Int32))), (.int (32 : Int32)), (.int (105 : Int32)), (.int (115 : Int32)), (.int 0), (.int 0), (.int 0), (.int 0), (.int 0), (.int 0), (.int 0), (.int 0), (.int 0)]) rfl at_278 (pc' := 279) rfl ?_
        intro T169 h169 C169 K169 A169 V169
        replace K169 := Keep.trans K168 K169 (allS (Or.inl (by simp)) all0)
        replace A169 := CHr.trans A168 A169
        clear C168 V168 K168 A168 T168 h168
        show Endw p e below T169 (mkF m 279 #[.val (.int i0), .val (.int i1), .val (.int i2), .val (.int (i0 &&& (255 : Int32))), .val (.int (i1 &&& (255 : Int32))), .val (.int (1 : Int32)), .val (.int (0 : Int32)), .val (.int (1 : Int32)), .val (.ref dm), .val (.ref a153), .unset, .unset] [(.ref a164)]) _
        refine Endw.st (T' := T169) (g' := (mkF m 283 #[.val (.int i0), .val (.int i1), .val (.int i2), .val (.int (i0 &&& (255 : Int32))), .val (.int (i1 &&& (255 : Int32))), .val (.int (1 : Int32)), .val (.int (0 : Int32)), .val (.int (1 : Int32)), .val (.ref dm), .val (.ref a153), .unset, .unset] [(.int (32 : Int32)), (.int (5 : Int32)), (.ref a164), (.ref a164)])) (fun tt_ kk_ => XS.dup C169.here C169.hx rfl (C169.dec at_279) rfl rfl (XS.iconst C169.here C169.hx rfl (C169.dec at_280) (XS.bipush C169.here C169.hx rfl (C169.dec at_281) kk_))) ?_
        refine C169.castore V169 ⟨by decide, by decide⟩ 5 (by decide) (Nat.le_of_ble_eq_true rfl) (x' := (32 : Int32)) (by decide) zg164 (vs' := [(.int (i0 &&& (255 : Int32))), (.int (i1 &&& (255 : Int32))), (.int (32 : Int32)), (.int (105 : Int32)), (.int (115 : Int32)), (.int (32 : Int32)), (.int 0), (.int 0), (.int 0), (.int 0), (.int 0), (.int 0), (.int 0), (.int 0)]) rfl at_283 (pc' := 284) rfl ?_
        intro T170 h170 C170 K170 A170 V170
        replace K170 := Keep.trans K169 K170 (allS (Or.inl (by simp)) all0)
        replace A170 := CHr.trans A169 A170
        clear C169 V169 K169 A169 T169 h169
        show Endw p e below T170 (mkF m 284 #[.val (.int i0), .val (.int i1), .val (.int i2), .val (.int (i0 &&& (255 : Int32))), .val (.int (i1 &&& (255 : Int32))), .val (.int (1 : Int32)), .val (.int (0 : Int32)), .val (.int (1 : Int32)), .val (.ref dm), .val (.ref a153), .unset, .unset] [(.ref a164)]) _
        refine Endw.st (T' := T170) (g' := (mkF m 289 #[.val (.int i0), .val (.int i1), .val (.int i2), .val (.int (i0 &&& (255 : Int32))), .val (.int (i1 &&& (255 : Int32))), .val (.int (1 : Int32)), .val (.int (0 : Int32)), .val (.int (1 : Int32)), .val (.ref dm), .val (.ref a153), .unset, .unset] [(.int (110 : Int32)), (.int (6 : Int32)), (.ref a164), (.ref a164)])) (fun tt_ kk_ => XS.dup C170.here C170.hx rfl (C170.dec at_284) rfl rfl (XS.bipush C170.here C170.hx rfl (C170.dec at_285) (XS.bipush C170.here C170.hx rfl (C170.dec at_287) kk_))) ?_
        refine C170.castore V170 ⟨by decide, by decide⟩ 6 (by decide) (Nat.le_of_ble_eq_true rfl) (x' := (110 : Int32)) (by decide) zg164 (vs' := [(.int (i0 &&& (255 : Int32))), (.int (i1 &&& (255 : Int32))), (.int (32 : Int32)), (.int (105 : Int32)), (.int (115 : Int32)), (.int (32 : Int32)), (.int (110 : Int32)), (.int 0), (.int 0), (.int 0), (.int 0), (.int 0), (.int 0), (.int 0)]) rfl at_289 (pc' := 290) rfl ?_
        intro T171 h171 C171 K171 A171 V171
        replace K171 := Keep.trans K170 K171 (allS (Or.inl (by simp)) all0)
        replace A171 := CHr.trans A170 A171
        clear C170 V170 K170 A170 T170 h170
        show Endw p e below T171 (mkF m 290 #[.val (.int i0), .val (.int i1), .val (.int i2), .val (.int (i0 &&& (255 : Int32))), .val (.int (i1 &&& (255 : Int32))), .val (.int (1 : Int32)), .val (.int (0 : Int32)), .val (.int (1 : Int32)), .val (.ref dm), .val (.ref a153), .unset, .unset] [(.ref a164)]) _
        refine Endw.st (T' := T171) (g' := (mkF m 295 #[.val (.int i0), .val (.int i1), .val (.int i2), .val (.int (i0 &&& (255 : Int32))), .val (.int (i1 &&& (255 : Int32))), .val (.int (1 : Int32)), .val (.int (0 : Int32)), .val (.int (1 : Int32)), .val (.ref dm), .val (.ref a153), .unset, .unset] [(.int (117 : Int32)), (.int (7 : Int32)), (.ref a164), (.ref a164)])) (fun tt_ kk_ => XS.dup C171.here C171.hx rfl (C171.dec at_290) rfl rfl (XS.bipush C171.here C171.hx rfl (C171.dec at_291) (XS.bipush C171.here C171.hx rfl (C171.dec at_293) kk_))) ?_
        refine C171.castore V171 ⟨by decide, by decide⟩ 7 (by decide) (Nat.le_of_ble_eq_true rfl) (x' := (117 : Int32)) (by decide) zg164 (vs' := [(.int (i0 &&& (255 : Int32))), (.int (i1 &&& (255 : Int32))), (.int (32 : Int32)), (.int (105 : Int32)), (.int (115 : Int32)), (.int (32 : Int32)), (.int (110 : Int32)), (.int (117 : Int32)), (.int 0), (.int 0), (.int 0), (.int 0), (.int 0), (.int 0)]) rfl at_295 (pc' := 296) rfl ?_
        intro T172 h172 C172 K172 A172 V172
        replace K172 := Keep.trans K171 K172 (allS (Or.inl (by simp)) all0)
        replace A172 := CHr.trans A171 A172
        clear C171 V171 K171 A171 T171 h171
        show Endw p e below T172 (mkF m 296 #[.val (.int i0), .val (.int i1), .val (.int i2), .val (.int (i0 &&& (255 : Int32))), .val (.int (i1 &&& (255 : Int32))), .val (.int (1 : Int32)), .val (.int (0 : Int32)), .val (.int (1 : Int32)), .val (.ref dm), .val (.ref a153), .unset, .unset] [(.ref a164)]) _
        refine Endw.st (T' := T172) (g' := (mkF m 301 #[.val (.int i0), .val (.int i1), .val (.int i2), .val (.int (i0 &&& (255 : Int32))), .val (.int (i1 &&& (255 : Int32))), .val (.int (1 : Int32)), .val (.int (0 : Int32)), .val (.int (1 : Int32)), .val (.ref dm), .val (.ref a153), .unset, .unset] [(.int (108 : Int32)), (.int (8 : Int32)), (.ref a164), (.ref a164)])) (fun tt_ kk_ => XS.dup C172.here C172.hx rfl (C172.dec at_296) rfl rfl (XS.bipush C172.here C172.hx rfl (C172.dec at_297) (XS.bipush C172.here C172.hx rfl (C172.dec at_299) kk_))) ?_
        refine C172.castore V172 ⟨by decide, by decide⟩ 8 (by decide) (Nat.le_of_ble_eq_true rfl) (x' := (108 : Int32)) (by decide) zg164 (vs' := [(.int (i0 &&& (255 : Int32))), (.int (i1 &&& (255 : Int32))), (.int (32 : Int32)), (.int (105 : Int32)), (.int (115 : Int32)), (.int (32 : Int32)), (.int (110 : Int32)), (.int (117 : Int32)), (.int (108 : Int32)), (.int 0), (.int 0), (.int 0), (.int 0), (.int 0)]) rfl at_301 (pc' := 302) rfl ?_
        intro T173 h173 C173 K173 A173 V173
        replace K173 := Keep.trans K172 K173 (allS (Or.inl (by simp)) all0)
        replace A173 := CHr.trans A172 A173
        clear C172 V172 K172 A172 T172 h172
        show Endw p e below T173 (mkF m 302 #[.val (.int i0), .val (.int i1), .val (.int i2), .val (.int (i0 &&& (255 : Int32))), .val (.int (i1 &&& (255 : Int32))), .val (.int (1 : Int32)), .val (.int (0 : Int32)), .val (.int (1 : Int32)), .val (.ref dm), .val (.ref a153), .unset, .unset] [(.ref a164)]) _
        refine Endw.st (T' := T173) (g' := (mkF m 307 #[.val (.int i0), .val (.int i1), .val (.int i2), .val (.int (i0 &&& (255 : Int32))), .val (.int (i1 &&& (255 : Int32))), .val (.int (1 : Int32)), .val (.int (0 : Int32)), .val (.int (1 : Int32)), .val (.ref dm), .val (.ref a153), .unset, .unset] [(.int (108 : Int32)), (.int (9 : Int32)), (.ref a164), (.ref a164)])) (fun tt_ kk_ => XS.dup C173.here C173.hx rfl (C173.dec at_302) rfl rfl (XS.bipush C173.here C173.hx rfl (C173.dec at_303) (XS.bipush C173.here C173.hx rfl (C173.dec at_305) kk_))) ?_
        refine C173.castore V173 ⟨by decide, by decide⟩ 9 (by decide) (Nat.le_of_ble_eq_true rfl) (x' := (108 : Int32)) (by decide) zg164 (vs' := [(.int (i0 &&& (255 : Int32))), (.int (i1 &&& (255 : Int32))), (.int (32 : Int32)), (.int (105 : Int32)), (.int (115 : Int32)), (.int (32 : Int32)), (.int (110 : Int32)), (.int (117 : Int32)), (.int (108 : Int32)), (.int (108 : Int32)), (.int 0), (.int 0), (.int 0), (.int 0)]) rfl at_307 (pc' := 308) rfl ?_
        intro T174 h174 C174 K174 A174 V174
        replace K174 := Keep.trans K173 K174 (allS (Or.inl (by simp)) all0)
        replace A174 := CHr.trans A173 A174
        clear C173 V173 K173 A173 T173 h173
        show Endw p e below T174 (mkF m 308 #[.val (.int i0), .val (.int i1), .val (.int i2), .val (.int (i0 &&& (255 : Int32))), .val (.int (i1 &&& (255 : Int32))), .val (.int (1 : Int32)), .val (.int (0 : Int32)), .val (.int (1 : Int32)), .val (.ref dm), .val (.ref a153), .unset, .unset] [(.ref a164)]) _
        refine Endw.st (T' := T174) (g' := (mkF m 313 #[.val (.int i0), .val (.int i1), .val (.int i2), .val (.int (i0 &&& (255 : Int32))), .val (.int (i1 &&& (255 : Int32))), .val (.int (1 : Int32)), .val (.int (0 : Int32)), .val (.int (1 : Int32)), .val (.ref dm), .val (.ref a153), .unset, .unset] [(.int (44 : Int32)), (.int (10 : Int32)), (.ref a164), (.ref a164)])) (fun tt_ kk_ => XS.dup C174.here C174.hx rfl (C174.dec at_308) rfl rfl (XS.bipush C174.here C174.hx rfl (C174.dec at_309) (XS.bipush C174.here C174.hx rfl (C174.dec at_311) kk_))) ?_
        refine C174.castore V174 ⟨by decide, by decide⟩ 10 (by decide) (Nat.le_of_ble_eq_true rfl) (x' := (44 : Int32)) (by decide) zg164 (vs' := [(.int (i0 &&& (255 : Int32))), (.int (i1 &&& (255 : Int32))), (.int (32 : Int32)), (.int (105 : Int32)), (.int (115 : Int32)), (.int (32 : Int32)), (.int (110 : Int32)), (.int (117 : Int32)), (.int (108 : Int32)), (.int (108 : Int32)), (.int (44 : Int32)), (.int 0), (.int 0), (.int 0)]) rfl at_313 (pc' := 314) rfl ?_
        intro T175 h175 C175 K175 A175 V175
        replace K175 := Keep.trans K174 K175 (allS (Or.inl (by simp)) all0)
        replace A175 := CHr.trans A174 A175
        clear C174 V174 K174 A174 T174 h174
        show Endw p e below T175 (mkF m 314 #[.val (.int i0), .val (.int i1), .val (.int i2), .val (.int (i0 &&& (255 : Int32))), .val (.int (i1 &&& (255 : Int32))), .val (.int (1 : Int32)), .val (.int (0 : Int32)), .val (.int (1 : Int32)), .val (.ref dm), .val (.ref a153), .unset, .unset] [(.ref a164)]) _
        refine Endw.st (T' := T175) (g' := (mkF m 319 #[.val (.int i0), .val (.int i1), .val (.int i2), .val (.int (i0 &&& (255 : Int32))), .val (.int (i1 &&& (255 : Int32))), .val (.int (1 : Int32)), .val (.int (0 : Int32)), .val (.int (1 : Int32)), .val (.ref dm), .val (.ref a153), .unset, .unset] [(.int (32 : Int32)), (.int (11 : Int32)), (.ref a164), (.ref a164)])) (fun tt_ kk_ => XS.dup C175.here C175.hx rfl (C175.dec at_314) rfl rfl (XS.bipush C175.here C175.hx rfl (C175.dec at_315) (XS.bipush C175.here C175.hx rfl (C175.dec at_317) kk_))) ?_
        refine C175.castore V175 ⟨by decide, by decide⟩ 11 (by decide) (Nat.le_of_ble_eq_true rfl) (x' := (32 : Int32)) (by decide) zg164 (vs' := [(.int (i0 &&& (255 : Int32))), (.int (i1 &&& (255 : Int32))), (.int (32 : Int32)), (.int (105 : Int32)), (.int (115 : Int32)), (.int (32 : Int32)), (.int (110 : Int32)), (.int (117 : Int32)), (.int (108 : Int32)), (.int (108 : Int32)), (.int (44 : Int32)), (.int (32 : Int32)), (.int 0), (.int 0)]) rfl at_319 (pc' := 320) rfl ?_
        intro T176 h176 C176 K176 A176 V176
        replace K176 := Keep.trans K175 K176 (allS (Or.inl (by simp)) all0)
        replace A176 := CHr.trans A175 A176
        clear C175 V175 K175 A175 T175 h175
        show Endw p e below T176 (mkF m 320 #[.val (.int i0), .val (.int i1), .val (.int i2), .val (.int (i0 &&& (255 : Int32))), .val (.int (i1 &&& (255 : Int32))), .val (.int (1 : Int32)), .val (.int (0 : Int32)), .val (.int (1 : Int32)), .val (.ref dm), .val (.ref a153), .unset, .unset] [(.ref a164)]) _
        refine Endw.st (T' := T176) (g' := (mkF m 324 #[.val (.int i0), .val (.int i1), .val (.int i2), .val (.int (i0 &&& (255 : Int32))), .val (.int (i1 &&& (255 : Int32))), .val (.int (1 : Int32)), .val (.int (0 : Int32)), .val (.int (1 : Int32)), .val (.ref dm), .val (.ref a153), .unset, .unset] [(.int (i0 &&& (255 : Int32))), (.int (12 : Int32)), (.ref a164), (.ref a164)])) (fun tt_ kk_ => XS.dup C176.here C176.hx rfl (C176.dec at_320) rfl rfl (XS.bipush C176.here C176.hx rfl (C176.dec at_321) (XS.iloadN C176.here C176.hx rfl (C176.dec at_323) rfl kk_))) ?_
        refine C176.castore V176 ⟨by decide, by decide⟩ 12 (by decide) (Nat.le_of_ble_eq_true rfl) (x' := (i0 &&& (255 : Int32))) (i2c_mask _) zg164 (vs' := [(.int (i0 &&& (255 : Int32))), (.int (i1 &&& (255 : Int32))), (.int (32 : Int32)), (.int (105 : Int32)), (.int (115 : Int32)), (.int (32 : Int32)), (.int (110 : Int32)), (.int (117 : Int32)), (.int (108 : Int32)), (.int (108 : Int32)), (.int (44 : Int32)), (.int (32 : Int32)), (.int (i0 &&& (255 : Int32))), (.int 0)]) rfl at_324 (pc' := 325) rfl ?_
        intro T177 h177 C177 K177 A177 V177
        replace K177 := Keep.trans K176 K177 (allS (Or.inl (by simp)) all0)
        replace A177 := CHr.trans A176 A177
        clear C176 V176 K176 A176 T176 h176
        show Endw p e below T177 (mkF m 325 #[.val (.int i0), .val (.int i1), .val (.int i2), .val (.int (i0 &&& (255 : Int32))), .val (.int (i1 &&& (255 : Int32))), .val (.int (1 : Int32)), .val (.int (0 : Int32)), .val (.int (1 : Int32)), .val (.ref dm), .val (.ref a153), .unset, .unset] [(.ref a164)]) _
        refine Endw.st (T' := T177) (g' := (mkF m 330 #[.val (.int i0), .val (.int i1), .val (.int i2), .val (.int (i0 &&& (255 : Int32))), .val (.int (i1 &&& (255 : Int32))), .val (.int (1 : Int32)), .val (.int (0 : Int32)), .val (.int (1 : Int32)), .val (.ref dm), .val (.ref a153), .unset, .unset] [(.int (i1 &&& (255 : Int32))), (.int (13 : Int32)), (.ref a164), (.ref a164)])) (fun tt_ kk_ => XS.dup C177.here C177.hx rfl (C177.dec at_325) rfl rfl (XS.bipush C177.here C177.hx rfl (C177.dec at_326) (XS.iload C177.here C177.hx rfl (C177.dec at_328) rfl kk_))) ?_
        refine C177.castore V177 ⟨by decide, by decide⟩ 13 (by decide) (Nat.le_of_ble_eq_true rfl) (x' := (i1 &&& (255 : Int32))) (i2c_mask _) zg164 (vs' := [(.int (i0 &&& (255 : Int32))), (.int (i1 &&& (255 : Int32))), (.int (32 : Int32)), (.int (105 : Int32)), (.int (115 : Int32)), (.int (32 : Int32)), (.int (110 : Int32)), (.int (117 : Int32)), (.int (108 : Int32)), (.int (108 : Int32)), (.int (44 : Int32)), (.int (32 : Int32)), (.int (i0 &&& (255 : Int32))), (.int (i1 &&& (255 : Int32)))]) rfl at_330 (pc' := 331) rfl ?_
        intro T178 h178 C178 K178 A178 V178
        replace K178 := Keep.trans K177 K178 (allS (Or.inl (by simp)) all0)
        replace A178 := CHr.trans A177 A178
        clear C177 V177 K177 A177 T177 h177
        show Endw p e below T178 (mkF m 331 #[.val (.int i0), .val (.int i1), .val (.int i2), .val (.int (i0 &&& (255 : Int32))), .val (.int (i1 &&& (255 : Int32))), .val (.int (1 : Int32)), .val (.int (0 : Int32)), .val (.int (1 : Int32)), .val (.ref dm), .val (.ref a153), .unset, .unset] [(.ref a164)]) _
        refine Endw.st (T' := T178) (g' := (mkF m 399 #[.val (.int i0), .val (.int i1), .val (.int i2), .val (.int (i0 &&& (255 : Int32))), .val (.int (i1 &&& (255 : Int32))), .val (.int (1 : Int32)), .val (.int (0 : Int32)), .val (.int (1 : Int32)), .val (.ref dm), .val (.ref a153), .val (.ref a164), .unset] [])) (fun tt_ kk_ => XS.astore C178.here C178.hx rfl (C178.dec at_331) rfl rfl (l' := #[.val (.int i0), .val (.int i1), .val (.int i2), .val (.int (i0 &&& (255 : Int32))), .val (.int (i1 &&& (255 : Int32))), .val (.int (1 : Int32)), .val (.int (0 : Int32)), .val (.int (1 : Int32)), .val (.ref dm), .val (.ref a153), .val (.ref a164), .unset]) rfl (XS.goto C178.here C178.hx rfl (pc0 := 333) rfl (C178.dec at_333) (by decide) rfl kk_)) ?_
        refine C178.new (W3 hw) (W4 hw) (W5 hw) at_399 (pc' := 402) rfl (by decide) (by decide) ?_
        intro T179 h179 a179 C179 K179 A179 ge179 zg179 E179 D179 S179
        show Endw p e below T179 (mkF m 402 #[.val (.int i0), .val (.int i1), .val (.int i2), .val (.int (i0 &&& (255 : Int32))), .val (.int (i1 &&& (255 : Int32))), .val (.int (1 : Int32)), .val (.int (0 : Int32)), .val (.int (1 : Int32)), .val (.ref dm), .val (.ref a153), .val (.ref a164), .unset] [(.ref a179)]) _
        refine Endw.st (T' := T179) (g' := (mkF m 405 #[.val (.int i0), .val (.int i1), .val (.int i2), .val (.int (i0 &&& (255 : Int32))), .val (.int (i1 &&& (255 : Int32))), .val (.int (1 : Int32)), .val (.int (0 : Int32)), .val (.int (1 : Int32)), .val (.ref dm), .val (.ref a153), .val (.ref a164), .unset] [(.ref a164), (.ref a179), (.ref a179)])) (fun tt_ kk_ => XS.dup C179.here C179.hx rfl (C179.dec at_402) rfl rfl (XS.aload C179.here C179.hx rfl (C179.dec at_403) rfl rfl kk_)) ?_
        have f180 := (V178.keep K179 nin0)
        have f181 : Fld Z h179 a179 "java/lang/String" "value" "[B" .null := D179 (Or.inr (W32 hw)) (ty := (.array .byte)) (by decide)
        have f182 : Fld Z h179 a179 "java/lang/String" "coder" "B" (.int (0 : Int32)) := D179 (Or.inr (W30 hw)) (ty := .byte) (by decide)
        have hp183 : ∀ c ∈ [(i0 &&& (255 : Int32)), (i1 &&& (255 : Int32)), (32 : Int32), (105 : Int32), (115 : Int32), (32 : Int32), (110 : Int32), (117 : Int32), (108 : Int32), (108 : Int32), (44 : Int32), (32 : Int32), (i0 &&& (255 : Int32)), (i1 &&& (255 : Int32))], B8 c := (own_cS (own_mask255 _) (own_cS (own_mask255 _) (own_cS ⟨by decide, by decide⟩ (own_cS ⟨by decide, by decide⟩ (own_cS ⟨by decide, by decide⟩ (own_cS ⟨by decide, by decide⟩ (own_cS ⟨by decide, by decide⟩ (own_cS ⟨by decide, by decide⟩ (own_cS ⟨by decide, by decide⟩ (own_cS ⟨by decide, by decide⟩ (own_cS ⟨by decide, by decide⟩ (own_cS ⟨by decide, by decide⟩ (own_cS (own_mask255 _) (own_cS (own_mask255 _) own_c0))))))))))))))
        refine C179.specialF (y := (⟨"java/lang/String", "<init>", "([C)V"⟩ : MethodName)) (ws := [a179]) (W := 1) (a := a179) (argsL := [.ref a164]) (rest := [(.ref a179)]) (ck := 1) (cn := 14) rfl (W7 hw) (W8 hw) (W9 hw) (by decide) (StrChars.Road.backV (W := 1) (n := 14) (n0 := Z.heap.size) (cs := [(i0 &&& (255 : Int32)), (i1 &&& (255 : Int32)), (32 : Int32), (105 : Int32), (115 : Int32), (32 : Int32), (110 : Int32), (117 : Int32), (108 : Int32), (108 : Int32), (44 : Int32), (32 : Int32), (i0 &&& (255 : Int32)), (i1 &&& (255 : Int32))]) (bs := [(i0 &&& (255 : Int32)).toInt8.toInt32, (i1 &&& (255 : Int32)).toInt8.toInt32, (32 : Int32).toInt8.toInt32, (105 : Int32).toInt8.toInt32, (115 : Int32).toInt8.toInt32, (32 : Int32).toInt8.toInt32, (110 : Int32).toInt8.toInt32, (117 : Int32).toInt8.toInt32, (108 : Int32).toInt8.toInt32, (108 : Int32).toInt8.toInt32, (44 : Int32).toInt8.toInt32, (32 : Int32).toInt8.toInt32, (i0 &&& (255 : Int32)).toInt8.toInt32, (i1 &&& (255 : Int32)).toInt8.toInt32]) C179.warm G.w_backV (kI := 4) (W4 hw) zg179 C179.le E179 f181 f182 f180 (Sc.ext C179.old) hzc rfl rfl (by decide) (by decide) hp183 rfl (by decide) (by decide)) (fun _ _ _ q => ⟨q.2.1, q.2.2.1⟩) (allS zg179 all0) (sfS S179 sf0) rfl (by decide) (by decide) (lenOf pd_285b432956 rfl) rfl (Nat.le_of_ble_eq_true rfl) rfl at_405 (pc' := 408) rfl ?_
        intro T183 h183 v183 C183 K183 A183 q183
        obtain ⟨_, rfl, -, -, E183, F183, t183, kb183, zg183, ge183, nt183, f183, V183⟩ := q183
        have Z183 : Str Z h183 a179 t183 kb183 [(i0 &&& (255 : Int32)), (i1 &&& (255 : Int32)), (32 : Int32), (105 : Int32), (115 : Int32), (32 : Int32), (110 : Int32), (117 : Int32), (108 : Int32), (108 : Int32), (44 : Int32), (32 : Int32), (i0 &&& (255 : Int32)), (i1 &&& (255 : Int32))] := ⟨E183, F183, f183, V183, hp183, Nat.le_of_ble_eq_true rfl⟩
        show Endw p e below T183 (mkF m 408 #[.val (.int i0), .val (.int i1), .val (.int i2), .val (.int (i0 &&& (255 : Int32))), .val (.int (i1 &&& (255 : Int32))), .val (.int (1 : Int32)), .val (.int (0 : Int32)), .val (.int (1 : Int32)), .val (.ref dm), .val (.ref a153), .val (.ref a164), .unset] [(.ref a179)]) _
        refine Endw.st (T' := T183) (g' := (mkF m 420 #[.val (.int i0), .val (.int i1), .val (.int i2), .val (.int (i0 &&& (255 : Int32))), .val (.int (i1 &&& (255 : Int32))), .val (.int (1 : Int32)), .val (.int (0 : Int32)), .val (.int (1 : Int32)), .val (.ref dm), .val (.ref a153), .val (.ref a164), .val (.ref a179)] [(.int (1 : Int32)), (.int (0 : Int32)), (.ref a153), (.ref dm), (.ref a179)])) (fun tt_ kk_ => XS.astore C183.here C183.hx rfl (C183.dec at_408) rfl rfl (l' := #[.val (.int i0), .val (.int i1), .val (.int i2), .val (.int (i0 &&& (255 : Int32))), .val (.int (i1 &&& (255 : Int32))), .val (.int (1 : Int32)), .val (.int (0 : Int32)), .val (.int (1 : Int32)), .val (.ref dm), .val (.ref a153), .val (.ref a164), .val (.ref a179)]) rfl (XS.aload C183.here C183.hx rfl (C183.dec at_410) rfl rfl (XS.aload C183.here C183.hx rfl (C183.dec at_412) rfl rfl (XS.aload C183.here C183.hx rfl (C183.dec at_414) rfl rfl (XS.iload C183.here C183.hx rfl (C183.dec at_416) rfl (XS.iload C183.here C183.hx rfl (C183.dec at_418) rfl kk_)))))) ?_
        have f184 := (((((((((Fm.ext O).keep K153 nin0).keep K154 nin0).keep K156 (ninS (Nat.ne_of_lt (Nat.lt_of_lt_of_le (Nat.lt_of_lt_of_le (Em.ext O).lt K153.1) ge154)) nin0)).keep K162 (ninS (Nat.ne_of_lt (Nat.lt_of_lt_of_le (Em.ext O).lt ge153)) nin0)).keep K164 nin0).keep K178 (ninS (Nat.ne_of_lt (Nat.lt_of_lt_of_le (Nat.lt_of_lt_of_le (Em.ext O).lt (Nat.le_trans K153.1 (Nat.le_trans K154.1 (Nat.le_trans K156.1 K162.1)))) ge164)) nin0)).keep K179 nin0).keep K183 (ninS (Nat.ne_of_lt (Nat.lt_of_lt_of_le (Nat.lt_of_lt_of_le (Em.ext O).lt (Nat.le_trans K153.1 (Nat.le_trans K154.1 (Nat.le_trans K156.1 (Nat.le_trans K162.1 (Nat.le_trans K164.1 K178.1)))))) ge179)) nin0))
        have f185 := ((((Z162.keep K164 nin0 nin0).keep K178 (ninS (Nat.ne_of_lt (Nat.lt_of_lt_of_le (Nat.lt_of_lt_of_le E153.lt (Nat.le_trans K154.1 (Nat.le_trans K156.1 K162.1))) ge164)) nin0) (ninS (Nat.ne_of_lt (Nat.lt_of_lt_of_le V162.lt ge164)) nin0)).keep K179 nin0 nin0).keep K183 (ninS (Nat.ne_of_lt (Nat.lt_of_lt_of_le (Nat.lt_of_lt_of_le E153.lt (Nat.le_trans K154.1 (Nat.le_trans K156.1 (Nat.le_trans K162.1 (Nat.le_trans K164.1 K178.1))))) ge179)) nin0) (ninS (Nat.ne_of_lt (Nat.lt_of_lt_of_le (Nat.lt_of_lt_of_le V162.lt (Nat.le_trans K164.1 K178.1)) ge179)) nin0))
        have f187 := (((((((((Em.ext O).keep K153).keep K154).keep K156).keep K162).keep K164).keep K178).keep K179).keep K183)
        refine C183.virtual (y := (⟨"com/example/frugal_orm/frugalorm/Dialect", "orderItems", "(Ljava/lang/String;ZZ)Ljava/lang/String;"⟩ : MethodName)) (z := (⟨"com/example/frugal_orm/frugalorm/Dialect", "orderItems", "(Ljava/lang/String;ZZ)Ljava/lang/String;"⟩ : MethodName)) (W := 1) (a := dm) (argsL := [(.ref a153), (.int (0 : Int32)), (.int (1 : Int32))]) (rest := [(.ref a179)]) (W33 hw) (W34 hw) (fun _ q => notFace_of_selects (args := #[]) (mvT q (W36 hw))) (W36 hw) (W35 hw) (W37 hw) (W1 hw) (by decide) (rm_oi011 l Z a0 EL G dm a153 t162 kb162 (i0 &&& (255 : Int32)) (i1 &&& (255 : Int32)) h183 C183.old f184 f185) (fun z => nomatch z) rfl f187 all0 (by decide) (by decide) (by decide) (by decide) (lenOf pd_19 rfl) rfl (Nat.le_of_ble_eq_true rfl) rfl at_420 (pc' := 423) rfl ?_
        intro vm186 T186 h186 v186 C186 A186 M186 q186
        obtain ⟨a186, t186, kb186, rfl, K186, ge186, gt186, zg186, zt186, Z186⟩ := q186
        show Endw p e below T186 (mkF m 423 #[.val (.int i0), .val (.int i1), .val (.int i2), .val (.int (i0 &&& (255 : Int32))), .val (.int (i1 &&& (255 : Int32))), .val (.int (1 : Int32)), .val (.int (0 : Int32)), .val (.int (1 : Int32)), .val (.ref dm), .val (.ref a153), .val (.ref a164), .val (.ref a179)] [(.ref a186), (.ref a179)]) _
        have f188 := (Z183.keep K186 nin0 nin0)
        have f190 := (E183.keep K186)
        refine C186.virtualF (y := (⟨"java/lang/String", "equals", "(Ljava/lang/Object;)Z"⟩ : MethodName)) (z := (⟨"java/lang/String", "equals", "(Ljava/lang/Object;)Z"⟩ : MethodName)) (ws := []) (W := 0) (a := a179) (argsL := [.ref a186]) (rest := []) (ck := 0) (cn := 0) (Qf := fun v h' L => ((v = some (.int 1) ∧ [(i0 &&& (255 : Int32)), (i1 &&& (255 : Int32)), (32 : Int32), (105 : Int32), (115 : Int32), (32 : Int32), (110 : Int32), (117 : Int32), (108 : Int32), (108 : Int32), (44 : Int32), (32 : Int32), (i0 &&& (255 : Int32)), (i1 &&& (255 : Int32))] = (((((([] ++ [(i0 &&& (255 : Int32)), (i1 &&& (255 : Int32))]) ++ [(32 : Int32), (105 : Int32), (115 : Int32), (32 : Int32), (110 : Int32), (117 : Int32), (108 : Int32), (108 : Int32)]) ++ []) ++ [(44 : Int32), (32 : Int32)]) ++ [(i0 &&& (255 : Int32)), (i1 &&& (255 : Int32))]) ++ [])) ∨ (v = some (.int 0) ∧ ¬ [(i0 &&& (255 : Int32)), (i1 &&& (255 : Int32)), (32 : Int32), (105 : Int32), (115 : Int32), (32 : Int32), (110 : Int32), (117 : Int32), (108 : Int32), (108 : Int32), (44 : Int32), (32 : Int32), (i0 &&& (255 : Int32)), (i1 &&& (255 : Int32))] = (((((([] ++ [(i0 &&& (255 : Int32)), (i1 &&& (255 : Int32))]) ++ [(32 : Int32), (105 : Int32), (115 : Int32), (32 : Int32), (110 : Int32), (117 : Int32), (108 : Int32), (108 : Int32)]) ++ []) ++ [(44 : Int32), (32 : Int32)]) ++ [(i0 &&& (255 : Int32)), (i1 &&& (255 : Int32))]) ++ []))) ∧ L = [] ∧ h' = h186) (W151 hw) (W152 hw) (fun _ q => notFace_of_selects (args := #[]) (mvT q (W154 hw))) (W154 hw) (W153 hw) (by decide) (StrChars.Road.eqW (W := 0) (cs := [(i0 &&& (255 : Int32)), (i1 &&& (255 : Int32)), (32 : Int32), (105 : Int32), (115 : Int32), (32 : Int32), (110 : Int32), (117 : Int32), (108 : Int32), (108 : Int32), (44 : Int32), (32 : Int32), (i0 &&& (255 : Int32)), (i1 &&& (255 : Int32))]) (ds := (((((([] ++ [(i0 &&& (255 : Int32)), (i1 &&& (255 : Int32))]) ++ [(32 : Int32), (105 : Int32), (115 : Int32), (32 : Int32), (110 : Int32), (117 : Int32), (108 : Int32), (108 : Int32)]) ++ []) ++ [(44 : Int32), (32 : Int32)]) ++ [(i0 &&& (255 : Int32)), (i1 &&& (255 : Int32))]) ++ [])) C186.warm G.w_eqW (kI := 4) (W4 hw) f188.1 f188.2.2.1 f188.2.1 f188.2.2.2.1 (StrChars.Road.codOf rfl (fun c q => (f188.2.2.2.2.1 c q).2)) (fun c q => own_b16 (f188.2.2.2.2.1 c q)) f188.2.2.2.2.2 Z186.1 Z186.2.2.1 Z186.2.1 Z186.2.2.2.1 (StrChars.Road.codOf rfl (fun c q => (Z186.2.2.2.2.1 c q).2)) (fun c q => own_b16 (Z186.2.2.2.2.1 c q)) Z186.2.2.2.2.2 (Sc.ext C186.old) hzc (by decide) (by decide)) (fun _ _ _ q => ⟨by rw [q.2.1]; exact Fr.nil _, by rw [q.2.2]; exact Keep.refl _ _⟩) all0 sf0 rfl f190 (by decide) (by decide) (lenOf pd_14 rfl) rfl (Nat.le_of_ble_eq_true rfl) rfl at_423 (pc' := 426) rfl ?_
        intro T189 h189 v189 C189 K189 A189 q189
        obtain ⟨_, q189, -, -⟩ := q189
        obtain rfl : v189 = some (.int 1) := q189.elim (fun z => z.1) (fun z => absurd (rfl) z.2)
        show Endw p e below T189 (mkF m 426 #[.val (.int i0), .val (.int i1), .val (.int i2), .val (.int (i0 &&& (255 : Int32))), .val (.int (i1 &&& (255 : Int32))), .val (.int (1 : Int32)), .val (.int (0 : Int32)), .val (.int (1 : Int32)), .val (.ref dm), .val (.ref a153), .val (.ref a164), .val (.ref a179)] [(.int (1 : Int32))]) _
        exact C189.retI (t := .boolean) rfl (by simp) rfl at_426 (by decide) (by decide) rfl
    · refine Endw.st (T' := T0) (g' := (mkF m 44 #[.val (.int i0), .val (.int i1), .val (.int i2), .val (.int (i0 &&& (255 : Int32))), .val (.int (i1 &&& (255 : Int32))), .val (.int (1 : Int32)), .val (.int (1 : Int32)), .unset, .unset, .unset, .unset, .unset] [(.int (i2 &&& (4 : Int32)))])) (fun tt_ kk_ => XS.ifNo C0.here C0.hx rfl (C0.dec at_31) rfl (XT.i0_eq_f c123) (XS.iconst C0.here C0.hx rfl (C0.dec at_34) (XS.goto C0.here C0.hx rfl (pc0 := 35) rfl (C0.dec at_35) (by decide) rfl (XS.istore C0.here C0.hx rfl (C0.dec at_39) rfl (l' := #[.val (.int i0), .val (.int i1), .val (.int i2), .val (.int (i0 &&& (255 : Int32))), .val (.int (i1 &&& (255 : Int32))), .val (.int (1 : Int32)), .val (.int (1 : Int32)), .unset, .unset, .unset, .unset, .unset]) rfl (XS.iloadN C0.here C0.hx rfl (C0.dec at_41) rfl (XS.iconst C0.here C0.hx rfl (C0.dec at_42) (XS.iand C0.here C0.hx rfl (C0.dec at_43) rfl kk_))))))) ?_
      by_cases c191 : (i2 &&& (4 : Int32)) = (0 : Int32)
      · refine Endw.st (T' := T0) (g' := (mkF m 59 #[.val (.int i0), .val (.int i1), .val (.int i2), .val (.int (i0 &&& (255 : Int32))), .val (.int (i1 &&& (255 : Int32))), .val (.int (1 : Int32)), .val (.int (1 : Int32)), .val (.int (0 : Int32)), .unset, .unset, .unset, .unset] [])) (fun tt_ kk_ => XS.ifYes C0.here C0.hx rfl (pc0 := 44) rfl (C0.dec at_44) rfl (XT.i0_eq_t c191) (by decide) rfl (XS.iconst C0.here C0.hx rfl (C0.dec at_51) (XS.istore C0.here C0.hx rfl (C0.dec at_52) rfl (l' := #[.val (.int i0), .val (.int i1), .val (.int i2), .val (.int (i0 &&& (255 : Int32))), .val (.int (i1 &&& (255 : Int32))), .val (.int (1 : Int32)), .val (.int (1 : Int32)), .val (.int (0 : Int32)), .unset, .unset, .unset, .unset]) rfl (XS.iload C0.here C0.hx rfl (C0.dec at_54) rfl (XS.ifNo C0.here C0.hx rfl (C0.dec at_56) rfl (XT.i0_eq_f (by decide)) kk_))))) ?_
        refine C0.getS (W161 hw) Sm at_59 (pc' := 62) rfl ?_
        intro T192 C192
        show Endw p e below T192 (mkF m 62 #[.val (.int i0), .val (.int i1), .val (.int i2), .val (.int (i0 &&& (255 : Int32))), .val (.int (i1 &&& (255 : Int32))), .val (.int (1 : Int32)), .val (.int (1 : Int32)), .val (.int (0 : Int32)), .unset, .unset, .unset, .unset] [(.ref dm)]) _
        refine Endw.st (T' := T192) (g' := (mkF m 70 #[.val (.int i0), .val (.int i1), .val (.int i2), .val (.int (i0 &&& (255 : Int32))), .val (.int (i1 &&& (255 : Int32))), .val (.int (1 : Int32)), .val (.int (1 : Int32)), .val (.int (0 : Int32)), .val (.ref dm), .unset, .unset, .unset] [])) (fun tt_ kk_ => XS.goto C192.here C192.hx rfl (pc0 := 62) rfl (C192.dec at_62) (by decide) rfl (XS.astore C192.here C192.hx rfl (C192.dec at_68) rfl rfl (l' := #[.val (.int i0), .val (.int i1), .val (.int i2), .val (.int (i0 &&& (255 : Int32))), .val (.int (i1 &&& (255 : Int32))), .val (.int (1 : Int32)), .val (.int (1 : Int32)), .val (.int (0 : Int32)), .val (.ref dm), .unset, .unset, .unset]) rfl kk_)) ?_
        refine C192.new (W3 hw) (W4 hw) (W5 hw) at_70 (pc' := 73) rfl (by decide) (by decide) ?_
        intro T193 h193 a193 C193 K193 A193 ge193 zg193 E193 D193 S193
        show Endw p e below T193 (mkF m 73 #[.val (.int i0), .val (.int i1), .val (.int i2), .val (.int (i0 &&& (255 : Int32))), .val (.int (i1 &&& (255 : Int32))), .val (.int (1 : Int32)), .val (.int (1 : Int32)), .val (.int (0 : Int32)), .val (.ref dm), .unset, .unset, .unset] [(.ref a193)]) _
        refine Endw.st (T' := T193) (g' := (mkF m 75 #[.val (.int i0), .val (.int i1), .val (.int i2), .val (.int (i0 &&& (255 : Int32))), .val (.int (i1 &&& (255 : Int32))), .val (.int (1 : Int32)), .val (.int (1 : Int32)), .val (.int (0 : Int32)), .val (.ref dm), .unset, .unset, .unset] [(.int (2 : Int32)), (.ref a193), (.ref a193)])) (fun tt_ kk_ => XS.dup C193.here C193.hx rfl (C193.dec at_73) rfl rfl (XS.iconst C193.here C193.hx rfl (C193.dec at_74) kk_)) ?_
        refine C193.newA (aty := .char) (z := (2 : Int32)) (cap := 2) (vs := [(.int 0), (.int 0)]) (W6 hw) at_75 (pc' := 77) rfl (by decide) (by decide) (by decide) (by decide) (by decide) rfl ?_
        intro T194 h194 a194 kA194 C194 K194 A194 ge194 zg194 V194 S194
        show Endw p e below T194 (mkF m 77 #[.val (.int i0), .val (.int i1), .val (.int i2), .val (.int (i0 &&& (255 : Int32))), .val (.int (i1 &&& (255 : Int32))), .val (.int (1 : Int32)), .val (.int (1 : Int32)), .val (.int (0 : Int32)), .val (.ref dm), .unset, .unset, .unset] [(.ref a194), (.ref a193), (.ref a193)]) _
        refine Endw.st (T' := T194) (g' := (mkF m 80 #[.val (.int i0), .val (.int i1), .val (.int i2), .val (.int (i0 &&& (255 : Int32))), .val (.int (i1 &&& (255 : Int32))), .val (.int (1 : Int32)), .val (.int (1 : Int32)), .val (.int (0 : Int32)), .val (.ref dm), .unset, .unset, .unset] [(.int (i0 &&& (255 : Int32))), (.int (0 : Int32)), (.ref a194), (.ref a194), (.ref a193), (.ref a193)])) (fun tt_ kk_ => XS.dup C194.here C194.hx rfl (C194.dec at_77) rfl rfl (XS.iconst C194.here C194.hx rfl (C194.dec at_78) (XS.iloadN C194.here C194.hx rfl (C194.dec at_79) rfl kk_))) ?_
        refine C194.castore V194 ⟨by decide, by decide⟩ 0 (by decide) (Nat.le_of_ble_eq_true rfl) (x' := (i0 &&& (255 : Int32))) (i2c_mask _) zg194 (vs' := [(.int (i0 &&& (255 : Int32))), (.int 0)]) rfl at_80 (pc' := 81) rfl ?_
        intro T195 h195 C195 K195 A195 V195
        show Endw p e below T195 (mkF m 81 #[.val (.int i0), .val (.int i1), .val (.int i2), .val (.int (i0 &&& (255 : Int32))), .val (.int (i1 &&& (255 : Int32))), .val (.int (1 : Int32)), .val (.int (1 : Int32)), .val (.int (0 : Int32)), .val (.ref dm), .unset, .unset, .unset] [(.ref a194), (.ref a193), (.ref a193)]) _
        refine Endw.st (T' := T195) (g' := (mkF m 85 #[.val (.int i0), .val (.int i1), .val (.int i2), .val (.int (i0 &&& (255 : Int32))), .val (.int (i1 &&& (255 : Int32))), .val (.int (1 : Int32)), .val (.int (1 : Int32)), .val (.int (0 : Int32)), .val (.ref dm), .unset, .unset, .unset] [(.int (i1 &&& (255 : Int32))), (.int (1 : Int32)), (.ref a194), (.ref a194), (.ref a193), (.ref a193)])) (fun tt_ kk_ => XS.dup C195.here C195.hx rfl (C195.dec at_81) rfl rfl (XS.iconst C195.here C195.hx rfl (C195.dec at_82) (XS.iload C195.here C195.hx rfl (C195.dec at_83) rfl kk_))) ?_
        refine C195.castore V195 ⟨by decide, by decide⟩ 1 (by decide) (Nat.le_of_ble_eq_true rfl) (x' := (i1 &&& (255 : Int32))) (i2c_mask _) zg194 (vs' := [(.int (i0 &&& (255 : Int32))), (.int (i1 &&& (255 : Int32)))]) rfl at_85 (pc' := 86) rfl ?_
        intro T196 h196 C196 K196 A196 V196
        replace K196 := Keep.trans K195 K196 (allS (Or.inl (by simp)) all0)
        replace A196 := CHr.trans A195 A196
        clear C195 V195 K195 A195 T195 h195
        show Endw p e below T196 (mkF m 86 #[.val (.int i0), .val (.int i1), .val (.int i2), .val (.int (i0 &&& (255 : Int32))), .val (.int (i1 &&& (255 : Int32))), .val (.int (1 : Int32)), .val (.int (1 : Int32)), .val (.int (0 : Int32)), .val (.ref dm), .unset, .unset, .unset] [(.ref a194), (.ref a193), (.ref a193)]) _
        have f197 := ((E193.keep K194).keep K196)
        have f198 : Fld Z h193 a193 "java/lang/String" "value" "[B" .null := D193 (Or.inr (W32 hw)) (ty := (.array .byte)) (by decide)
        have f199 := ((f198.keep K194 nin0).keep K196 (ninS (Nat.ne_of_lt (Nat.lt_of_lt_of_le E193.lt ge194)) nin0))
        have f200 : Fld Z h193 a193 "java/lang/String" "coder" "B" (.int (0 : Int32)) := D193 (Or.inr (W30 hw)) (ty := .byte) (by decide)
        have f201 := ((f200.keep K194 nin0).keep K196 (ninS (Nat.ne_of_lt (Nat.lt_of_lt_of_le E193.lt ge194)) nin0))
        have hp202 : ∀ c ∈ [(i0 &&& (255 : Int32)), (i1 &&& (255 : Int32))], B8 c := (own_cS (own_mask255 _) (own_cS (own_mask255 _) own_c0))
        have f203 := (A196.safe (Nat.lt_of_lt_of_le E193.lt K194.1) (A194.safe E193.lt S193))
        refine C196.specialF (y := (⟨"java/lang/String", "<init>", "([C)V"⟩ : MethodName)) (ws := [a193]) (W := 1) (a := a193) (argsL := [.ref a194]) (rest := [(.ref a193)]) (ck := 1) (cn := 2) rfl (W7 hw) (W8 hw) (W9 hw) (by decide) (StrChars.Road.backV (W := 1) (n := 2) (n0 := Z.heap.size) (cs := [(i0 &&& (255 : Int32)), (i1 &&& (255 : Int32))]) (bs := [(i0 &&& (255 : Int32)).toInt8.toInt32, (i1 &&& (255 : Int32)).toInt8.toInt32]) C196.warm G.w_backV (kI := 4) (W4 hw) zg193 C196.le f197 f199 f201 V196 (Sc.ext C196.old) hzc rfl rfl (by decide) (by decide) hp202 rfl (by decide) (by decide)) (fun _ _ _ q => ⟨q.2.1, q.2.2.1⟩) (allS zg193 all0) (sfS f203 sf0) rfl (by decide) (by decide) (lenOf pd_285b432956 rfl) rfl (Nat.le_of_ble_eq_true rfl) rfl at_86 (pc' := 89) rfl ?_
        intro T202 h202 v202 C202 K202 A202 q202
        obtain ⟨_, rfl, -, -, E202, F202, t202, kb202, zg202, ge202, nt202, f202, V202⟩ := q202
        have Z202 : Str Z h202 a193 t202 kb202 [(i0 &&& (255 : Int32)), (i1 &&& (255 : Int32))] := ⟨E202, F202, f202, V202, hp202, Nat.le_of_ble_eq_true rfl⟩
        show Endw p e below T202 (mkF m 89 #[.val (.int i0), .val (.int i1), .val (.int i2), .val (.int (i0 &&& (255 : Int32))), .val (.int (i1 &&& (255 : Int32))), .val (.int (1 : Int32)), .val (.int (1 : Int32)), .val (.int (0 : Int32)), .val (.ref dm), .unset, .unset, .unset] [(.ref a193)]) _
        refine Endw.st (T' := T202) (g' := (mkF m 343 #[.val (.int i0), .val (.int i1), .val (.int i2), .val (.int (i0 &&& (255 : Int32))), .val (.int (i1 &&& (255 : Int32))), .val (.int (1 : Int32)), .val (.int (1 : Int32)), .val (.int (0 : Int32)), .val (.ref dm), .val (.ref a193), .unset, .unset] [(.int (7 : Int32))])) (fun tt_ kk_ => XS.astore C202.here C202.hx rfl (C202.dec at_89) rfl rfl (l' := #[.val (.int i0), .val (.int i1), .val (.int i2), .val (.int (i0 &&& (255 : Int32))), .val (.int (i1 &&& (255 : Int32))), .val (.int (1 : Int32)), .val (.int (1 : Int32)), .val (.int (0 : Int32)), .val (.ref dm), .val (.ref a193), .unset, .unset]) rfl (XS.iload C202.here C202.hx rfl (C202.dec at_91) rfl (XS.ifYes C202.here C202.hx rfl (pc0 := 93) rfl (C202.dec at_93) rfl (XT.i0_eq_t (by decide)) (by decide) rfl (XS.iload C202.here C202.hx rfl (C202.dec at_336) rfl (XS.ifNo C202.here C202.hx rfl (C202.dec at_338) rfl (XT.i0_eq_f (by decide)) (XS.bipush C202.here C202.hx rfl (C202.dec at_341) kk_)))))) ?_
        refine C202.newA (aty := .char) (z := (7 : Int32)) (cap := 7) (vs := [(.int 0), (.int 0), (.int 0), (.int 0), (.int 0), (.int 0), (.int 0)]) (W6 hw) at_343 (pc' := 345) rfl (by decide) (by decide) (by decide) (by decide) (by decide) rfl ?_
        intro T204 h204 a204 kA204 C204 K204 A204 ge204 zg204 V204 S204
        show Endw p e below T204 (mkF m 345 #[.val (.int i0), .val (.int i1), .val (.int i2), .val (.int (i0 &&& (255 : Int32))), .val (.int (i1 &&& (255 : Int32))), .val (.int (1 : Int32)), .val (.int (1 : Int32)), .val (.int (0 : Int32)), .val (.ref dm), .val (.ref a193), .unset, .unset] [(.ref a204)]) _
        refine Endw.st (T' := T204) (g' := (mkF m 348 #[.val (.int i0), .val (.int i1), .val (.int i2), .val (.int (i0 &&& (255 : Int32))), .val (.int (i1 &&& (255 : Int32))), .val (.int (1 : Int32)), .val (.int (1 : Int32)), .val (.int (0 : Int32)), .val (.ref dm), .val (.ref a193), .unset, .unset] [(.int (i0 &&& (255 : Int32))), (.int (0 : Int32)), (.ref a204), (.ref a204)])) (fun tt_ kk_ => XS.dup C204.here C204.hx rfl (C204.dec at_345) rfl rfl (XS.iconst C204.here C204.hx rfl (C204.dec at_346) (XS.iloadN C204.here C204.hx rfl (C204.dec at_347) rfl kk_))) ?_
        refine C204.castore V204 ⟨by decide, by decide⟩ 0 (by decide) (Nat.le_of_ble_eq_true rfl) (x' := (i0 &&& (255 : Int32))) (i2c_mask _) zg204 (vs' := [(.int (i0 &&& (255 : Int32))), (.int 0), (.int 0), (.int 0), (.int 0), (.int 0), (.int 0)]) rfl at_348 (pc' := 349) rfl ?_
        intro T205 h205 C205 K205 A205 V205
        show Endw p e below T205 (mkF m 349 #[.val (.int i0), .val (.int i1), .val (.int i2), .val (.int (i0 &&& (255 : Int32))), .val (.int (i1 &&& (255 : Int32))), .val (.int (1 : Int32)), .val (.int (1 : Int32)), .val (.int (0 : Int32)), .val (.ref dm), .val (.ref a193), .unset, .unset] [(.ref a204)]) _
        refine Endw.st (T' := T205) (g' := (mkF m 353 #[.val (.int i0), .val (.int i1), .val (.int i2), .val (.int (i0 &&& (255 : Int32))), .val (.int (i1 &&& (255 : Int32))), .val (.int (1 : Int32)), .val (.int (1 : Int32)), .val (.int (0 : Int32)), .val (.ref dm), .val (.ref a193), .unset, .unset] [(.int (i1 &&& (255 : Int32))), (.int (1 : Int32)), (.ref a204), (.ref a204)])) (fun tt_ kk_ => XS.dup C205.here C205.hx rfl (C205.dec at_349) rfl rfl (XS.iconst C205.here C205.hx rfl (C205.dec at_350) (XS.iload C205.here C205.hx rfl (C205.dec at_351) rfl kk_))) ?_
        refine C205.castore V205 ⟨by decide, by decide⟩ 1 (by decide) (Nat.le_of_ble_eq_true rfl) (x' := (i1 &&& (255 : Int32))) (i2c_mask _) zg204 (vs' := [(.int (i0 &&& (255 : Int32))), (.int (i1 &&& (255 : Int32))), (.int 0), (.int 0), (.int 0), (.int 0), (.int 0)]) rfl at_353 (pc' := 354) rfl ?_
        intro T206 h206 C206 K206 A206 V206
        replace K206 := Keep.trans K205 K206 (allS (Or.inl (by simp)) all0)
        replace A206 := CHr.trans A205 A206
        clear C205 V205 K205 A205 T205 h205
        show Endw p e below T206 (mkF m 354 #[.val (.int i0), .val (.int i1), .val (.int i2), .val (.int (i0 &&& (255 : Int32))), .val (.int (i1 &&& (255 : Int32))), .val (.int (1 : Int32)), .val (.int (1 : Int32)), .val (.int (0 : Int32)), .val (.ref dm), .val (.ref a193), .unset, .unset] [(.ref a204)]) _
        refine Endw.st (T' := T206) (g' := (mkF m 358 #[.val (.int i0), .val (.int i1), .val (.int i2), .val (.int (i0 &&& (255 : Int32))), .val (.int (i1 &&& (255 : Int32))), .val (.int (1 : Int32)), .val (.int (1 : Int32)), .val (.int (0 : Int32)), .val (.ref dm), .val (.ref a193), .unset, .unset] [(.int (32 : Int32)), (.int (2 : Int32)), (.ref a204), (.ref a204)])) (fun tt_ kk_ => XS.dup C206.here C206.hx rfl (C206.dec at_354) rfl rfl (XS.iconst C206.here C206.hx rfl (C206.dec at_355) (XS.bipush C206.here C206.hx rfl (C206.dec at_356) kk_))) ?_
        refine C206.castore V206 ⟨by decide, by decide⟩ 2 (by decide) (Nat.le_of_ble_eq_true rfl) (x' := (32 : Int32)) (by decide) zg204 (vs' := [(.int (i0 &&& (255 : Int32))), (.int (i1 &&& (255 : Int32))), (.int (32 : Int32)), (.int 0), (.int 0), (.int 0), (.int 0)]) rfl at_358 (pc' := 359) rfl ?_
        intro T207 h207 C207 K207 A207 V207
        replace K207 := Keep.trans K206 K207 (allS (Or.inl (by simp)) all0)
        replace A207 := CHr.trans A206 A207
        clear C206 V206 K206 A206 T206 h206
        show Endw p e below T207 (mkF m 359 #[.val (.int i0), .val (.int i1), .val (.int i2), .val (.int (i0 &&& (255 : Int32))), .val (.int (i1 &&& (255 : Int32))), .val (.int (1 : Int32)), .val (.int (1 : Int32)), .val (.int (0 : Int32)), .val (.ref dm), .val (.ref a193), .unset, .unset] [(.ref a204)]) _
        refine Endw.st (T' := T207) (g' := (mkF m 363 #[.val (.int i0), .val (.int i1), .val (.int i2), .val (.int (i0 &&& (255 : Int32))), .val (.int (i1 &&& (255 : Int32))), .val (.int (1 : Int32)), .val (.int (1 : Int32)), .val (.int (0 : Int32)), .val (.ref dm), .val (.ref a193), .unset, .unset] [(.int (100 : Int32)), (.int (3 : Int32)), (.ref a204), (.ref a204)])) (fun tt_ kk_ => XS.dup C207.here C207.hx rfl (C207.dec at_359) rfl rfl (XS.iconst C207.here C207.hx rfl (C207.dec at_360) (XS.bipush C207.here C207.hx rfl (C207.dec at_361) kk_))) ?_
        refine C207.castore V207 ⟨by decide, by decide⟩ 3 (by decide) (Nat.le_of_ble_eq_true rfl) (x' := (100 : Int32)) (by decide) zg204 (vs' := [(.int (i0 &&& (255 : Int32))), (.int (i1 &&& (255 : Int32))), (.int (32 : Int32)), (.int (100 : Int32)), (.int 0), (.int 0), (.int 0)]) rfl at_363 (pc' := 364) rfl ?_
        intro T208 h208 C208 K208 A208 V208
        replace K208 := Keep.trans K207 K208 (allS (Or.inl (by simp)) all0)
        replace A208 := CHr.trans A207 A208
        clear C207 V207 K207 A207 T207 h207
        show Endw p e below T208 (mkF m 364 #[.val (.int i0), .val (.int i1), .val (.int i2), .val (.int (i0 &&& (255 : Int32))), .val (.int (i1 &&& (255 : Int32))), .val (.int (1 : Int32)), .val (.int (1 : Int32)), .val (.int (0 : Int32)), .val (.ref dm), .val (.ref a193), .unset, .unset] [(.ref a204)]) _
        refine Endw.st (T' := T208) (g' := (mkF m 368 #[.val (.int i0), .val (.int i1), .val (.int i2), .val (.int (i0 &&& (255 : Int32))), .val (.int (i1 &&& (255 : Int32))), .val (.int (1 : Int32)), .val (.int (1 : Int32)), .val (.int (0 : Int32)), .val (.ref dm), .val (.ref a193), .unset, .unset] [(.int (101 : Int32)), (.int (4 : Int32)), (.ref a204), (.ref a204)])) (fun tt_ kk_ => XS.dup C208.here C208.hx rfl (C208.dec at_364) rfl rfl (XS.iconst C208.here C208.hx rfl (C208.dec at_365) (XS.bipush C208.here C208.hx rfl (C208.dec at_366) kk_))) ?_
        refine C208.castore V208 ⟨by decide, by decide⟩ 4 (by decide) (Nat.le_of_ble_eq_true rfl) (x' := (101 : Int32)) (by decide) zg204 (vs' := [(.int (i0 &&& (255 : Int32))), (.int (i1 &&& (255 : Int32))), (.int (32 : Int32)), (.int (100 : Int32)), (.int (101 : Int32)), (.int 0), (.int 0)]) rfl at_368 (pc' := 369) rfl ?_
        intro T209 h209 C209 K209 A209 V209
        replace K209 := Keep.trans K208 K209 (allS (Or.inl (by simp)) all0)
        replace A209 := CHr.trans A208 A209
        clear C208 V208 K208 A208 T208 h208
        show Endw p e below T209 (mkF m 369 #[.val (.int i0), .val (.int i1), .val (.int i2), .val (.int (i0 &&& (255 : Int32))), .val (.int (i1 &&& (255 : Int32))), .val (.int (1 : Int32)), .val (.int (1 : Int32)), .val (.int (0 : Int32)), .val (.ref dm), .val (.ref a193), .unset, .unset] [(.ref a204)]) _
        refine Endw.st (T' := T209) (g' := (mkF m 373 #[.val (.int i0), .val (.int i1), .val (.int i2), .val (.int (i0 &&& (255 : Int32))), .val (.int (i1 &&& (255 : Int32))), .val (.int (1 : Int32)), .val (.int (1 : Int32)), .val (.int (0 : Int32)), .val (.ref dm), .val (.ref a193), .unset, .unset] [(.int (115 : Int32)), (.int (5 : Int32)), (.ref a204), (.ref a204)])) (fun tt_ kk_ => XS.dup C209.here C209.hx rfl (C209.dec at_369) rfl rfl (XS.iconst C209.here C209.hx rfl (C209.dec at_370) (XS.bipush C209.here C209.hx rfl (C209.dec at_371) kk_))) ?_
        refine C209.castore V209 ⟨by decide, by decide⟩ 5 (by decide) (Nat.le_of_ble_eq_true rfl) (x' := (115 : Int32)) (by decide) zg204 (vs' := [(.int (i0 &&& (255 : Int32))), (.int (i1 &&& (255 : Int32))), (.int (32 : Int32)), (.int (100 : Int32)), (.int (101 : Int32)), (.int (115 : Int32)), (.int 0)]) rfl at_373 (pc' := 374) rfl ?_
        intro T210 h210 C210 K210 A210 V210
        replace K210 := Keep.trans K209 K210 (allS (Or.inl (by simp)) all0)
        replace A210 := CHr.trans A209 A210
        clear C209 V209 K209 A209 T209 h209
        show Endw p e below T210 (mkF m 374 #[.val (.int i0), .val (.int i1), .val (.int i2), .val (.int (i0 &&& (255 : Int32))), .val (.int (i1 &&& (255 : Int32))), .val (.int (1 : Int32)), .val (.int (1 : Int32)), .val (.int (0 : Int32)), .val (.ref dm), .val (.ref a193), .unset, .unset] [(.ref a204)]) _
        refine Endw.st (T' := T210) (g' := (mkF m 379 #[.val (.int i0), .val (.int i1), .val (.int i2), .val (.int (i0 &&& (255 : Int32))), .val (.int (i1 &&& (255 : Int32))), .val (.int (1 : Int32)), .val (.int (1 : Int32)), .val (.int (0 : Int32)), .val (.ref dm), .val (.ref a193), .unset, .unset] [(.int (99 : Int32)), (.int (6 : Int32)), (.ref a204), (.ref a204)])) (fun tt_ kk_ => XS.dup C210.here C210.hx rfl (C210.dec at_374) rfl rfl (XS.bipush C210.here C210.hx rfl (C210.dec at_375) (XS.bipush C210.here C210.hx rfl (C210.dec at_377) kk_))) ?_
        refine C210.castore V210 ⟨by decide, by decide⟩ 6 (by decide) (Nat.le_of_ble_eq_true rfl) (x' := (99 : Int32)) (by decide) zg204 (vs' := [(.int (i0 &&& (255 : Int32))), (.int (i1 &&& (255 : Int32))), (.int (32 : Int32)), (.int (100 : Int32)), (.int (101 : Int32)), (.int (115 : Int32)), (.int (99 : Int32))]) rfl at_379 (pc' := 380) rfl ?_
        intro T211 h211 C211 K211 A211 V211
        replace K211 := Keep.trans K210 K211 (allS (Or.inl (by simp)) all0)
        replace A211 := CHr.trans A210 A211
        clear C210 V210 K210 A210 T210 h210
        show Endw p e below T211 (mkF m 380 #[.val (.int i0), .val (.int i1), .val (.int i2), .val (.int (i0 &&& (255 : Int32))), .val (.int (i1 &&& (255 : Int32))), .val (.int (1 : Int32)), .val (.int (1 : Int32)), .val (.int (0 : Int32)), .val (.ref dm), .val (.ref a193), .unset, .unset] [(.ref a204)]) _
        refine Endw.st (T' := T211) (g' := (mkF m 399 #[.val (.int i0), .val (.int i1), .val (.int i2), .val (.int (i0 &&& (255 : Int32))), .val (.int (i1 &&& (255 : Int32))), .val (.int (1 : Int32)), .val (.int (1 : Int32)), .val (.int (0 : Int32)), .val (.ref dm), .val (.ref a193), .val (.ref a204), .unset] [])) (fun tt_ kk_ => XS.astore C211.here C211.hx rfl (C211.dec at_380) rfl rfl (l' := #[.val (.int i0), .val (.int i1), .val (.int i2), .val (.int (i0 &&& (255 : Int32))), .val (.int (i1 &&& (255 : Int32))), .val (.int (1 : Int32)), .val (.int (1 : Int32)), .val (.int (0 : Int32)), .val (.ref dm), .val (.ref a193), .val (.ref a204), .unset]) rfl (XS.goto C211.here C211.hx rfl (pc0 := 382) rfl (C211.dec at_382) (by decide) rfl kk_)) ?_
        refine C211.new (W3 hw) (W4 hw) (W5 hw) at_399 (pc' := 402) rfl (by decide) (by decide) ?_
        intro T212 h212 a212 C212 K212 A212 ge212 zg212 E212 D212 S212
        show Endw p e below T212 (mkF m 402 #[.val (.int i0), .val (.int i1), .val (.int i2), .val (.int (i0 &&& (255 : Int32))), .val (.int (i1 &&& (255 : Int32))), .val (.int (1 : Int32)), .val (.int (1 : Int32)), .val (.int (0 : Int32)), .val (.ref dm), .val (.ref a193), .val (.ref a204), .unset] [(.ref a212)]) _
        refine Endw.st (T' := T212) (g' := (mkF m 405 #[.val (.int i0), .val (.int i1), .val (.int i2), .val (.int (i0 &&& (255 : Int32))), .val (.int (i1 &&& (255 : Int32))), .val (.int (1 : Int32)), .val (.int (1 : Int32)), .val (.int (0 : Int32)), .val (.ref dm), .val (.ref a193), .val (.ref a204), .unset] [(.ref a204), (.ref a212), (.ref a212)])) (fun tt_ kk_ => XS.dup C212.here C212.hx rfl (C212.dec at_402) rfl rfl (XS.aload C212.here C212.hx rfl (C212.dec at_403) rfl rfl kk_)) ?_
        have f213 := (V211.keep K212 nin0)
        have f214 : Fld Z h212 a212 "java/lang/String" "value" "[B" .null := D212 (Or.inr (W32 hw)) (ty := (.array .byte)) (by decide)
        have f215 : Fld Z h212 a212 "java/lang/String" "coder" "B" (.int (0 : Int32)) := D212 (Or.inr (W30 hw)) (ty := .byte) (by decide)
        have hp216 : ∀ c ∈ [(i0 &&& (255 : Int32)), (i1 &&& (255 : Int32)), (32 : Int32), (100 : Int32), (101 : Int32), (115 : Int32), (99 : Int32)], B8 c := (own_cS (own_mask255 _) (own_cS (own_mask255 _) (own_cS ⟨by decide, by decide⟩ (own_cS ⟨by decide, by decide⟩ (own_cS ⟨by decide, by decide⟩ (own_cS ⟨by decide, by decide⟩ (own_cS ⟨by decide, by decide⟩ own_c0)))))))
        refine C212.specialF (y := (⟨"java/lang/String", "<init>", "([C)V"⟩ : MethodName)) (ws := [a212]) (W := 1) (a := a212) (argsL := [.ref a204]) (rest := [(.ref a212)]) (ck := 1) (cn := 7) rfl (W7 hw) (W8 hw) (W9 hw) (by decide) (StrChars.Road.backV (W := 1) (n := 7) (n0 := Z.heap.size) (cs := [(i0 &&& (255 : Int32)), (i1 &&& (255 : Int32)), (32 : Int32), (100 : Int32), (101 : Int32), (115 : Int32), (99 : Int32)]) (bs := [(i0 &&& (255 : Int32)).toInt8.toInt32, (i1 &&& (255 : Int32)).toInt8.toInt32, (32 : Int32).toInt8.toInt32, (100 : Int32).toInt8.toInt32, (101 : Int32).toInt8.toInt32, (115 : Int32).toInt8.toInt32, (99 : Int32).toInt8.toInt32]) C212.warm G.w_backV (kI := 4) (W4 hw) zg212 C212.le E212 f214 f215 f213 (Sc.ext C212.old) hzc rfl rfl (by decide) (by decide) hp216 rfl (by decide) (by decide)) (fun _ _ _ q => ⟨q.2.1, q.2.2.1⟩) (allS zg212 all0) (sfS S212 sf0) rfl (by decide) (by decide) (lenOf pd_285b432956 rfl) rfl (Nat.le_of_ble_eq_true rfl) rfl at_405 (pc' := 408) rfl ?_
        intro T216 h216 v216 C216 K216 A216 q216
        obtain ⟨_, rfl, -, -, E216, F216, t216, kb216, zg216, ge216, nt216, f216, V216⟩ := q216
        have Z216 : Str Z h216 a212 t216 kb216 [(i0 &&& (255 : Int32)), (i1 &&& (255 : Int32)), (32 : Int32), (100 : Int32), (101 : Int32), (115 : Int32), (99 : Int32)] := ⟨E216, F216, f216, V216, hp216, Nat.le_of_ble_eq_true rfl⟩
        show Endw p e below T216 (mkF m 408 #[.val (.int i0), .val (.int i1), .val (.int i2), .val (.int (i0 &&& (255 : Int32))), .val (.int (i1 &&& (255 : Int32))), .val (.int (1 : Int32)), .val (.int (1 : Int32)), .val (.int (0 : Int32)), .val (.ref dm), .val (.ref a193), .val (.ref a204), .unset] [(.ref a212)]) _
        refine Endw.st (T' := T216) (g' := (mkF m 420 #[.val (.int i0), .val (.int i1), .val (.int i2), .val (.int (i0 &&& (255 : Int32))), .val (.int (i1 &&& (255 : Int32))), .val (.int (1 : Int32)), .val (.int (1 : Int32)), .val (.int (0 : Int32)), .val (.ref dm), .val (.ref a193), .val (.ref a204), .val (.ref a212)] [(.int (0 : Int32)), (.int (1 : Int32)), (.ref a193), (.ref dm), (.ref a212)])) (fun tt_ kk_ => XS.astore C216.here C216.hx rfl (C216.dec at_408) rfl rfl (l' := #[.val (.int i0), .val (.int i1), .val (.int i2), .val (.int (i0 &&& (255 : Int32))), .val (.int (i1 &&& (255 : Int32))), .val (.int (1 : Int32)), .val (.int (1 : Int32)), .val (.int (0 : Int32)), .val (.ref dm), .val (.ref a193), .val (.ref a204), .val (.ref a212)]) rfl (XS.aload C216.here C216.hx rfl (C216.dec at_410) rfl rfl (XS.aload C216.here C216.hx rfl (C216.dec at_412) rfl rfl (XS.aload C216.here C216.hx rfl (C216.dec at_414) rfl rfl (XS.iload C216.here C216.hx rfl (C216.dec at_416) rfl (XS.iload C216.here C216.hx rfl (C216.dec at_418) rfl kk_)))))) ?_
        have f217 := (((((((((Fm.ext O).keep K193 nin0).keep K194 nin0).keep K196 (ninS (Nat.ne_of_lt (Nat.lt_of_lt_of_le (Nat.lt_of_lt_of_le (Em.ext O).lt K193.1) ge194)) nin0)).keep K202 (ninS (Nat.ne_of_lt (Nat.lt_of_lt_of_le (Em.ext O).lt ge193)) nin0)).keep K204 nin0).keep K211 (ninS (Nat.ne_of_lt (Nat.lt_of_lt_of_le (Nat.lt_of_lt_of_le (Em.ext O).lt (Nat.le_trans K193.1 (Nat.le_trans K194.1 (Nat.le_trans K196.1 K202.1)))) ge204)) nin0)).keep K212 nin0).keep K216 (ninS (Nat.ne_of_lt (Nat.lt_of_lt_of_le (Nat.lt_of_lt_of_le (Em.ext O).lt (Nat.le_trans K193.1 (Nat.le_trans K194.1 (Nat.le_trans K196.1 (Nat.le_trans K202.1 (Nat.le_trans K204.1 K211.1)))))) ge212)) nin0))
        have f218 := ((((Z202.keep K204 nin0 nin0).keep K211 (ninS (Nat.ne_of_lt (Nat.lt_of_lt_of_le (Nat.lt_of_lt_of_le E193.lt (Nat.le_trans K194.1 (Nat.le_trans K196.1 K202.1))) ge204)) nin0) (ninS (Nat.ne_of_lt (Nat.lt_of_lt_of_le V202.lt ge204)) nin0)).keep K212 nin0 nin0).keep K216 (ninS (Nat.ne_of_lt (Nat.lt_of_lt_of_le (Nat.lt_of_lt_of_le E193.lt (Nat.le_trans K194.1 (Nat.le_trans K196.1 (Nat.le_trans K202.1 (Nat.le_trans K204.1 K211.1))))) ge212)) nin0) (ninS (Nat.ne_of_lt (Nat.lt_of_lt_of_le (Nat.lt_of_lt_of_le V202.lt (Nat.le_trans K204.1 K211.1)) ge212)) nin0))
        have f220 := (((((((((Em.ext O).keep K193).keep K194).keep K196).keep K202).keep K204).keep K211).keep K212).keep K216)
        refine C216.virtual (y := (⟨"com/example/frugal_orm/frugalorm/Dialect", "orderItems", "(Ljava/lang/String;ZZ)Ljava/lang/String;"⟩ : MethodName)) (z := (⟨"com/example/frugal_orm/frugalorm/Dialect", "orderItems", "(Ljava/lang/String;ZZ)Ljava/lang/String;"⟩ : MethodName)) (W := 1) (a := dm) (argsL := [(.ref a193), (.int (1 : Int32)), (.int (0 : Int32))]) (rest := [(.ref a212)]) (W33 hw) (W34 hw) (fun _ q => notFace_of_selects (args := #[]) (mvT q (W36 hw))) (W36 hw) (W35 hw) (W37 hw) (W1 hw) (by decide) (rm_oi101 l Z a0 EL G dm a193 t202 kb202 (i0 &&& (255 : Int32)) (i1 &&& (255 : Int32)) h216 C216.old f217 f218) (fun z => nomatch z) rfl f220 all0 (by decide) (by decide) (by decide) (by decide) (lenOf pd_19 rfl) rfl (Nat.le_of_ble_eq_true rfl) rfl at_420 (pc' := 423) rfl ?_
        intro vm219 T219 h219 v219 C219 A219 M219 q219
        obtain ⟨a219, t219, kb219, rfl, K219, ge219, gt219, zg219, zt219, Z219⟩ := q219
        show Endw p e below T219 (mkF m 423 #[.val (.int i0), .val (.int i1), .val (.int i2), .val (.int (i0 &&& (255 : Int32))), .val (.int (i1 &&& (255 : Int32))), .val (.int (1 : Int32)), .val (.int (1 : Int32)), .val (.int (0 : Int32)), .val (.ref dm), .val (.ref a193), .val (.ref a204), .val (.ref a212)] [(.ref a219), (.ref a212)]) _
        have f221 := (Z216.keep K219 nin0 nin0)
        have f223 := (E216.keep K219)
        refine C219.virtualF (y := (⟨"java/lang/String", "equals", "(Ljava/lang/Object;)Z"⟩ : MethodName)) (z := (⟨"java/lang/String", "equals", "(Ljava/lang/Object;)Z"⟩ : MethodName)) (ws := []) (W := 0) (a := a212) (argsL := [.ref a219]) (rest := []) (ck := 0) (cn := 0) (Qf := fun v h' L => ((v = some (.int 1) ∧ [(i0 &&& (255 : Int32)), (i1 &&& (255 : Int32)), (32 : Int32), (100 : Int32), (101 : Int32), (115 : Int32), (99 : Int32)] = (([] ++ [(i0 &&& (255 : Int32)), (i1 &&& (255 : Int32))]) ++ [(32 : Int32), (100 : Int32), (101 : Int32), (115 : Int32), (99 : Int32)])) ∨ (v = some (.int 0) ∧ ¬ [(i0 &&& (255 : Int32)), (i1 &&& (255 : Int32)), (32 : Int32), (100 : Int32), (101 : Int32), (115 : Int32), (99 : Int32)] = (([] ++ [(i0 &&& (255 : Int32)), (i1 &&& (255 : Int32))]) ++ [(32 : Int32), (100 : Int32), (101 : Int32), (115 : Int32), (99 : Int32)]))) ∧ L = [] ∧ h' = h219) (W151 hw) (W152 hw) (fun _ q => notFace_of_selects (args := #[]) (mvT q (W154 hw))) (W154 hw) (W153 hw) (by decide) (StrChars.Road.eqW (W := 0) (cs := [(i0 &&& (255 : Int32)), (i1 &&& (255 : Int32)), (32 : Int32), (100 : Int32), (101 : Int32), (115 : Int32), (99 : Int32)]) (ds := (([] ++ [(i0 &&& (255 : Int32)), (i1 &&& (255 : Int32))]) ++ [(32 : Int32), (100 : Int32), (101 : Int32), (115 : Int32), (99 : Int32)])) C219.warm G.w_eqW (kI := 4) (W4 hw) f221.1 f221.2.2.1 f221.2.1 f221.2.2.2.1 (StrChars.Road.codOf rfl (fun c q => (f221.2.2.2.2.1 c q).2)) (fun c q => own_b16 (f221.2.2.2.2.1 c q)) f221.2.2.2.2.2 Z219.1 Z219.2.2.1 Z219.2.1 Z219.2.2.2.1 (StrChars.Road.codOf rfl (fun c q => (Z219.2.2.2.2.1 c q).2)) (fun c q => own_b16 (Z219.2.2.2.2.1 c q)) Z219.2.2.2.2.2 (Sc.ext C219.old) hzc (by decide) (by decide)) (fun _ _ _ q => ⟨by rw [q.2.1]; exact Fr.nil _, by rw [q.2.2]; exact Keep.refl _ _⟩) all0 sf0 rfl f223 (by decide) (by decide) (lenOf pd_14 rfl) rfl (Nat.le_of_ble_eq_true rfl) rfl at_423 (pc' := 426) rfl ?_
        intro T222 h222 v222 C222 K222 A222 q222
        obtain ⟨_, q222, -, -⟩ := q222
        obtain rfl : v222 = some (.int 1) := q222.elim (fun z => z.1) (fun z => absurd (rfl) z.2)
        show Endw p e below T222 (mkF m 426 #[.val (.int i0), .val (.int i1), .val (.int i2), .val (.int (i0 &&& (255 : Int32))), .val (.int (i1 &&& (255 : Int32))), .val (.int (1 : Int32)), .val (.int (1 : Int32)), .val (.int (0 : Int32)), .val (.ref dm), .val (.ref a193), .val (.ref a204), .val (.ref a212)] [(.int (1 : Int32))]) _
        exact C222.retI (t := .boolean) rfl (by simp) rfl at_426 (by decide) (by decide) rfl
      · refine Endw.st (T' := T0) (g' := (mkF m 59 #[.val (.int i0), .val (.int i1), .val (.int i2), .val (.int (i0 &&& (255 : Int32))), .val (.int (i1 &&& (255 : Int32))), .val (.int (1 : Int32)), .val (.int (1 : Int32)), .val (.int (1 : Int32)), .unset, .unset, .unset, .unset] [])) (fun tt_ kk_ => XS.ifNo C0.here C0.hx rfl (C0.dec at_44) rfl (XT.i0_eq_f c191) (XS.iconst C0.here C0.hx rfl (C0.dec at_47) (XS.goto C0.here C0.hx rfl (pc0 := 48) rfl (C0.dec at_48) (by decide) rfl (XS.istore C0.here C0.hx rfl (C0.dec at_52) rfl (l' := #[.val (.int i0), .val (.int i1), .val (.int i2), .val (.int (i0 &&& (255 : Int32))), .val (.int (i1 &&& (255 : Int32))), .val (.int (1 : Int32)), .val (.int (1 : Int32)), .val (.int (1 : Int32)), .unset, .unset, .unset, .unset]) rfl (XS.iload C0.here C0.hx rfl (C0.dec at_54) rfl (XS.ifNo C0.here C0.hx rfl (C0.dec at_56) rfl (XT.i0_eq_f (by decide)) kk_)))))) ?_
        refine C0.getS (W161 hw) Sm at_59 (pc' := 62) rfl ?_
        intro T224 C224
        show Endw p e below T224 (mkF m 62 #[.val (.int i0), .val (.int i1), .val (.int i2), .val (.int (i0 &&& (255 : Int32))), .val (.int (i1 &&& (255 : Int32))), .val (.int (1 : Int32)), .val (.int (1 : Int32)), .val (.int (1 : Int32)), .unset, .unset, .unset, .unset] [(.ref dm)]) _
        refine Endw.st (T' := T224) (g' := (mkF m 70 #[.val (.int i0), .val (.int i1), .val (.int i2), .val (.int (i0 &&& (255 : Int32))), .val (.int (i1 &&& (255 : Int32))), .val (.int (1 : Int32)), .val (.int (1 : Int32)), .val (.int (1 : Int32)), .val (.ref dm), .unset, .unset, .unset] [])) (fun tt_ kk_ => XS.goto C224.here C224.hx rfl (pc0 := 62) rfl (C224.dec at_62) (by decide) rfl (XS.astore C224.here C224.hx rfl (C224.dec at_68) rfl rfl (l' := #[.val (.int i0), .val (.int i1), .val (.int i2), .val (.int (i0 &&& (255 : Int32))), .val (.int (i1 &&& (255 : Int32))), .val (.int (1 : Int32)), .val (.int (1 : Int32)), .val (.int (1 : Int32)), .val (.ref dm), .unset, .unset, .unset]) rfl kk_)) ?_
        refine C224.new (W3 hw) (W4 hw) (W5 hw) at_70 (pc' := 73) rfl (by decide) (by decide) ?_
        intro T225 h225 a225 C225 K225 A225 ge225 zg225 E225 D225 S225
        show Endw p e below T225 (mkF m 73 #[.val (.int i0), .val (.int i1), .val (.int i2), .val (.int (i0 &&& (255 : Int32))), .val (.int (i1 &&& (255 : Int32))), .val (.int (1 : Int32)), .val (.int (1 : Int32)), .val (.int (1 : Int32)), .val (.ref dm), .unset, .unset, .unset] [(.ref a225)]) _
        refine Endw.st (T' := T225) (g' := (mkF m 75 #[.val (.int i0), .val (.int i1), .val (.int i2), .val (.int (i0 &&& (255 : Int32))), .val (.int (i1 &&& (255 : Int32))), .val (.int (1 : Int32)), .val (.int (1 : Int32)), .val (.int (1 : Int32)), .val (.ref dm), .unset, .unset, .unset] [(.int (2 : Int32)), (.ref a225), (.ref a225)])) (fun tt_ kk_ => XS.dup C225.here C225.hx rfl (C225.dec at_73) rfl rfl (XS.iconst C225.here C225.hx rfl (C225.dec at_74) kk_)) ?_
        refine C225.newA (aty := .char) (z := (2 : Int32)) (cap := 2) (vs := [(.int 0), (.int 0)]) (W6 hw) at_75 (pc' := 77) rfl (by decide) (by decide) (by decide) (by decide) (by decide) rfl ?_
        intro T226 h226 a226 kA226 C226 K226 A226 ge226 zg226 V226 S226
        show Endw p e below T226 (mkF m 77 #[.val (.int i0), .val (.int i1), .val (.int i2), .val (.int (i0 &&& (255 : Int32))), .val (.int (i1 &&& (255 : Int32))), .val (.int (1 : Int32)), .val (.int (1 : Int32)), .val (.int (1 : Int32)), .val (.ref dm), .unset, .unset, .unset] [(.ref a226), (.ref a225), (.ref a225)]) _
        refine Endw.st (T' := T226) (g' := (mkF m 80 #[.val (.int i0), .val (.int i1), .val (.int i2), .val (.int (i0 &&& (255 : Int32))), .val (.int (i1 &&& (255 : Int32))), .val (.int (1 : Int32)), .val (.int (1 : Int32)), .val (.int (1 : Int32)), .val (.ref dm), .unset, .unset, .unset] [(.int (i0 &&& (255 : Int32))), (.int (0 : Int32)), (.ref a226), (.ref a226), (.ref a225), (.ref a225)])) (fun tt_ kk_ => XS.dup C226.here C226.hx rfl (C226.dec at_77) rfl rfl (XS.iconst C226.here C226.hx rfl (C226.dec at_78) (XS.iloadN C226.here C226.hx rfl (C226.dec at_79) rfl kk_))) ?_
        refine C226.castore V226 ⟨by decide, by decide⟩ 0 (by decide) (Nat.le_of_ble_eq_true rfl) (x' := (i0 &&& (255 : Int32))) (i2c_mask _) zg226 (vs' := [(.int (i0 &&& (255 : Int32))), (.int 0)]) rfl at_80 (pc' := 81) rfl ?_
        intro T227 h227 C227 K227 A227 V227
        show Endw p e below T227 (mkF m 81 #[.val (.int i0), .val (.int i1), .val (.int i2), .val (.int (i0 &&& (255 : Int32))), .val (.int (i1 &&& (255 : Int32))), .val (.int (1 : Int32)), .val (.int (1 : Int32)), .val (.int (1 : Int32)), .val (.ref dm), .unset, .unset, .unset] [(.ref a226), (.ref a225), (.ref a225)]) _
        refine Endw.st (T' := T227) (g' := (mkF m 85 #[.val (.int i0), .val (.int i1), .val (.int i2), .val (.int (i0 &&& (255 : Int32))), .val (.int (i1 &&& (255 : Int32))), .val (.int (1 : Int32)), .val (.int (1 : Int32)), .val (.int (1 : Int32)), .val (.ref dm), .unset, .unset, .unset] [(.int (i1 &&& (255 : Int32))), (.int (1 : Int32)), (.ref a226), (.ref a226), (.ref a225), (.ref a225)])) (fun tt_ kk_ => XS.dup C227.here C227.hx rfl (C227.dec at_81) rfl rfl (XS.iconst C227.here C227.hx rfl (C227.dec at_82) (XS.iload C227.here C227.hx rfl (C227.dec at_83) rfl kk_))) ?_
        refine C227.castore V227 ⟨by decide, by decide⟩ 1 (by decide) (Nat.le_of_ble_eq_true rfl) (x' := (i1 &&& (255 : Int32))) (i2c_mask _) zg226 (vs' := [(.int (i0 &&& (255 : Int32))), (.int (i1 &&& (255 : Int32)))]) rfl at_85 (pc' := 86) rfl ?_
        intro T228 h228 C228 K228 A228 V228
        replace K228 := Keep.trans K227 K228 (allS (Or.inl (by simp)) all0)
        replace A228 := CHr.trans A227 A228
        clear C227 V227 K227 A227 T227 h227
        show Endw p e below T228 (mkF m 86 #[.val (.int i0), .val (.int i1), .val (.int i2), .val (.int (i0 &&& (255 : Int32))), .val (.int (i1 &&& (255 : Int32))), .val (.int (1 : Int32)), .val (.int (1 : Int32)), .val (.int (1 : Int32)), .val (.ref dm), .unset, .unset, .unset] [(.ref a226), (.ref a225), (.ref a225)]) _
        have f229 := ((E225.keep K226).keep K228)
        have f230 : Fld Z h225 a225 "java/lang/String" "value" "[B" .null := D225 (Or.inr (W32 hw)) (ty := (.array .byte)) (by decide)
        have f231 := ((f230.keep K226 nin0).keep K228 (ninS (Nat.ne_of_lt (Nat.lt_of_lt_of_le E225.lt ge226)) nin0))
        have f232 : Fld Z h225 a225 "java/lang/String" "coder" "B" (.int (0 : Int32)) := D225 (Or.inr (W30 hw)) (ty := .byte) (by decide)
        have f233 := ((f232.keep K226 nin0).keep K228 (ninS (Nat.ne_of_lt (Nat.lt_of_lt_of_le E225.lt ge226)) nin0))
        have hp234 : ∀ c ∈ [(i0 &&& (255 : Int32)), (i1 &&& (255 : Int32))], B8 c := (own_cS (own_mask255 _) (own_cS (own_mask255 _) own_c0))
        have f235 := (A228.safe (Nat.lt_of_lt_of_le E225.lt K226.1) (A226.safe E225.lt S225))
        refine C228.specialF (y := (⟨"java/lang/String", "<init>", "([C)V"⟩ : MethodName)) (ws := [a225]) (W := 1) (a := a225) (argsL := [.ref a226]) (rest := [(.ref a225)]) (ck := 1) (cn := 2) rfl (W7 hw) (W8 hw) (W9 hw) (by decide) (StrChars.Road.backV (W := 1) (n := 2) (n0 := Z.heap.size) (cs := [(i0 &&& (255 : Int32)), (i1 &&& (255 : Int32))]) (bs := [(i0 &&& (255 : Int32)).toInt8.toInt32, (i1 &&& (255 : Int32)).toInt8.toInt32]) C228.warm G.w_backV (kI := 4) (W4 hw) zg225 C228.le f229 f231 f233 V228 (Sc.ext C228.old) hzc rfl rfl (by decide) (by decide) hp234 rfl (by decide) (by decide)) (fun _ _ _ q => ⟨q.2.1, q.2.2.1⟩) (allS zg225 all0) (sfS f235 sf0) rfl (by decide) (by decide) (lenOf pd_285b432956 rfl) rfl (Nat.le_of_ble_eq_true rfl) rfl at_86 (pc' := 89) rfl ?_
        intro T234 h234 v234 C234 K234 A234 q234
        obtain ⟨_, rfl, -, -, E234, F234, t234, kb234, zg234, ge234, nt234, f234, V234⟩ := q234
        have Z234 : Str Z h234 a225 t234 kb234 [(i0 &&& (255 : Int32)), (i1 &&& (255 : Int32))] := ⟨E234, F234, f234, V234, hp234, Nat.le_of_ble_eq_true rfl⟩
        show Endw p e below T234 (mkF m 89 #[.val (.int i0), .val (.int i1), .val (.int i2), .val (.int (i0 &&& (255 : Int32))), .val (.int (i1 &&& (255 : Int32))), .val (.int (1 : Int32)), .val (.int (1 : Int32)), .val (.int (1 : Int32)), .val (.ref dm), .unset, .unset, .unset] [(.ref a225)]) _
        refine Endw.st (T' := T234) (g' := (mkF m 108 #[.val (.int i0), .val (.int i1), .val (.int i2), .val (.int (i0 &&& (255 : Int32))), .val (.int (i1 &&& (255 : Int32))), .val (.int (1 : Int32)), .val (.int (1 : Int32)), .val (.int (1 : Int32)), .val (.ref dm), .val (.ref a225), .unset, .unset] [(.int (24 : Int32))])) (fun tt_ kk_ => XS.astore C234.here C234.hx rfl (C234.dec at_89) rfl rfl (l' := #[.val (.int i0), .val (.int i1), .val (.int i2), .val (.int (i0 &&& (255 : Int32))), .val (.int (i1 &&& (255 : Int32))), .val (.int (1 : Int32)), .val (.int (1 : Int32)), .val (.int (1 : Int32)), .val (.ref dm), .val (.ref a225), .unset, .unset]) rfl (XS.iload C234.here C234.hx rfl (C234.dec at_91) rfl (XS.ifNo C234.here C234.hx rfl (C234.dec at_93) rfl (XT.i0_eq_f (by decide)) (XS.iload C234.here C234.hx rfl (C234.dec at_96) rfl (XS.ifNo C234.here C234.hx rfl (C234.dec at_98) rfl (XT.i0_eq_f (by decide)) (XS.iload C234.here C234.hx rfl (C234.dec at_101) rfl (XS.ifNo C234.here C234.hx rfl (C234.dec at_103) rfl (XT.i0_eq_f (by decide)) (XS.bipush C234.here C234.hx rfl (C234.dec at_106) kk_)))))))) ?_
        refine C234.newA (aty := .char) (z := (24 : Int32)) (cap := 24) (vs := [(.int 0), (.int 0), (.int 0), (.int 0), (.int 0), (.int 0), (.int 0), (.int 0), (.int 0), (.int 0), (.int 0), (.int 0), (.int 0), (.int 0), (.int 0), (.int 0), (.int 0), (.int 0), (.int 0), (.int 0), (.int 0), (.int 0), (.int 0), (.int 0)]) (W6 hw) at_108 (pc' := 110) rfl (by decide) (by decide) (by decide) (by decide) (by decide) rfl ?_
        intro T236 h236 a236 kA236 C236 K236 A236 ge236 zg236 V236 S236
        show Endw p e below T236 (mkF m 110 #[.val (.int i0), .val (.int i1), .val (.int i2), .val (.int (i0 &&& (255 : Int32))), .val (.int (i1 &&& (255 : Int32))), .val (.int (1 : Int32)), .val (.int (1 : Int32)), .val (.int (1 : Int32)), .val (.ref dm), .val (.ref a225), .unset, .unset] [(.ref a236)]) _
        refine Endw.st (T' := T236) (g' := (mkF m 113 #[.val (.int i0), .val (.int i1), .val (.int i2), .val (.int (i0 &&& (255 : Int32))), .val (.int (i1 &&& (255 : Int32))), .val (.int (1 : Int32)), .val (.int (1 : Int32)), .val (.int (1 : Int32)), .val (.ref dm), .val (.ref a225), .unset, .unset] [(.int (i0 &&& (255 : Int32))), (.int (0 : Int32)), (.ref a236), (.ref a236)])) (fun tt_ kk_ => XS.dup C236.here C236.hx rfl (C236.dec at_110) rfl rfl (XS.iconst C236.here C236.hx rfl (C236.dec at_111) (XS.iloadN C236.here C236.hx rfl (C236.dec at_112) rfl kk_))) ?_
        refine C236.castore V236 ⟨by decide, by decide⟩ 0 (by decide) (Nat.le_of_ble_eq_true rfl) (x' := (i0 &&& (255 : Int32))) (i2c_mask _) zg236 (vs' := [(.int (i0 &&& (255 : Int32))), (.int 0), (.int 0), (.int 0), (.int 0), (.int 0), (.int 0), (.int 0), (.int 0), (.int 0), (.int 0), (.int 0), (.int 0), (.int 0), (.int 0), (.int 0), (.int 0), (.int 0), (.int 0), (.int 0), (.int 0), (.int 0), (.int 0), (.int 0)]) rfl at_113 (pc' := 114) rfl ?_
        intro T237 h237 C237 K237 A237 V237
        show Endw p e below T237 (mkF m 114 #[.val (.int i0), .val (.int i1), .val (.int i2), .val (.int (i0 &&& (255 : Int32))), .val (.int (i1 &&& (255 : Int32))), .val (.int (1 : Int32)), .val (.int (1 : Int32)), .val (.int (1 : Int32)), .val (.ref dm), .val (.ref a225), .unset, .unset] [(.ref a236)]) _
        refine Endw.st (T' := T237) (g' := (mkF m 118 #[.val (.int i0), .val (.int i1), .val (.int i2), .val (.int (i0 &&& (255 : Int32))), .val (.int (i1 &&& (255 : Int32))), .val (.int (1 : Int32)), .val (.int (1 : Int32)), .val (.int (1 : Int32)), .val (.ref dm), .val (.ref a225), .unset, .unset] [(.int (i1 &&& (255 : Int32))), (.int (1 : Int32)), (.ref a236), (.ref a236)])) (fun tt_ kk_ => XS.dup C237.here C237.hx rfl (C237.dec at_114) rfl rfl (XS.iconst C237.here C237.hx rfl (C237.dec at_115) (XS.iload C237.here C237.hx rfl (C237.dec at_116) rfl kk_))) ?_
        refine C237.castore V237 ⟨by decide, by decide⟩ 1 (by decide) (Nat.le_of_ble_eq_true rfl) (x' := (i1 &&& (255 : Int32))) (i2c_mask _) zg236 (vs' := [(.int (i0 &&& (255 : Int32))), (.int (i1 &&& (255 : Int32))), (.int 0), (.int 0), (.int 0), (.int 0), (.int 0), (.int 0), (.int 0), (.int 0), (.int 0), (.int 0), (.int 0), (.int 0), (.int 0), (.int 0), (.int 0), (.int 0), (.int 0), (.int 0), (.int 0), (.int 0), (.int 0), (.int 0)]) rfl at_118 (pc' := 119) rfl ?_
        intro T238 h238 C238 K238 A238 V238
        replace K238 := Keep.trans K237 K238 (allS (Or.inl (by simp)) all0)
        replace A238 := CHr.trans A237 A238
        clear C237 V237 K237 A237 T237 h237
        show Endw p e below T238 (mkF m 119 #[.val (.int i0), .val (.int i1), .val (.int i2), .val (.int (i0 &&& (255 : Int32))), .val (.int (i1 &&& (255 : Int32))), .val (.int (1 : Int32)), .val (.int (1 : Int32)), .val (.int (1 : Int32)), .val (.ref dm), .val (.ref a225), .unset, .unset] [(.ref a236)]) _
        refine Endw.st (T' := T238) (g' := (mkF m 123 #[.val (.int i0), .val (.int i1), .val (.int i2), .val (.int (i0 &&& (255 : Int32))), .val (.int (i1 &&& (255 : Int32))), .val (.int (1 : Int32)), .val (.int (1 : Int32)), .val (.int (1 : Int32)), .val (.ref dm), .val (.ref a225), .unset, .unset] [(.int (32 : Int32)), (.int (2 : Int32)), (.ref a236), (.ref a236)])) (fun tt_ kk_ => XS.dup C238.here C238.hx rfl (C238.dec at_119) rfl rfl (XS.iconst C238.here C238.hx rfl (C238.dec at_120) (XS.bipush C238.here C238.hx rfl (C238.dec at_121) kk_))) ?_
        refine C238.castore V238 ⟨by decide, by decide⟩ 2 (by decide) (Nat.le_of_ble_eq_true rfl) (x' := (32 : Int32)) (by decide) zg236 (vs' := [(.int (i0 &&& (255 : Int32))), (.int (i1 &&& (255 : Int32))), (.int (32 : Int32)), (.int 0), (.int 0), (.int 0), (.int 0), (.int 0), (.int 0), (.int 0), (.int 0), (.int 0), (.int 0), (.int 0), (.int 0), (.int 0), (.int 0), (.int 0), (.int 0), (.int 0), (.int 0), (.int 0), (.int 0), (.int 0)]) rfl at_123 (pc' := 124) rfl ?_
        intro T239 h239 C239 K239 A239 V239
        replace K239 := Keep.trans K238 K239 (allS (Or.inl (by simp)) all0)
        replace A239 := CHr.trans A238 A239
        clear C238 V238 K238 A238 T238 h238
        show Endw p e below T239 (mkF m 124 #[.val (.int i0), .val (.int i1), .val (.int i2), .val (.int (i0 &&& (255 : Int32))), .val (.int (i1 &&& (255 : Int32))), .val (.int (1 : Int32)), .val (.int (1 : Int32)), .val (.int (1 : Int32)), .val (.ref dm), .val (.ref a225), .unset, .unset] [(.ref a236)]) _
        refine Endw.st (T' := T239) (g' := (mkF m 128 #[.val (.int i0), .val (.int i1), .val (.int i2), .val (.int (i0 &&& (255 : Int32))), .val (.int (i1 &&& (255 : Int32))), .val (.int (1 : Int32)), .val (.int (1 : Int32)), .val (.int (1 : Int32)), .val (.ref dm), .val (.ref a225), .unset, .unset] [(.int (105 : Int32)), (.int (3 : Int32)), (.ref a236), (.ref a236)])) (fun tt_ kk_ => XS.dup C239.here C239.hx rfl (C239.dec at_124) rfl rfl (XS.iconst C239.here C239.hx rfl (C239.dec at_125) (XS.bipush C239.here C239.hx rfl (C239.dec at_126) kk_))) ?_
        refine C239.castore V239 ⟨by decide, by decide⟩ 3 (by decide) (Nat.le_of_ble_eq_true rfl) (x' := (105 : Int32)) (by decide) zg236 (vs' := [(.int (i0 &&& (255 : Int32))), (.int (i1 &&& (255 : Int32))), (.int (32 : Int32)), (.int (105 : Int32)), (.int 0), (.int 0), (.int 0), (.int 0), (.int 0), (.int 0), (.int 0), (.int 0), (.int 0), (.int 0), (.int 0), (.int 0), (.int 0), (.int 0), (.int 0), (.int 0), (.int 0), (.int 0), (.int 0), (.int 0)]) rfl at_128 (pc' := 129) rfl ?_
        intro T240 h240 C240 K240 A240 V240
        replace K240 := Keep.trans K239 K240 (allS (Or.inl (by simp)) all0)
        replace A240 := CHr.trans A239 A240
        clear C239 V239 K239 A239 T239 h239
        show Endw p e below T240 (mkF m 129 #[.val (.int i0), .val (.int i1), .val (.int i2), .val (.int (i0 &&& (255 : Int32))), .val (.int (i1 &&& (255 : Int32))), .val (.int (1 : Int32)), .val (.int (1 : Int32)), .val (.int (1 : Int32)), .val (.ref dm), .val (.ref a225), .unset, .unset] [(.ref a236)]) _
        refine Endw.st (T' := T240) (g' := (mkF m 133 #[.val (.int i0), .val (.int i1), .val (.int i2), .val (.int (i0 &&& (255 : Int32))), .val (.int (i1 &&& (255 : Int32))), .val (.int (1 : Int32)), .val (.int (1 : Int32)), .val (.int (1 : Int32)), .val (.ref dm), .val (.ref a225), .unset, .unset] [(.int (115 : Int32)), (.int (4 : Int32)), (.ref a236), (.ref a236)])) (fun tt_ kk_ => XS.dup C240.here C240.hx rfl (C240.dec at_129) rfl rfl (XS.iconst C240.here C240.hx rfl (C240.dec at_130) (XS.bipush C240.here C240.hx rfl (C240.dec at_131) kk_))) ?_
        refine C240.castore V240 ⟨by decide, by decide⟩ 4 (by decide) (Nat.le_of_ble_eq_true rfl) (x' := (115 : Int32)) (by decide) zg236 (vs' := [(.int (i0 &&& (255 : Int32))), (.int (i1 &&& (255 : Int32))), (.int (32 : Int32)), (.int (105 : Int32)), (.int (115 : Int32)), (.int 0), (.int 0), (.int 0), (.int 0), (.int 0), (.int 0), (.int 0), (.int 0), (.int 0), (.int 0), (.int 0), (.int 0), (.int 0), (.int 0), (.int 0), (.int 0), (.int 0), (.int 0), (.int 0)]) rfl at_133 (pc' := 134) rfl ?_
        intro T241 h241 C241 K241 A241 V241
        replace K241 := Keep.trans K240 K241 (allS (Or.inl (by simp)) all0)
        replace A241 := CHr.trans A240 A241
        clear C240 V240 K240 A240 T240 h240
        show Endw p e below T241 (mkF m 134 #[.val (.int i0), .val (.int i1), .val (.int i2), .val (.int (i0 &&& (255 : Int32))), .val (.int (i1 &&& (255 : Int32))), .val (.int (1 : Int32)), .val (.int (1 : Int32)), .val (.int (1 : Int32)), .val (.ref dm), .val (.ref a225), .unset, .unset] [(.ref a236)]) _
        refine Endw.st (T' := T241) (g' := (mkF m 138 #[.val (.int i0), .val (.int i1), .val (.int i2), .val (.int (i0 &&& (255 : Int32))), .val (.int (i1 &&& (255 : Int32))), .val (.int (1 : Int32)), .val (.int (1 : Int32)), .val (.int (1 : Int32)), .val (.ref dm), .val (.ref a225), .unset, .unset] [(.int (32 : Int32)), (.int (5 : Int32)), (.ref a236), (.ref a236)])) (fun tt_ kk_ => XS.dup C241.here C241.hx rfl (C241.dec at_134) rfl rfl (XS.iconst C241.here C241.hx rfl (C241.dec at_135) (XS.bipush C241.here C241.hx rfl (C241.dec at_136) kk_))) ?_
        refine C241.castore V241 ⟨by decide, by decide⟩ 5 (by decide) (Nat.le_of_ble_eq_true rfl) (x' := (32 : Int32)) (by decide) zg236 (vs' := [(.int (i0 &&& (255 : Int32))), (.int (i1 &&& (255 : Int32))), (.int (32 : Int32)), (.int (105 : Int32)), (.int (115 : Int32)), (.int (32 : Int32)), (.int 0), (.int 0), (.int 0), (.int 0), (.int 0), (.int 0), (.int 0), (.int 0), (.int 0), (.int 0), (.int 0), (.int 0), (.int 0), (.int 0), (.int 0), (.int 0), (.int 0), (.int 0)]) rfl at_138 (pc' := 139) rfl ?_
        intro T242 h242 C242 K242 A242 V242
        replace K242 := Keep.trans K241 K242 (allS (Or.inl (by simp)) all0)
        replace A242 := CHr.trans A241 A242
        clear C241 V241 K241 A241 T241 h241
        show Endw p e below T242 (mkF m 139 #[.val (.int i0), .val (.int i1), .val (.int i2), .val (.int (i0 &&& (255 : Int32))), .val (.int (i1 &&& (255 : Int32))), .val (.int (1 : Int32)), .val (.int (1 : Int32)), .val (.int (1 : Int32)), .val (.ref dm), .val (.ref a225), .unset, .unset] [(.ref a236)]) _
        refine Endw.st (T' := T242) (g' := (mkF m 144 #[.val (.int i0), .val (.int i1), .val (.int i2), .val (.int (i0 &&& (255 : Int32))), .val (.int (i1 &&& (255 : Int32))), .val (.int (1 : Int32)), .val (.int (1 : Int32)), .val (.int (1 : Int32)), .val (.ref dm), .val (.ref a225), .unset, .unset] [(.int (110 : Int32)), (.int (6 : Int32)), (.ref a236), (.ref a236)])) (fun tt_ kk_ => XS.dup C242.here C242.hx rfl (C242.dec at_139) rfl rfl (XS.bipush C242.here C242.hx rfl (C242.dec at_140) (XS.bipush C242.here C242.hx rfl (C242.dec at_142) kk_))) ?_
        refine C242.castore V242 ⟨by decide, by decide⟩ 6 (by decide) (Nat.le_of_ble_eq_true rfl) (x' := (110 : Int32)) (by decide) zg236 (vs' := [(.int (i0 &&& (255 : Int32))), (.int (i1 &&& (255 : Int32))), (.int (32 : Int32)), (.int (105 : Int32)), (.int (115 : Int32)), (.int (32 : Int32)), (.int (110 : Int32)), (.int 0), (.int 0), (.int 0), (.int 0), (.int 0), (.int 0), (.int 0), (.int 0), (.int 0), (.int 0), (.int 0), (.int 0), (.int 0), (.int 0), (.int 0), (.int 0), (.int 0)]) rfl at_144 (pc' := 145) rfl ?_
        intro T243 h243 C243 K243 A243 V243
        replace K243 := Keep.trans K242 K243 (allS (Or.inl (by simp)) all0)
        replace A243 := CHr.trans A242 A243
        clear C242 V242 K242 A242 T242 h242
        show Endw p e below T243 (mkF m 145 #[.val (.int i0), .val (.int i1), .val (.int i2), .val (.int (i0 &&& (255 : Int32))), .val (.int (i1 &&& (255 : Int32))), .val (.int (1 : Int32)), .val (.int (1 : Int32)), .val (.int (1 : Int32)), .val (.ref dm), .val (.ref a225), .unset, .unset] [(.ref a236)]) _
        refine Endw.st (T' := T243) (g' := (mkF m 150 #[.val (.int i0), .val (.int i1), .val (.int i2), .val (.int (i0 &&& (255 : Int32))), .val (.int (i1 &&& (255 : Int32))), .val (.int (1 : Int32)), .val (.int (1 : Int32)), .val (.int (1 : Int32)), .val (.ref dm), .val (.ref a225), .unset, .unset] [(.int (117 : Int32)), (.int (7 : Int32)), (.ref a236), (.ref a236)])) (fun tt_ kk_ => XS.dup C243.here C243.hx rfl (C243.dec at_145) rfl rfl (XS.bipush C243.here C243.hx rfl (C243.dec at_146) (XS.bipush C243.here C243.hx rfl (C243.dec at_148) kk_))) ?_
        refine C243.castore V243 ⟨by decide, by decide⟩ 7 (by decide) (Nat.le_of_ble_eq_true rfl) (x' := (117 : Int32)) (by decide) zg236 (vs' := [(.int (i0 &&& (255 : Int32))), (.int (i1 &&& (255 : Int32))), (.int (32 : Int32)), (.int (105 : Int32)), (.int (115 : Int32)), (.int (32 : Int32)), (.int (110 : Int32)), (.int (117 : Int32)), (.int 0), (.int 0), (.int 0), (.int 0), (.int 0), (.int 0), (.int 0), (.int 0), (.int 0), (.int 0), (.int 0), (.int 0), (.int 0), (.int 0), (.int 0), (.int 0)]) rfl at_150 (pc' := 151) rfl ?_
        intro T244 h244 C244 K244 A244 V244
        replace K244 := Keep.trans K243 K244 (allS (Or.inl (by simp)) all0)
        replace A244 := CHr.trans A243 A244
        clear C243 V243 K243 A243 T243 h243
        show Endw p e below T244 (mkF m 151 #[.val (.int i0), .val (.int i1), .val (.int i2), .val (.int (i0 &&& (255 : Int32))), .val (.int (i1 &&& (255 : Int32))), .val (.int (1 : Int32)), .val (.int (1 : Int32)), .val (.int (1 : Int32)), .val (.ref dm), .val (.ref a225), .unset, .unset] [(.ref a236)]) _
        refine Endw.st (T' := T244) (g' := (mkF m 156 #[.val (.int i0), .val (.int i1), .val (.int i2), .val (.int (i0 &&& (255 : Int32))), .val (.int (i1 &&& (255 : Int32))), .val (.int (1 : Int32)), .val (.int (1 : Int32)), .val (.int (1 : Int32)), .val (.ref dm), .val (.ref a225), .unset, .unset] [(.int (108 : Int32)), (.int (8 : Int32)), (.ref a236), (.ref a236)])) (fun tt_ kk_ => XS.dup C244.here C244.hx rfl (C244.dec at_151) rfl rfl (XS.bipush C244.here C244.hx rfl (C244.dec at_152) (XS.bipush C244.here C244.hx rfl (C244.dec at_154) kk_))) ?_
        refine C244.castore V244 ⟨by decide, by decide⟩ 8 (by decide) (Nat.le_of_ble_eq_true rfl) (x' := (108 : Int32)) (by decide) zg236 (vs' := [(.int (i0 &&& (255 : Int32))), (.int (i1 &&& (255 : Int32))), (.int (32 : Int32)), (.int (105 : Int32)), (.int (115 : Int32)), (.int (32 : Int32)), (.int (110 : Int32)), (.int (117 : Int32)), (.int (108 : Int32)), (.int 0), (.int 0), (.int 0), (.int 0), (.int 0), (.int 0), (.int 0), (.int 0), (.int 0), (.int 0), (.int 0), (.int 0), (.int 0), (.int 0), (.int 0)]) rfl at_156 (pc' := 157) rfl ?_
        intro T245 h245 C245 K245 A245 V245
        replace K245 := Keep.trans K244 K245 (allS (Or.inl (by simp)) all0)
        replace A245 := CHr.trans A244 A245
        clear C244 V244 K244 A244 T244 h244
        show Endw p e below T245 (mkF m 157 #[.val (.int i0), .val (.int i1), .val (.int i2), .val (.int (i0 &&& (255 : Int32))), .val (.int (i1 &&& (255 : Int32))), .val (.int (1 : Int32)), .val (.int (1 : Int32)), .val (.int (1 : Int32)), .val (.ref dm), .val (.ref a225), .unset, .unset] [(.ref a236)]) _
        refine Endw.st (T' := T245) (g' := (mkF m 162 #[.val (.int i0), .val (.int i1), .val (.int i2), .val (.int (i0 &&& (255 : Int32))), .val (.int (i1 &&& (255 : Int32))), .val (.int (1 : Int32)), .val (.int (1 : Int32)), .val (.int (1 : Int32)), .val (.ref dm), .val (.ref a225), .unset, .unset] [(.int (108 : Int32)), (.int (9 : Int32)), (.ref a236), (.ref a236)])) (fun tt_ kk_ => XS.dup C245.here C245.hx rfl (C245.dec at_157) rfl rfl (XS.bipush C245.here C245.hx rfl (C245.dec at_158) (XS.bipush C245.here C245.hx rfl (C245.dec at_160) kk_))) ?_
        refine C245.castore V245 ⟨by decide, by decide⟩ 9 (by decide) (Nat.le_of_ble_eq_true rfl) (x' := (108 : Int32)) (by decide) zg236 (vs' := [(.int (i0 &&& (255 : Int32))), (.int (i1 &&& (255 : Int32))), (.int (32 : Int32)), (.int (105 : Int32)), (.int (115 : Int32)), (.int (32 : Int32)), (.int (110 : Int32)), (.int (117 : Int32)), (.int (108 : Int32)), (.int (108 : Int32)), (.int 0), (.int 0), (.int 0), (.int 0), (.int 0), (.int 0), (.int 0), (.int 0), (.int 0), (.int 0), (.int 0), (.int 0), (.int 0), (.int 0)]) rfl at_162 (pc' := 163) rfl ?_
        intro T246 h246 C246 K246 A246 V246
        replace K246 := Keep.trans K245 K246 (allS (Or.inl (by simp)) all0)
        replace A246 := CHr.trans A245 A246
        clear C245 V245 K245 A245 T245 h245
        show Endw p e below T246 (mkF m 163 #[.val (.int i0), .val (.int i1), .val (.int i2), .val (.int (i0 &&& (255 : Int32))), .val (.int (i1 &&& (255 : Int32))), .val (.int (1 : Int32)), .val (.int (1 : Int32)), .val (.int (1 : Int32)), .val (.ref dm), .val (.ref a225), .unset, .unset] [(.ref a236)]) _
        refine Endw.st (T' := T246) (g' := (mkF m 168 #[.val (.int i0), .val (.int i1), .val (.int i2), .val (.int (i0 &&& (255 : Int32))), .val (.int (i1 &&& (255 : Int32))), .val (.int (1 : Int32)), .val (.int (1 : Int32)), .val (.int (1 : Int32)), .val (.ref dm), .val (.ref a225), .unset, .unset] [(.int (32 : Int32)), (.int (10 : Int32)), (.ref a236), (.ref a236)])) (fun tt_ kk_ => XS.dup C246.here C246.hx rfl (C246.dec at_163) rfl rfl (XS.bipush C246.here C246.hx rfl (C246.dec at_164) (XS.bipush C246.here C246.hx rfl (C246.dec at_166) kk_))) ?_
        refine C246.castore V246 ⟨by decide, by decide⟩ 10 (by decide) (Nat.le_of_ble_eq_true rfl) (x' := (32 : Int32)) (by decide) zg236 (vs' := [(.int (i0 &&& (255 : Int32))), (.int (i1 &&& (255 : Int32))), (.int (32 : Int32)), (.int (105 : Int32)), (.int (115 : Int32)), (.int (32 : Int32)), (.int (110 : Int32)), (.int (117 : Int32)), (.int (108 : Int32)), (.int (108 : Int32)), (.int (32 : Int32)), (.int 0), (.int 0), (.int 0), (.int 0), (.int 0), (.int 0), (.int 0), (.int 0), (.int 0), (.int 0), (.int 0), (.int 0), (.int 0)]) rfl at_168 (pc' := 169) rfl ?_
        intro T247 h247 C247 K247 A247 V247
        replace K247 := Keep.trans K246 K247 (allS (Or.inl (by simp)) all0)
        replace A247 := CHr.trans A246 A247
        clear C246 V246 K246 A246 T246 h246
        show Endw p e below T247 (mkF m 169 #[.val (.int i0), .val (.int i1), .val (.int i2), .val (.int (i0 &&& (255 : Int32))), .val (.int (i1 &&& (255 : Int32))), .val (.int (1 : Int32)), .val (.int (1 : Int32)), .val (.int (1 : Int32)), .val (.ref dm), .val (.ref a225), .unset, .unset] [(.ref a236)]) _
        refine Endw.st (T' := T247) (g' := (mkF m 174 #[.val (.int i0), .val (.int i1), .val (.int i2), .val (.int (i0 &&& (255 : Int32))), .val (.int (i1 &&& (255 : Int32))), .val (.int (1 : Int32)), .val (.int (1 : Int32)), .val (.int (1 : Int32)), .val (.ref dm), .val (.ref a225), .unset, .unset] [(.int (100 : Int32)), (.int (11 : Int32)), (.ref a236), (.ref a236)])) (fun tt_ kk_ => XS.dup C247.here C247.hx rfl (C247.dec at_169) rfl rfl (XS.bipush C247.here C247.hx rfl (C247.dec at_170) (XS.bipush C247.here C247.hx rfl (C247.dec at_172) kk_))) ?_
        refine C247.castore V247 ⟨by decide, by decide⟩ 11 (by decide) (Nat.le_of_ble_eq_true rfl) (x' := (100 : Int32)) (by decide) zg236 (vs' := [(.int (i0 &&& (255 : Int32))), (.int (i1 &&& (255 : Int32))), (.int (32 : Int32)), (.int (105 : Int32)), (.int (115 : Int32)), (.int (32 : Int32)), (.int (110 : Int32)), (.int (117 : Int32)), (.int (108 : Int32)), (.int (108 : Int32)), (.int (32 : Int32)), (.int (100 : Int32)), (.int 0), (.int 0), (.int 0), (.int 0), (.int 0), (.int 0), (.int 0), (.int 0), (.int 0), (.int 0), (.int 0), (.int 0)]) rfl at_174 (pc' := 175) rfl ?_
        intro T248 h248 C248 K248 A248 V248
        replace K248 := Keep.trans K247 K248 (allS (Or.inl (by simp)) all0)
        replace A248 := CHr.trans A247 A248
        clear C247 V247 K247 A247 T247 h247
        show Endw p e below T248 (mkF m 175 #[.val (.int i0), .val (.int i1), .val (.int i2), .val (.int (i0 &&& (255 : Int32))), .val (.int (i1 &&& (255 : Int32))), .val (.int (1 : Int32)), .val (.int (1 : Int32)), .val (.int (1 : Int32)), .val (.ref dm), .val (.ref a225), .unset, .unset] [(.ref a236)]) _
        refine Endw.st (T' := T248) (g' := (mkF m 180 #[.val (.int i0), .val (.int i1), .val (.int i2), .val (.int (i0 &&& (255 : Int32))), .val (.int (i1 &&& (255 : Int32))), .val (.int (1 : Int32)), .val (.int (1 : Int32)), .val (.int (1 : Int32)), .val (.ref dm), .val (.ref a225), .unset, .unset] [(.int (101 : Int32)), (.int (12 : Int32)), (.ref a236), (.ref a236)])) (fun tt_ kk_ => XS.dup C248.here C248.hx rfl (C248.dec at_175) rfl rfl (XS.bipush C248.here C248.hx rfl (C248.dec at_176) (XS.bipush C248.here C248.hx rfl (C248.dec at_178) kk_))) ?_
        refine C248.castore V248 ⟨by decide, by decide⟩ 12 (by decide) (Nat.le_of_ble_eq_true rfl) (x' := (101 : Int32)) (by decide) zg236 (vs' := [(.int (i0 &&& (255 : Int32))), (.int (i1 &&& (255 : Int32))), (.int (32 : Int32)), (.int (105 : Int32)), (.int (115 : Int32)), (.int (32 : Int32)), (.int (110 : Int32)), (.int (117 : Int32)), (.int (108 : Int32)), (.int (108 : Int32)), (.int (32 : Int32)), (.int (100 : Int32)), (.int (101 : Int32)), (.int 0), (.int 0), (.int 0), (.int 0), (.int 0), (.int 0), (.int 0), (.int 0), (.int 0), (.int 0), (.int 0)]) rfl at_180 (pc' := 181) rfl ?_
        intro T249 h249 C249 K249 A249 V249
        replace K249 := Keep.trans K248 K249 (allS (Or.inl (by simp)) all0)
        replace A249 := CHr.trans A248 A249
        clear C248 V248 K248 A248 T248 h248
        show Endw p e below T249 (mkF m 181 #[.val (.int i0), .val (.int i1), .val (.int i2), .val (.int (i0 &&& (255 : Int32))), .val (.int (i1 &&& (255 : Int32))), .val (.int (1 : Int32)), .val (.int (1 : Int32)), .val (.int (1 : Int32)), .val (.ref dm), .val (.ref a225), .unset, .unset] [(.ref a236)]) _
        refine Endw.st (T' := T249) (g' := (mkF m 186 #[.val (.int i0), .val (.int i1), .val (.int i2), .val (.int (i0 &&& (255 : Int32))), .val (.int (i1 &&& (255 : Int32))), .val (.int (1 : Int32)), .val (.int (1 : Int32)), .val (.int (1 : Int32)), .val (.ref dm), .val (.ref a225), .unset, .unset] [(.int (115 : Int32)), (.int (13 : Int32)), (.ref a236), (.ref a236)])) (fun tt_ kk_ => XS.dup C249.here C249.hx rfl (C249.dec at_181) rfl rfl (XS.bipush C249.here C249.hx rfl (C249.dec at_182) (XS.bipush C249.here C249.hx rfl (C249.dec at_184) kk_))) ?_
        refine C249.castore V249 ⟨by decide, by decide⟩ 13 (by decide) (Nat.le_of_ble_eq_true rfl) (x' := (115 : Int32)) (by decide) zg236 (vs' := [(.int (i0 &&& (255 : Int32))), (.int (i1 &&& (255 : Int32))), (.int (32 : Int32)), (.int (105 : Int32)), (.int (115 : Int32)), (.int (32 : Int32)), (.int (110 : Int32)), (.int (117 : Int32)), (.int (108 : Int32)), (.int (108 : Int32)), (.int (32 : Int32)), (.int (100 : Int32)), (.int (101 : Int32)), (.int (115 : Int32)), (.int 0), (.int 0), (.int 0), (.int 0), (.int 0), (.int 0), (.int 0), (.int 0), (.int 0), (.int 0)]) rfl at_186 (pc' := 187) rfl ?_
        intro T250 h250 C250 K250 A250 V250
        replace K250 := Keep.trans K249 K250 (allS (Or.inl (by simp)) all0)
        replace A250 := CHr.trans A249 A250
        clear C249 V249 K249 A249 T249 h249
        show Endw p e below T250 (mkF m 187 #[.val (.int i0), .val (.int i1), .val (.int i2), .val (.int (i0 &&& (255 : Int32))), .val (.int (i1 &&& (255 : Int32))), .val (.int (1 : Int32)), .val (.int (1 : Int32)), .val (.int (1 : Int32)), .val (.ref dm), .val (.ref a225), .unset, .unset] [(.ref a236)]) _
        refine Endw.st (T' := T250) (g' := (mkF m 192 #[.val (.int i0), .val (.int i1), .val (.int i2), .val (.int (i0 &&& (255 : Int32))), .val (.int (i1 &&& (255 : Int32))), .val (.int (1 : Int32)), .val (.int (1 : Int32)), .val (.int (1 : Int32)), .val (.ref dm), .val (.ref a225), .unset, .unset] [(.int (99 : Int32)), (.int (14 : Int32)), (.ref a236), (.ref a236)])) (fun tt_ kk_ => XS.dup C250.here C250.hx rfl (C250.dec at_187) rfl rfl (XS.bipush C250.here C250.hx rfl (C250.dec at_188) (XS.bipush C250.here C250.hx rfl (C250.dec at_190) kk_))) ?_
        refine C250.castore V250 ⟨by decide, by decide⟩ 14 (by decide) (Nat.le_of_ble_eq_true rfl) (x' := (99 : Int32)) (by decide) zg236 (vs' := [(.int (i0 &&& (255 : Int32))), (.int (i1 &&& (255 : Int32))), (.int (32 : Int32)), (.int (105 : Int32)), (.int (115 : Int32)), (.int (32 : Int32)), (.int (110 : Int32)), (.int (117 : Int32)), (.int (108 : Int32)), (.int (108 : Int32)), (.int (32 : Int32)), (.int (100 : Int32)), (.int (101 : Int32)), (.int (115 : Int32)), (.int (99 : Int32)), (.int 0), (.int 0), (.int 0), (.int 0), (.int 0), (.int 0), (.int 0), (.int 0), (.int 0)]) rfl at_192 (pc' := 193) rfl ?_
        intro T251 h251 C251 K251 A251 V251
        replace K251 := Keep.trans K250 K251 (allS (Or.inl (by simp)) all0)
        replace A251 := CHr.trans A250 A251
        clear C250 V250 K250 A250 T250 h250
        show Endw p e below T251 (mkF m 193 #[.val (.int i0), .val (.int i1), .val (.int i2), .val (.int (i0 &&& (255 : Int32))), .val (.int (i1 &&& (255 : Int32))), .val (.int (1 : Int32)), .val (.int (1 : Int32)), .val (.int (1 : Int32)), .val (.ref dm), .val (.ref a225), .unset, .unset] [(.ref a236)]) _
        refine Endw.st (T' := T251) (g' := (mkF m 198 #[.val (.int i0), .val (.int i1), .val (.int i2), .val (.int (i0 &&& (255 : Int32))), .val (.int (i1 &&& (255 : Int32))), .val (.int (1 : Int32)), .val (.int (1 : Int32)), .val (.int (1 : Int32)), .val (.ref dm), .val (.ref a225), .unset, .unset] [(.int (44 : Int32)), (.int (15 : Int32)), (.ref a236), (.ref a236)])) (fun tt_ kk_ => XS.dup C251.here C251.hx rfl (C251.dec at_193) rfl rfl (XS.bipush C251.here C251.hx rfl (C251.dec at_194) (XS.bipush C251.here C251.hx rfl (C251.dec at_196) kk_))) ?_
        refine C251.castore V251 ⟨by decide, by decide⟩ 15 (by decide) (Nat.le_of_ble_eq_true rfl) (x' := (44 : Int32)) (by decide) zg236 (vs' := [(.int (i0 &&& (255 : Int32))), (.int (i1 &&& (255 : Int32))), (.int (32 : Int32)), (.int (105 : Int32)), (.int (115 : Int32)), (.int (32 : Int32)), (.int (110 : Int32)), (.int (117 : Int32)), (.int (108 : Int32)), (.int (108 : Int32)), (.int (32 : Int32)), (.int (100 : Int32)), (.int (101 : Int32)), (.int (115 : Int32)), (.int (99 : Int32)), (.int (44 : Int32)), (.int 0), (.int 0), (.int 0), (.int 0), (.int 0), (.int 0), (.int 0), (.int 0)]) rfl at_198 (pc' := 199) rfl ?_
        intro T252 h252 C252 K252 A252 V252
        replace K252 := Keep.trans K251 K252 (allS (Or.inl (by simp)) all0)
        replace A252 := CHr.trans A251 A252
        clear C251 V251 K251 A251 T251 h251
        show Endw p e below T252 (mkF m 199 #[.val (.int i0), .val (.int i1), .val (.int i2), .val (.int (i0 &&& (255 : Int32))), .val (.int (i1 &&& (255 : Int32))), .val (.int (1 : Int32)), .val (.int (1 : Int32)), .val (.int (1 : Int32)), .val (.ref dm), .val (.ref a225), .unset, .unset] [(.ref a236)]) _
        refine Endw.st (T' := T252) (g' := (mkF m 204 #[.val (.int i0), .val (.int i1), .val (.int i2), .val (.int (i0 &&& (255 : Int32))), .val (.int (i1 &&& (255 : Int32))), .val (.int (1 : Int32)), .val (.int (1 : Int32)), .val (.int (1 : Int32)), .val (.ref dm), .val (.ref a225), .unset, .unset] [(.int (32 : Int32)), (.int (16 : Int32)), (.ref a236), (.ref a236)])) (fun tt_ kk_ => XS.dup C252.here C252.hx rfl (C252.dec at_199) rfl rfl (XS.bipush C252.here C252.hx rfl (C252.dec at_200) (XS.bipush C252.here C252.hx rfl (C252.dec at_202) kk_))) ?_
        refine C252.castore V252 ⟨by decide, by decide⟩ 16 (by decide) (Nat.le_of_ble_eq_true rfl) (x' := (32 : Int32)) (by decide) zg236 (vs' := [(.int (i0 &&& (255 : Int32))), (.int (i1 &&& (255 : Int32))), (.int (32 : Int32)), (.int (105 : Int32)), (.int (115 : Int32)), (.int (32 : Int32)), (.int (110 : Int32)), (.int (117 : Int32)), (.int (108 : Int32)), (.int (108 : Int32)), (.int (32 : Int32)), (.int (100 : Int32)), (.int (101 : Int32)), (.int (115 : Int32)), (.int (99 : Int32)), (.int (44 : Int32)), (.int (32 : Int32)), (.int 0), (.int 0), (.int 0), (.int 0), (.int 0), (.int 0), (.int 0)]) rfl at_204 (pc' := 205) rfl ?_
        intro T253 h253 C253 K253 A253 V253
        replace K253 := Keep.trans K252 K253 (allS (Or.inl (by simp)) all0)
        replace A253 := CHr.trans A252 A253
        clear C252 V252 K252 A252 T252 h252
        show Endw p e below T253 (mkF m 205 #[.val (.int i0), .val (.int i1), .val (.int i2), .val (.int (i0 &&& (255 : Int32))), .val (.int (i1 &&& (255 : Int32))), .val (.int (1 : Int32)), .val (.int (1 : Int32)), .val (.int (1 : Int32)), .val (.ref dm), .val (.ref a225), .unset, .unset] [(.ref a236)]) _
        refine Endw.st (T' := T253) (g' := (mkF m 209 #[.val (.int i0), .val (.int i1), .val (.int i2), .val (.int (i0 &&& (255 : Int32))), .val (.int (i1 &&& (255 : Int32))), .val (.int (1 : Int32)), .val (.int (1 : Int32)), .val (.int (1 : Int32)), .val (.ref dm), .val (.ref a225), .unset, .unset] [(.int (i0 &&& (255 : Int32))), (.int (17 : Int32)), (.ref a236), (.ref a236)])) (fun tt_ kk_ => XS.dup C253.here C253.hx rfl (C253.dec at_205) rfl rfl (XS.bipush C253.here C253.hx rfl (C253.dec at_206) (XS.iloadN C253.here C253.hx rfl (C253.dec at_208) rfl kk_))) ?_
        refine C253.castore V253 ⟨by decide, by decide⟩ 17 (by decide) (Nat.le_of_ble_eq_true rfl) (x' := (i0 &&& (255 : Int32))) (i2c_mask _) zg236 (vs' := [(.int (i0 &&& (255 : Int32))), (.int (i1 &&& (255 : Int32))), (.int (32 : Int32)), (.int (105 : Int32)), (.int (115 : Int32)), (.int (32 : Int32)), (.int (110 : Int32)), (.int (117 : Int32)), (.int (108 : Int32)), (.int (108 : Int32)), (.int (32 : Int32)), (.int (100 : Int32)), (.int (101 : Int32)), (.int (115 : Int32)), (.int (99 : Int32)), (.int (44 : Int32)), (.int (32 : Int32)), (.int (i0 &&& (255 : Int32))), (.int 0), (.int 0), (.int 0), (.int 0), (.int 0), (.int 0)]) rfl at_209 (pc' := 210) rfl ?_
        intro T254 h254 C254 K254 A254 V254
        replace K254 := Keep.trans K253 K254 (allS (Or.inl (by simp)) all0)
        replace A254 := CHr.trans A253 A254
        clear C253 V253 K253 A253 T253 h253
        show Endw p e below T254 (mkF m 210 #[.val (.int i0), .val (.int i1), .val (.int i2), .val (.int (i0 &&& (255 : Int32))), .val (.int (i1 &&& (255 : Int32))), .val (.int (1 : Int32)), .val (.int (1 : Int32)), .val (.int (1 : Int32)), .val (.ref dm), .val (.ref a225), .unset, .unset] [(.ref a236)]) _
        refine Endw.st (T' := T254) (g' := (mkF m 215 #[.val (.int i0), .val (.int i1), .val (.int i2), .val (.int (i0 &&& (255 : Int32))), .val (.int (i1 &&& (255 : Int32))), .val (.int (1 : Int32)), .val (.int (1 : Int32)), .val (.int (1 : Int32)), .val (.ref dm), .val (.ref a225), .unset, .unset] [(.int (i1 &&& (255 : Int32))), (.int (18 : Int32)), (.ref a236), (.ref a236)])) (fun tt_ kk_ => XS.dup C254.here C254.hx rfl (C254.dec at_210) rfl rfl (XS.bipush C254.here C254.hx rfl (C254.dec at_211) (XS.iload C254.here C254.hx rfl (C254.dec at_213) rfl kk_))) ?_
        refine C254.castore V254 ⟨by decide, by decide⟩ 18 (by decide) (Nat.le_of_ble_eq_true rfl) (x' := (i1 &&& (255 : Int32))) (i2c_mask _) zg236 (vs' := [(.int (i0 &&& (255 : Int32))), (.int (i1 &&& (255 : Int32))), (.int (32 : Int32)), (.int (105 : Int32)), (.int (115 : Int32)), (.int (32 : Int32)), (.int (110 : Int32)), (.int (117 : Int32)), (.int (108 : Int32)), (.int (108 : Int32)), (.int (32 : Int32)), (.int (100 : Int32)), (.int (101 : Int32)), (.int (115 : Int32)), (.int (99 : Int32)), (.int (44 : Int32)), (.int (32 : Int32)), (.int (i0 &&& (255 : Int32))), (.int (i1 &&& (255 : Int32))), (.int 0), (.int 0), (.int 0), (.int 0), (.int 0)]) rfl at_215 (pc' := 216) rfl ?_
        intro T255 h255 C255 K255 A255 V255
        replace K255 := Keep.trans K254 K255 (allS (Or.inl (by simp)) all0)
        replace A255 := CHr.trans A254 A255
        clear C254 V254 K254 A254 T254 h254
        show Endw p e below T255 (mkF m 216 #[.val (.int i0), .val (.int i1), .val (.int i2), .val (.int (i0 &&& (255 : Int32))), .val (.int (i1 &&& (255 : Int32))), .val (.int (1 : Int32)), .val (.int (1 : Int32)), .val (.int (1 : Int32)), .val (.ref dm), .val (.ref a225), .unset, .unset] [(.ref a236)]) _
        refine Endw.st (T' := T255) (g' := (mkF m 221 #[.val (.int i0), .val (.int i1), .val (.int i2), .val (.int (i0 &&& (255 : Int32))), .val (.int (i1 &&& (255 : Int32))), .val (.int (1 : Int32)), .val (.int (1 : Int32)), .val (.int (1 : Int32)), .val (.ref dm), .val (.ref a225), .unset, .unset] [(.int (32 : Int32)), (.int (19 : Int32)), (.ref a236), (.ref a236)])) (fun tt_ kk_ => XS.dup C255.here C255.hx rfl (C255.dec at_216) rfl rfl (XS.bipush C255.here C255.hx rfl (C255.dec at_217) (XS.bipush C255.here C255.hx rfl (C255.dec at_219) kk_))) ?_
        refine C255.castore V255 ⟨by decide, by decide⟩ 19 (by decide) (Nat.le_of_ble_eq_true rfl) (x' := (32 : Int32)) (by decide) zg236 (vs' := [(.int (i0 &&& (255 : Int32))), (.int (i1 &&& (255 : Int32))), (.int (32 : Int32)), (.int (105 : Int32)), (.int (115 : Int32)), (.int (32 : Int32)), (.int (110 : Int32)), (.int (117 : Int32)), (.int (108 : Int32)), (.int (108 : Int32)), (.int (32 : Int32)), (.int (100 : Int32)), (.int (101 : Int32)), (.int (115 : Int32)), (.int (99 : Int32)), (.int (44 : Int32)), (.int (32 : Int32)), (.int (i0 &&& (255 : Int32))), (.int (i1 &&& (255 : Int32))), (.int (32 : Int32)), (.int 0), (.int 0), (.int 0), (.int 0)]) rfl at_221 (pc' := 222) rfl ?_
        intro T256 h256 C256 K256 A256 V256
        replace K256 := Keep.trans K255 K256 (allS (Or.inl (by simp)) all0)
        replace A256 := CHr.trans A255 A256
        clear C255 V255 K255 A255 T255 h255
        show Endw p e below T256 (mkF m 222 #[.val (.int i0), .val (.int i1), .val (.int i2), .val (.int (i0 &&& (255 : Int32))), .val (.int (i1 &&& (255 : Int32))), .val (.int (1 : Int32)), .val (.int (1 : Int32)), .val (.int (1 : Int32)), .val (.ref dm), .val (.ref a225), .unset, .unset] [(.ref a236)]) _
        refine Endw.st (T' := T256) (g' := (mkF m 227 #[.val (.int i0), .val (.int i1), .val (.int i2), .val (.int (i0 &&& (255 : Int32))), .val (.int (i1 &&& (255 : Int32))), .val (.int (1 : Int32)), .val (.int (1 : Int32)), .val (.int (1 : Int32)), .val (.ref dm), .val (.ref a225), .unset, .unset] [(.int (100 : Int32)), (.int (20 : Int32)), (.ref a236), (.ref a236)])) (fun tt_ kk_ => XS.dup C256.here C256.hx rfl (C256.dec at_222) rfl rfl (XS.bipush C256.here C256.hx rfl (C256.dec at_223) (XS.bipush C256.here C256.hx rfl (C256.dec at_225) kk_))) ?_
        refine C256.castore V256 ⟨by decide, by decide⟩ 20 (by decide) (Nat.le_of_ble_eq_true rfl) (x' := (100 : Int32)) (by decide) zg236 (vs' := [(.int (i0 &&& (255 : Int32))), (.int (i1 &&& (255 : Int32))), (.int (32 : Int32)), (.int (105 : Int32)), (.int (115 : Int32)), (.int (32 : Int32)), (.int (110 : Int32)), (.int (117 : Int32)), (.int (108 : Int32)), (.int (108 : Int32)), (.int (32 : Int32)), (.int (100 : Int32)), (.int (101 : Int32)), (.int (115 : Int32)), (.int (99 : Int32)), (.int (44 : Int32)), (.int (32 : Int32)), (.int (i0 &&& (255 : Int32))), (.int (i1 &&& (255 : Int32))), (.int (32 : Int32)), (.int (100 : Int32)), (.int 0), (.int 0), (.int 0)]) rfl at_227 (pc' := 228) rfl ?_
        intro T257 h257 C257 K257 A257 V257
        replace K257 := Keep.trans K256 K257 (allS (Or.inl (by simp)) all0)
        replace A257 := CHr.trans A256 A257
        clear C256 V256 K256 A256 T256 h256
        show Endw p e below T257 (mkF m 228 #[.val (.int i0), .val (.int i1), .val (.int i2), .val (.int (i0 &&& (255 : Int32))), .val (.int (i1 &&& (255 : Int32))), .val (.int (1 : Int32)), .val (.int (1 : Int32)), .val (.int (1 : Int32)), .val (.ref dm), .val (.ref a225), .unset, .unset] [(.ref a236)]) _
        refine Endw.st (T' := T257) (g' := (mkF m 233 #[.val (.int i0), .val (.int i1), .val (.int i2), .val (.int (i0 &&& (255 : Int32))), .val (.int (i1 &&& (255 : Int32))), .val (.int (1 : Int32)), .val (.int (1 : Int32)), .val (.int (1 : Int32)), .val (.ref dm), .val (.ref a225), .unset, .unset] [(.int (101 : Int32)), (.int (21 : Int32)), (.ref a236), (.ref a236)])) (fun tt_ kk_ => XS.dup C257.here C257.hx rfl (C257.dec at_228) rfl rfl (XS.bipush C257.here C257.hx rfl (C257.dec at_229) (XS.bipush C257.here C257.hx rfl (C257.dec at_231) kk_))) ?_
        refine C257.castore V257 ⟨by decide, by decide⟩ 21 (by decide) (Nat.le_of_ble_eq_true rfl) (x' := (101 : Int32)) (by decide) zg236 (vs' := [(.int (i0 &&& (255 : Int32))), (.int (i1 &&& (255 : Int32))), (.int (32 : Int32)), (.int (105 : Int32)), (.int (115 : Int32)), (.int (32 : Int32)), (.int (110 : Int32)), (.int (117 : Int32)), (.int (108 : Int32)), (.int (108 : Int32)), (.int (32 : Int32)), (.int (100 : Int32)), (.int (101 : Int32)), (.int (115 : Int32)), (.int (99 : Int32)), (.int (44 : Int32)), (.int (32 : Int32)), (.int (i0 &&& (255 : Int32))), (.int (i1 &&& (255 : Int32))), (.int (32 : Int32)), (.int (100 : Int32)), (.int (101 : Int32)), (.int 0), (.int 0)]) rfl at_233 (pc' := 234) rfl ?_
        intro T258 h258 C258 K258 A258 V258
        replace K258 := Keep.trans K257 K258 (allS (Or.inl (by simp)) all0)
        replace A258 := CHr.trans A257 A258
        clear C257 V257 K257 A257 T257 h257
        show Endw p e below T258 (mkF m 234 #[.val (.int i0), .val (.int i1), .val (.int i2), .val (.int (i0 &&& (255 : Int32))), .val (.int (i1 &&& (255 : Int32))), .val (.int (1 : Int32)), .val (.int (1 : Int32)), .val (.int (1 : Int32)), .val (.ref dm), .val (.ref a225), .unset, .unset] [(.ref a236)]) _
        refine Endw.st (T' := T258) (g' := (mkF m 239 #[.val (.int i0), .val (.int i1), .val (.int i2), .val (.int (i0 &&& (255 : Int32))), .val (.int (i1 &&& (255 : Int32))), .val (.int (1 : Int32)), .val (.int (1 : Int32)), .val (.int (1 : Int32)), .val (.ref dm), .val (.ref a225), .unset, .unset] [(.int (115 : Int32)), (.int (22 : Int32)), (.ref a236), (.ref a236)])) (fun tt_ kk_ => XS.dup C258.here C258.hx rfl (C258.dec at_234) rfl rfl (XS.bipush C258.here C258.hx rfl (C258.dec at_235) (XS.bipush C258.here C258.hx rfl (C258.dec at_237) kk_))) ?_
        refine C258.castore V258 ⟨by decide, by decide⟩ 22 (by decide) (Nat.le_of_ble_eq_true rfl) (x' := (115 : Int32)) (by decide) zg236 (vs' := [(.int (i0 &&& (255 : Int32))), (.int (i1 &&& (255 : Int32))), (.int (32 : Int32)), (.int (105 : Int32)), (.int (115 : Int32)), (.int (32 : Int32)), (.int (110 : Int32)), (.int (117 : Int32)), (.int (108 : Int32)), (.int (108 : Int32)), (.int (32 : Int32)), (.int (100 : Int32)), (.int (101 : Int32)), (.int (115 : Int32)), (.int (99 : Int32)), (.int (44 : Int32)), (.int (32 : Int32)), (.int (i0 &&& (255 : Int32))), (.int (i1 &&& (255 : Int32))), (.int (32 : Int32)), (.int (100 : Int32)), (.int (101 : Int32)), (.int (115 : Int32)), (.int 0)]) rfl at_239 (pc' := 240) rfl ?_
        intro T259 h259 C259 K259 A259 V259
        replace K259 := Keep.trans K258 K259 (allS (Or.inl (by simp)) all0)
        replace A259 := CHr.trans A258 A259
        clear C258 V258 K258 A258 T258 h258
        show Endw p e below T259 (mkF m 240 #[.val (.int i0), .val (.int i1), .val (.int i2), .val (.int (i0 &&& (255 : Int32))), .val (.int (i1 &&& (255 : Int32))), .val (.int (1 : Int32)), .val (.int (1 : Int32)), .val (.int (1 : Int32)), .val (.ref dm), .val (.ref a225), .unset, .unset] [(.ref a236)]) _
        refine Endw.st (T' := T259) (g' := (mkF m 245 #[.val (.int i0), .val (.int i1), .val (.int i2), .val (.int (i0 &&& (255 : Int32))), .val (.int (i1 &&& (255 : Int32))), .val (.int (1 : Int32)), .val (.int (1 : Int32)), .val (.int (1 : Int32)), .val (.ref dm), .val (.ref a225), .unset, .unset] [(.int (99 : Int32)), (.int (23 : Int32)), (.ref a236), (.ref a236)])) (fun tt_ kk_ => XS.dup C259.here C259.hx rfl (C259.dec at_240) rfl rfl (XS.bipush C259.here C259.hx rfl (C259.dec at_241) (XS.bipush C259.here C259.hx rfl (C259.dec at_243) kk_))) ?_
        refine C259.castore V259 ⟨by decide, by decide⟩ 23 (by decide) (Nat.le_of_ble_eq_true rfl) (x' := (99 : Int32)) (by decide) zg236 (vs' := [(.int (i0 &&& (255 : Int32))), (.int (i1 &&& (255 : Int32))), (.int (32 : Int32)), (.int (105 : Int32)), (.int (115 : Int32)), (.int (32 : Int32)), (.int (110 : Int32)), (.int (117 : Int32)), (.int (108 : Int32)), (.int (108 : Int32)), (.int (32 : Int32)), (.int (100 : Int32)), (.int (101 : Int32)), (.int (115 : Int32)), (.int (99 : Int32)), (.int (44 : Int32)), (.int (32 : Int32)), (.int (i0 &&& (255 : Int32))), (.int (i1 &&& (255 : Int32))), (.int (32 : Int32)), (.int (100 : Int32)), (.int (101 : Int32)), (.int (115 : Int32)), (.int (99 : Int32))]) rfl at_245 (pc' := 246) rfl ?_
        intro T260 h260 C260 K260 A260 V260
        replace K260 := Keep.trans K259 K260 (allS (Or.inl (by simp)) all0)
        replace A260 := CHr.trans A259 A260
        clear C259 V259 K259 A259 T259 h259
        show Endw p e below T260 (mkF m 246 #[.val (.int i0), .val (.int i1), .val (.int i2), .val (.int (i0 &&& (255 : Int32))), .val (.int (i1 &&& (255 : Int32))), .val (.int (1 : Int32)), .val (.int (1 : Int32)), .val (.int (1 : Int32)), .val (.ref dm), .val (.ref a225), .unset, .unset] [(.ref a236)]) _
        refine Endw.st (T' := T260) (g' := (mkF m 399 #[.val (.int i0), .val (.int i1), .val (.int i2), .val (.int (i0 &&& (255 : Int32))), .val (.int (i1 &&& (255 : Int32))), .val (.int (1 : Int32)), .val (.int (1 : Int32)), .val (.int (1 : Int32)), .val (.ref dm), .val (.ref a225), .val (.ref a236), .unset] [])) (fun tt_ kk_ => XS.astore C260.here C260.hx rfl (C260.dec at_246) rfl rfl (l' := #[.val (.int i0), .val (.int i1), .val (.int i2), .val (.int (i0 &&& (255 : Int32))), .val (.int (i1 &&& (255 : Int32))), .val (.int (1 : Int32)), .val (.int (1 : Int32)), .val (.int (1 : Int32)), .val (.ref dm), .val (.ref a225), .val (.ref a236), .unset]) rfl (XS.goto C260.here C260.hx rfl (pc0 := 248) rfl (C260.dec at_248) (by decide) rfl kk_)) ?_
        refine C260.new (W3 hw) (W4 hw) (W5 hw) at_399 (pc' := 402) rfl (by decide) (by decide) ?_
        intro T261 h261 a261 C261 K261 A261 ge261 zg261 E261 D261 S261
        show Endw p e below T261 (mkF m 402 #[.val (.int i0), .val (.int i1), .val (.int i2), .val (.int (i0 &&& (255 : Int32))), .val (.int (i1 &&& (255 : Int32))), .val (.int (1 : Int32)), .val (.int (1 : Int32)), .val (.int (1 : Int32)), .val (.ref dm), .val (.ref a225), .val (.ref a236), .unset] [(.ref a261)]) _
        refine Endw.st (T' := T261) (g' := (mkF m 405 #[.val (.int i0), .val (.int i1), .val (.int i2), .val (.int (i0 &&& (255 : Int32))), .val (.int (i1 &&& (255 : Int32))), .val (.int (1 : Int32)), .val (.int (1 : Int32)), .val (.int (1 : Int32)), .val (.ref dm), .val (.ref a225), .val (.ref a236), .unset] [(.ref a236), (.ref a261), (.ref a261)])) (fun tt_ kk_ => XS.dup C261.here C261.hx rfl (C261.dec at_402) rfl rfl (XS.aload C261.here C261.hx rfl (C261.dec at_403) rfl rfl kk_)) ?_
        have f262 := (V260.keep K261 nin0)
        have f263 : Fld Z h261 a261 "java/lang/String" "value" "[B" .null := D261 (Or.inr (W32 hw)) (ty := (.array .byte)) (by decide)
        have f264 : Fld Z h261 a261 "java/lang/String" "coder" "B" (.int (0 : Int32)) := D261 (Or.inr (W30 hw)) (ty := .byte) (by decide)
        have hp265 : ∀ c ∈ [(i0 &&& (255 : Int32)), (i1 &&& (255 : Int32)), (32 : Int32), (105 : Int32), (115 : Int32), (32 : Int32), (110 : Int32), (117 : Int32), (108 : Int32), (108 : Int32), (32 : Int32), (100 : Int32), (101 : Int32), (115 : Int32), (99 : Int32), (44 : Int32), (32 : Int32), (i0 &&& (255 : Int32)), (i1 &&& (255 : Int32)), (32 : Int32), (100 : Int32), (101 : Int32), (115 : Int32), (99 : Int32)], B8 c := (own_cS (own_mask255 _) (own_cS (own_mask255 _) (own_cS ⟨by decide, by decide⟩ (own_cS ⟨by decide, by decide⟩ (own_cS ⟨by decide, by decide⟩ (own_cS ⟨by decide, by decide⟩ (own_cS ⟨by decide, by decide⟩ (own_cS ⟨by decide, by decide⟩ (own_cS ⟨by decide, by decide⟩ (own_cS ⟨by decide, by decide⟩ (own_cS ⟨by decide, by decide⟩ (own_cS ⟨by decide, by decide⟩ (own_cS ⟨by decide, by decide⟩ (own_cS ⟨by decide, by decide⟩ (own_cS ⟨by decide, by decide⟩ (own_cS ⟨by decide, by decide⟩ (own_cS ⟨by decide, by decide⟩ (own_cS (own_mask255 _) (own_cS (own_mask255 _) (own_cS ⟨by decide, by decide⟩ (own_cS ⟨by decide, by decide⟩ (own_cS ⟨by decide, by decide⟩ (own_cS ⟨by decide, by decide⟩ (own_cS ⟨by decide, by decide⟩ own_c0))))))))))))))))))))))))
        refine C261.specialF (y := (⟨"java/lang/String", "<init>", "([C)V"⟩ : MethodName)) (ws := [a261]) (W := 1) (a := a261) (argsL := [.ref a236]) (rest := [(.ref a261)]) (ck := 1) (cn := 24) rfl (W7 hw) (W8 hw) (W9 hw) (by decide) (StrChars.Road.backV (W := 1) (n := 24) (n0 := Z.heap.size) (cs := [(i0 &&& (255 : Int32)), (i1 &&& (255 : Int32)), (32 : Int32), (105 : Int32), (115 : Int32), (32 : Int32), (110 : Int32), (117 : Int32), (108 : Int32), (108 : Int32), (32 : Int32), (100 : Int32), (101 : Int32), (115 : Int32), (99 : Int32), (44 : Int32), (32 : Int32), (i0 &&& (255 : Int32)), (i1 &&& (255 : Int32)), (32 : Int32), (100 : Int32), (101 : Int32), (115 : Int32), (99 : Int32)]) (bs := [(i0 &&& (255 : Int32)).toInt8.toInt32, (i1 &&& (255 : Int32)).toInt8.toInt32, (32 : Int32).toInt8.toInt32, (105 : Int32).toInt8.toInt32, (115 : Int32).toInt8.toInt32, (32 : Int32).toInt8.toInt32, (110 : Int32).toInt8.toInt32, (117 : Int32).toInt8.toInt32, (108 : Int32).toInt8.toInt32, (108 : Int32).toInt8.toInt32, (32 : Int32).toInt8.toInt32, (100 : Int32).toInt8.toInt32, (101 : Int32).toInt8.toInt32, (115 : Int32).toInt8.toInt32, (99 : Int32).toInt8.toInt32, (44 : Int32).toInt8.toInt32, (32 : Int32).toInt8.toInt32, (i0 &&& (255 : Int32)).toInt8.toInt32, (i1 &&& (255 : Int32)).toInt8.toInt32, (32 : Int32).toInt8.toInt32, (100 : Int32).toInt8.toInt32, (101 : Int32).toInt8.toInt32, (115 : Int32).toInt8.toInt32, (99 : Int32).toInt8.toInt32]) C261.warm G.w_backV (kI := 4) (W4 hw) zg261 C261.le E261 f263 f264 f262 (Sc.ext C261.old) hzc rfl rfl (by decide) (by decide) hp265 rfl (by decide) (by decide)) (fun _ _ _ q => ⟨q.2.1, q.2.2.1⟩) (allS zg261 all0) (sfS S261 sf0) rfl (by decide) (by decide) (lenOf pd_285b432956 rfl) rfl (Nat.le_of_ble_eq_true rfl) rfl at_405 (pc' := 408) rfl ?_
        intro T265 h265 v265 C265 K265 A265 q265
        obtain ⟨_, rfl, -, -, E265, F265, t265, kb265, zg265, ge265, nt265, f265, V265⟩ := q265
        have Z265 : Str Z h265 a261 t265 kb265 [(i0 &&& (255 : Int32)), (i1 &&& (255 : Int32)), (32 : Int32), (105 : Int32), (115 : Int32), (32 : Int32), (110 : Int32), (117 : Int32), (108 : Int32), (108 : Int32), (32 : Int32), (100 : Int32), (101 : Int32), (115 : Int32), (99 : Int32), (44 : Int32), (32 : Int32), (i0 &&& (255 : Int32)), (i1 &&& (255 : Int32)), (32 : Int32), (100 : Int32), (101 : Int32), (115 : Int32), (99 : Int32)] := ⟨E265, F265, f265, V265, hp265, Nat.le_of_ble_eq_true rfl⟩
        show Endw p e below T265 (mkF m 408 #[.val (.int i0), .val (.int i1), .val (.int i2), .val (.int (i0 &&& (255 : Int32))), .val (.int (i1 &&& (255 : Int32))), .val (.int (1 : Int32)), .val (.int (1 : Int32)), .val (.int (1 : Int32)), .val (.ref dm), .val (.ref a225), .val (.ref a236), .unset] [(.ref a261)]) _
        refine Endw.st (T' := T265) (g' := (mkF m 420 #[.val (.int i0), .val (.int i1), .val (.int i2), .val (.int (i0 &&& (255 : Int32))), .val (.int (i1 &&& (255 : Int32))), .val (.int (1 : Int32)), .val (.int (1 : Int32)), .val (.int (1 : Int32)), .val (.ref dm), .val (.ref a225), .val (.ref a236), .val (.ref a261)] [(.int (1 : Int32)), (.int (1 : Int32)), (.ref a225), (.ref dm), (.ref a261)])) (fun tt_ kk_ => XS.astore C265.here C265.hx rfl (C265.dec at_408) rfl rfl (l' := #[.val (.int i0), .val (.int i1), .val (.int i2), .val (.int (i0 &&& (255 : Int32))), .val (.int (i1 &&& (255 : Int32))), .val (.int (1 : Int32)), .val (.int (1 : Int32)), .val (.int (1 : Int32)), .val (.ref dm), .val (.ref a225), .val (.ref a236), .val (.ref a261)]) rfl (XS.aload C265.here C265.hx rfl (C265.dec at_410) rfl rfl (XS.aload C265.here C265.hx rfl (C265.dec at_412) rfl rfl (XS.aload C265.here C265.hx rfl (C265.dec at_414) rfl rfl (XS.iload C265.here C265.hx rfl (C265.dec at_416) rfl (XS.iload C265.here C265.hx rfl (C265.dec at_418) rfl kk_)))))) ?_
        have f266 := (((((((((Fm.ext O).keep K225 nin0).keep K226 nin0).keep K228 (ninS (Nat.ne_of_lt (Nat.lt_of_lt_of_le (Nat.lt_of_lt_of_le (Em.ext O).lt K225.1) ge226)) nin0)).keep K234 (ninS (Nat.ne_of_lt (Nat.lt_of_lt_of_le (Em.ext O).lt ge225)) nin0)).keep K236 nin0).keep K260 (ninS (Nat.ne_of_lt (Nat.lt_of_lt_of_le (Nat.lt_of_lt_of_le (Em.ext O).lt (Nat.le_trans K225.1 (Nat.le_trans K226.1 (Nat.le_trans K228.1 K234.1)))) ge236)) nin0)).keep K261 nin0).keep K265 (ninS (Nat.ne_of_lt (Nat.lt_of_lt_of_le (Nat.lt_of_lt_of_le (Em.ext O).lt (Nat.le_trans K225.1 (Nat.le_trans K226.1 (Nat.le_trans K228.1 (Nat.le_trans K234.1 (Nat.le_trans K236.1 K260.1)))))) ge261)) nin0))
        have f267 := ((((Z234.keep K236 nin0 nin0).keep K260 (ninS (Nat.ne_of_lt (Nat.lt_of_lt_of_le (Nat.lt_of_lt_of_le E225.lt (Nat.le_trans K226.1 (Nat.le_trans K228.1 K234.1))) ge236)) nin0) (ninS (Nat.ne_of_lt (Nat.lt_of_lt_of_le V234.lt ge236)) nin0)).keep K261 nin0 nin0).keep K265 (ninS (Nat.ne_of_lt (Nat.lt_of_lt_of_le (Nat.lt_of_lt_of_le E225.lt (Nat.le_trans K226.1 (Nat.le_trans K228.1 (Nat.le_trans K234.1 (Nat.le_trans K236.1 K260.1))))) ge261)) nin0) (ninS (Nat.ne_of_lt (Nat.lt_of_lt_of_le (Nat.lt_of_lt_of_le V234.lt (Nat.le_trans K236.1 K260.1)) ge261)) nin0))
        have f269 := (((((((((Em.ext O).keep K225).keep K226).keep K228).keep K234).keep K236).keep K260).keep K261).keep K265)
        refine C265.virtual (y := (⟨"com/example/frugal_orm/frugalorm/Dialect", "orderItems", "(Ljava/lang/String;ZZ)Ljava/lang/String;"⟩ : MethodName)) (z := (⟨"com/example/frugal_orm/frugalorm/Dialect", "orderItems", "(Ljava/lang/String;ZZ)Ljava/lang/String;"⟩ : MethodName)) (W := 1) (a := dm) (argsL := [(.ref a225), (.int (1 : Int32)), (.int (1 : Int32))]) (rest := [(.ref a261)]) (W33 hw) (W34 hw) (fun _ q => notFace_of_selects (args := #[]) (mvT q (W36 hw))) (W36 hw) (W35 hw) (W37 hw) (W1 hw) (by decide) (rm_oi111 l Z a0 EL G dm a225 t234 kb234 (i0 &&& (255 : Int32)) (i1 &&& (255 : Int32)) h265 C265.old f266 f267) (fun z => nomatch z) rfl f269 all0 (by decide) (by decide) (by decide) (by decide) (lenOf pd_19 rfl) rfl (Nat.le_of_ble_eq_true rfl) rfl at_420 (pc' := 423) rfl ?_
        intro vm268 T268 h268 v268 C268 A268 M268 q268
        obtain ⟨a268, t268, kb268, rfl, K268, ge268, gt268, zg268, zt268, Z268⟩ := q268
        show Endw p e below T268 (mkF m 423 #[.val (.int i0), .val (.int i1), .val (.int i2), .val (.int (i0 &&& (255 : Int32))), .val (.int (i1 &&& (255 : Int32))), .val (.int (1 : Int32)), .val (.int (1 : Int32)), .val (.int (1 : Int32)), .val (.ref dm), .val (.ref a225), .val (.ref a236), .val (.ref a261)] [(.ref a268), (.ref a261)]) _
        have f270 := (Z265.keep K268 nin0 nin0)
        have f272 := (E265.keep K268)
        refine C268.virtualF (y := (⟨"java/lang/String", "equals", "(Ljava/lang/Object;)Z"⟩ : MethodName)) (z := (⟨"java/lang/String", "equals", "(Ljava/lang/Object;)Z"⟩ : MethodName)) (ws := []) (W := 0) (a := a261) (argsL := [.ref a268]) (rest := []) (ck := 0) (cn := 0) (Qf := fun v h' L => ((v = some (.int 1) ∧ [(i0 &&& (255 : Int32)), (i1 &&& (255 : Int32)), (32 : Int32), (105 : Int32), (115 : Int32), (32 : Int32), (110 : Int32), (117 : Int32), (108 : Int32), (108 : Int32), (32 : Int32), (100 : Int32), (101 : Int32), (115 : Int32), (99 : Int32), (44 : Int32), (32 : Int32), (i0 &&& (255 : Int32)), (i1 &&& (255 : Int32)), (32 : Int32), (100 : Int32), (101 : Int32), (115 : Int32), (99 : Int32)] = (((((([] ++ [(i0 &&& (255 : Int32)), (i1 &&& (255 : Int32))]) ++ [(32 : Int32), (105 : Int32), (115 : Int32), (32 : Int32), (110 : Int32), (117 : Int32), (108 : Int32), (108 : Int32)]) ++ [(32 : Int32), (100 : Int32), (101 : Int32), (115 : Int32), (99 : Int32)]) ++ [(44 : Int32), (32 : Int32)]) ++ [(i0 &&& (255 : Int32)), (i1 &&& (255 : Int32))]) ++ [(32 : Int32), (100 : Int32), (101 : Int32), (115 : Int32), (99 : Int32)])) ∨ (v = some (.int 0) ∧ ¬ [(i0 &&& (255 : Int32)), (i1 &&& (255 : Int32)), (32 : Int32), (105 : Int32), (115 : Int32), (32 : Int32), (110 : Int32), (117 : Int32), (108 : Int32), (108 : Int32), (32 : Int32), (100 : Int32), (101 : Int32), (115 : Int32), (99 : Int32), (44 : Int32), (32 : Int32), (i0 &&& (255 : Int32)), (i1 &&& (255 : Int32)), (32 : Int32), (100 : Int32), (101 : Int32), (115 : Int32), (99 : Int32)] = (((((([] ++ [(i0 &&& (255 : Int32)), (i1 &&& (255 : Int32))]) ++ [(32 : Int32), (105 : Int32), (115 : Int32), (32 : Int32), (110 : Int32), (117 : Int32), (108 : Int32), (108 : Int32)]) ++ [(32 : Int32), (100 : Int32), (101 : Int32), (115 : Int32), (99 : Int32)]) ++ [(44 : Int32), (32 : Int32)]) ++ [(i0 &&& (255 : Int32)), (i1 &&& (255 : Int32))]) ++ [(32 : Int32), (100 : Int32), (101 : Int32), (115 : Int32), (99 : Int32)]))) ∧ L = [] ∧ h' = h268) (W151 hw) (W152 hw) (fun _ q => notFace_of_selects (args := #[]) (mvT q (W154 hw))) (W154 hw) (W153 hw) (by decide) (StrChars.Road.eqW (W := 0) (cs := [(i0 &&& (255 : Int32)), (i1 &&& (255 : Int32)), (32 : Int32), (105 : Int32), (115 : Int32), (32 : Int32), (110 : Int32), (117 : Int32), (108 : Int32), (108 : Int32), (32 : Int32), (100 : Int32), (101 : Int32), (115 : Int32), (99 : Int32), (44 : Int32), (32 : Int32), (i0 &&& (255 : Int32)), (i1 &&& (255 : Int32)), (32 : Int32), (100 : Int32), (101 : Int32), (115 : Int32), (99 : Int32)]) (ds := (((((([] ++ [(i0 &&& (255 : Int32)), (i1 &&& (255 : Int32))]) ++ [(32 : Int32), (105 : Int32), (115 : Int32), (32 : Int32), (110 : Int32), (117 : Int32), (108 : Int32), (108 : Int32)]) ++ [(32 : Int32), (100 : Int32), (101 : Int32), (115 : Int32), (99 : Int32)]) ++ [(44 : Int32), (32 : Int32)]) ++ [(i0 &&& (255 : Int32)), (i1 &&& (255 : Int32))]) ++ [(32 : Int32), (100 : Int32), (101 : Int32), (115 : Int32), (99 : Int32)])) C268.warm G.w_eqW (kI := 4) (W4 hw) f270.1 f270.2.2.1 f270.2.1 f270.2.2.2.1 (StrChars.Road.codOf rfl (fun c q => (f270.2.2.2.2.1 c q).2)) (fun c q => own_b16 (f270.2.2.2.2.1 c q)) f270.2.2.2.2.2 Z268.1 Z268.2.2.1 Z268.2.1 Z268.2.2.2.1 (StrChars.Road.codOf rfl (fun c q => (Z268.2.2.2.2.1 c q).2)) (fun c q => own_b16 (Z268.2.2.2.2.1 c q)) Z268.2.2.2.2.2 (Sc.ext C268.old) hzc (by decide) (by decide)) (fun _ _ _ q => ⟨by rw [q.2.1]; exact Fr.nil _, by rw [q.2.2]; exact Keep.refl _ _⟩) all0 sf0 rfl f272 (by decide) (by decide) (lenOf pd_14 rfl) rfl (Nat.le_of_ble_eq_true rfl) rfl at_423 (pc' := 426) rfl ?_
        intro T271 h271 v271 C271 K271 A271 q271
        obtain ⟨_, q271, -, -⟩ := q271
        obtain rfl : v271 = some (.int 1) := q271.elim (fun z => z.1) (fun z => absurd (rfl) z.2)
        show Endw p e below T271 (mkF m 426 #[.val (.int i0), .val (.int i1), .val (.int i2), .val (.int (i0 &&& (255 : Int32))), .val (.int (i1 &&& (255 : Int32))), .val (.int (1 : Int32)), .val (.int (1 : Int32)), .val (.int (1 : Int32)), .val (.ref dm), .val (.ref a225), .val (.ref a236), .val (.ref a261)] [(.int (1 : Int32))]) _
        exact C271.retI (t := .boolean) rfl (by simp) rfl at_426 (by decide) (by decide) rfl
set_option maxRecDepth 65536 in
set_option maxHeartbeats 40000000 in
theorem comes_1 {Post : Tables → Env → Array Value → State → Outcome → State → Prop} (hpost : ∀ tb e args s v u, (limb_1_1.after args s (.returned v) u = true ∧ limb_1_2.after args s (.returned v) u = true ∧ True) → FramedW s (.returned v) u (Jvm.fieldLocs frame_1_writes args s ++ Jvm.arrayLocs frame_1_arrays args s ++ Jvm.staticLocs frame_1_statics s) 40 4480 → Post tb e args s (.returned v) u) :
    ArmFor flags0 classFile x code maxLocals ret World_1 tables_1 room_1 Calls_1 rest_1 Pre_1 Post := by
  intro l hfl _ _ p e ha hc hk s m args below hf hA hF happ hP
  obtain ⟨hcalls, hrest, hpre⟩ := hP
  obtain ⟨-, -, -, hnamed, -, -, -, hat⟩ := (Spec.applies_iff hf).mp happ
  obtain ⟨hg, hn⟩ := and_e (Cond.before_iff.mp (show (Jvm.Cond.and given_1 narrow_1).before args s = true from hpre))
  obtain ⟨h1, g0⟩ := and_e hg
  obtain ⟨a0, g1⟩ := and_e g0
  obtain ⟨a1, g2⟩ := and_e g1
  have a2 := g2
  obtain ⟨w0, w1, w2, rfl⟩ : ∃ w0 w1 w2 : Value, args = #[w0, w1, w2] := by
    have hs : args.size = 3 := by simpa [Cond.value, given_1] using h1
    obtain ⟨L⟩ := args
    match L, hs with
    | [w0, w1, w2], _ => exact ⟨w0, w1, w2, rfl⟩
  have hw := fun d (hd : d ∈ tables_1) => atoms_spec (ws := Jvm.Cond.code x code maxLocals ret :: tables_1) hat d (List.mem_cons_of_mem _ hd)
  obtain ⟨hsets, hown0⟩ := atoms_of _ (rest_1_c_eq ▸ (show rest_1_c.before _ s = true from hrest))
  obtain ⟨i0, e0⟩ := is_v a0
  obtain rfl : w0 = (.int i0) := Option.some.inj e0
  obtain ⟨i1, e1⟩ := is_v a1
  obtain rfl : w1 = (.int i1) := Option.some.inj e1
  obtain ⟨i2, e2⟩ := is_v a2
  obtain rfl : w2 = (.int i2) := Option.some.inj e2
  have n5 := not_v (Cond.before_iff.mp (hsets _ (List.mem_of_getElem? (i := 2) rfl)))
  obtain ⟨zc, ec⟩ := is_v (Cond.before_iff.mp (hsets _ (List.mem_of_getElem? (i := 1) rfl)))
  have Sc : Sta s s.heap "java/lang/String" "COMPACT_STRINGS" "Z" (.int zc) := Sta.start ec (Or.inl (hsets _ (List.mem_of_getElem? (i := 0) rfl)))
  have hzc : ¬ (zc = (0 : Int32)) := gotF (Cond.eq_ints ec (Term.int_eval (0))) n5
  obtain ⟨vf, ef, rf⟩ := isR_v (Cond.before_iff.mp (hsets _ (List.mem_of_getElem? (i := 8) rfl)))
  have Sf : Sta s s.heap "jdk/internal/util/Preconditions" "SIOOBE_FORMATTER" "Ljava/util/function/BiFunction;" vf := Sta.start ef (Or.inl (hsets _ (List.mem_of_getElem? (i := 7) rfl)))
  obtain ⟨nA, n1⟩ := and_e hn
  obtain ⟨nB, n2⟩ := and_e n1
  obtain ⟨nC, nD⟩ := and_e n2
  obtain ⟨xp, ep⟩ := exa_v nA
  obtain ⟨xm, em⟩ := exa_v nB
  have Sm : Sta s s.heap "com/example/frugal_orm/frugalorm/Dialect" "MARIADB" "Lcom/example/frugal_orm/frugalorm/Dialect;" (.ref xm) := Sta.start em (Or.inr ⟨(W1 hw), (W162 hw)⟩)
  have Em := Exa.start em nB
  have Fm := Fld.start (show s.fieldOf? xm "com/example/frugal_orm/frugalorm/Dialect" "nullsFirst" "Z" = some (.int 1) from (fld_at em).symm.trans (own_eqInt nC))
  have Sp : Sta s s.heap "com/example/frugal_orm/frugalorm/Dialect" "POSTGRESQL" "Lcom/example/frugal_orm/frugalorm/Dialect;" (.ref xp) := Sta.start ep (Or.inr ⟨(W1 hw), (W2 hw)⟩)
  have Ep := Exa.start ep nA
  have Fp := Fld.start (show s.fieldOf? xp "com/example/frugal_orm/frugalorm/Dialect" "nullsFirst" "Z" = some (.int 0) from (fld_at ep).symm.trans (own_eqInt nD))
  have hEW : EW s #[(.int i0), (.int i1), (.int i2)] consts_1 := (EW.cons (W38 hw) (by decide) (EW.cons (W184 hw) (by decide) (EW.cons (W165 hw) (by decide) (EW.cons (W166 hw) (by decide) EW.nil))))
  have hG : Glob s #[(.int i0), (.int i1), (.int i2)] consts_1 := ⟨hw, hEW, rfl, ⟨zc, Sc, hzc⟩, ⟨vf, Sf, rf⟩, ⟨xm, xp, ⟨Sm, Em, Fm⟩, ⟨Sp, Ep, Fp⟩⟩⟩
  have hCH : CHv s consts_1 s.vm s.heap := CHv.start hEW hcalls.1 (hsets _ (List.mem_of_getElem? (i := 2) rfl)) (W22 hw) (W4 hw)
  obtain ⟨n, o, h1, h2, h3, v, L, rfl, ⟨rfl, N, -⟩, ⟨-, hwm⟩, hq⟩ := rm_law l s _ consts_1 hG i0 i1 i2 s.heap ⟨Nat.le_refl _, fun _ _ q => q⟩ p e ha hc hk s m _ below hf ((Spec.applies_iff_loose hf).mp happ).1 ⟨rfl, State.Warmed39.refl s, rfl, hCH, all0⟩ trivial
  refine ⟨n, _, h1, h2, h3, hpost _ _ _ _ _ _ ⟨Cond.after_iff.mpr rfl, Cond.after_iff.mpr (eq_i res_at (Term.int_eval (1)) rfl), trivial⟩ ⟨hq.1, hq.2.1, hq.2.2.1, (hq.2.2.2.sift fun y hy => Or.inr (N y hy)).mono (by decide) (by decide)⟩⟩
theorem main_1_1 : Claimed_1_1 := comes_1 fun _ _ _ _ _ _ h hF => ⟨h.1, hF⟩
theorem main_1_2 : Claimed_1_2 := comes_1 fun _ _ _ _ _ _ h hF => ⟨h.2.1, hF⟩
end Jvm.Pilot.@@N@@
namespace Jvm.Pilot.@@N@@
open Jvm Jvm.ClassFile Sem Op Lib Jvm.Free Jvm.Stand Jvm.Pilot.@@N@@.Jvm.D
/-! MADE BY PROGRAM (witnessworld.py) out of the Statement's table words and the real class files: 27 classes; the members and pool entries that the words name. The judged class is class 1, her method 1. -/
namespace start1
open Jvm.ClassFile
def u (s : String) : CpInfo := .utf8 (stringToUtf16 s)
/-- a pool by its gaps: so many unusable entries, then the entry; so many at the end -/
def gap : Nat → List CpInfo → List CpInfo
  | 0, r => r
  | n + 1, r => .unusable :: gap n r
def poolList (es : List (Nat × CpInfo)) (last : Nat) : List CpInfo := es.foldr (fun e r => gap e.1 (e.2 :: r)) (gap last [])
def pool (es : List (Nat × CpInfo)) (last : Nat) : Array CpInfo := ⟨poolList es last⟩
def fileOf (pool : Array CpInfo) (this : Nat) (attrs : Array Attribute := #[]) (ms : Array MethodInfo := #[]) (fl : Nat := 33) (sup : Nat := 0) (ifs : Array Nat := #[]) (fds : Array FieldInfo := #[]) : ClassFile where
  minorVersion := 0
  majorVersion := 65
  constantPool := pool
  accessFlags := fl
  thisClass := this
  superClass := sup
  interfaces := ifs
  fields := fds
  methods := ms
  attributes := attrs
def plain (name : String) (sup : Option ClassId) : Class where
  name := name
  kind := .ordinary
  loader := none
  accessFlags := 33
  super := sup
  interfaces := #[]
  cf := none
  fields := #[]
  methods := #[]
  instanceTypes := #[]
  staticTypes := #[]
  resolved := #[]
  callSites := []
  init := .initialized
  statics := none
  mirror := none

def pool0 : Array CpInfo := pool [(5, u "<init>"), (0, u "()V"), (1, .class_ 10), (1, u "java/lang/Object")] 113

def k0c0 : Code := { maxStack := 0, maxLocals := 1, code := object_method_1_code, exceptionTable := #[], attributes := #[] }
def k0m0 : Method := { name := "<init>", desc := "()V", sig := { parameters := [], returnType := none }, accessFlags := 1, code := some k0c0 }
/-- java/lang/Object -/
def k0 : Class := { plain "java/lang/Object" none with
  accessFlags := 33
  interfaces := #[]
  cf := some (fileOf pool0 8 #[] #[{ accessFlags := 1, nameIndex := 5, descriptorIndex := 6, attributes := #[] }] 33 0 #[] #[])
  fields := #[]
  methods := #[k0m0]
  instanceTypes := #[]
  staticTypes := #[]
  resolved := Array.replicate 124 none
  statics := none }

def pool1 : Array CpInfo := pool [(2, .class_ 4), (1, u "java/lang/Object"), (0, u "<init>"), (0, u "()V"), (0, .fieldref 8 9), (0, .class_ 10), (0, .nameAndType 11 12), (0, u "com/example/frugal_orm/frugalorm/Dialect"), (0, u "MARIADB"), (0, u "Lcom/example/frugal_orm/frugalorm/Dialect;"), (0, .fieldref 8 14), (0, .nameAndType 15 12), (0, u "POSTGRESQL"), (0, .class_ 17), (0, u "java/lang/String"), (0, .methodref 16 19), (0, .nameAndType 5 20), (0, u "([C)V"), (0, .methodref 8 22), (0, .nameAndType 23 24), (0, u "orderItems"), (0, u "(Ljava/lang/String;ZZ)Ljava/lang/String;"), (0, .methodref 16 26), (0, .nameAndType 27 28), (0, u "equals"), (0, u "(Ljava/lang/Object;)Z"), (0, .class_ 30), (0, u "com/example/frugal_orm/frugalorm/DialectOrderItemsPinLaw"), (2, u "law"), (0, u "(III)Z")] 5

def k1m0 : Method := { name := "<init>", desc := "()V", sig := { parameters := [], returnType := none }, accessFlags := 1, code := none }
def k1c1 : Code := { maxStack := 6, maxLocals := 12, code := code, exceptionTable := #[], attributes := #[] }
def k1m1 : Method := { name := "law", desc := "(III)Z", sig := { parameters := [.int, .int, .int], returnType := some .boolean }, accessFlags := 9, code := some k1c1 }
/-- com/example/frugal_orm/frugalorm/DialectOrderItemsPinLaw -/
def k1 : Class := { plain "com/example/frugal_orm/frugalorm/DialectOrderItemsPinLaw" (some 0) with
  accessFlags := 49
  interfaces := #[]
  cf := some (fileOf pool1 29 #[] #[{ accessFlags := 1, nameIndex := 5, descriptorIndex := 6, attributes := #[] }, { accessFlags := 9, nameIndex := 33, descriptorIndex := 34, attributes := #[] }] 49 2 #[] #[])
  fields := #[]
  methods := #[k1m0, k1m1]
  instanceTypes := #[]
  staticTypes := #[]
  resolved := Array.replicate 40 none
  statics := none }

def pool2 : Array CpInfo := pool [(1, .class_ 2), (0, u "java/lang/constant/Constable"), (0, .class_ 4), (0, u "java/lang/Object")] 6

/-- java/lang/constant/Constable -/
def k2 : Class := { plain "java/lang/constant/Constable" (some 0) with
  accessFlags := 1537
  interfaces := #[]
  cf := some (fileOf pool2 1 #[] #[] 1537 3 #[] #[])
  fields := #[]
  methods := #[]
  instanceTypes := #[]
  staticTypes := #[]
  resolved := Array.replicate 11 none
  statics := none }

def pool3 : Array CpInfo := pool [(1, .class_ 2), (0, u "java/lang/Comparable"), (0, .class_ 4), (0, u "java/lang/Object")] 7

/-- java/lang/Comparable -/
def k3 : Class := { plain "java/lang/Comparable" (some 0) with
  accessFlags := 1537
  interfaces := #[]
  cf := some (fileOf pool3 1 #[] #[] 1537 3 #[] #[])
  fields := #[]
  methods := #[]
  instanceTypes := #[]
  staticTypes := #[]
  resolved := Array.replicate 12 none
  statics := none }

def pool4 : Array CpInfo := pool [(1, .class_ 2), (0, u "java/io/Serializable"), (0, .class_ 4), (0, u "java/lang/Object")] 2

/-- java/io/Serializable -/
def k4 : Class := { plain "java/io/Serializable" (some 0) with
  accessFlags := 1537
  interfaces := #[]
  cf := some (fileOf pool4 1 #[] #[] 1537 3 #[] #[])
  fields := #[]
  methods := #[]
  instanceTypes := #[]
  staticTypes := #[]
  resolved := Array.replicate 7 none
  statics := none }

def pool5 : Array CpInfo := pool [(2, .class_ 4), (1, u "java/lang/Enum"), (0, u "name"), (0, u "Ljava/lang/String;"), (2, u "ordinal"), (0, u "I"), (1, .class_ 14), (1, u "java/lang/Object"), (4, u "hash"), (86, .class_ 108), (1, u "java/lang/Enum$EnumDesc"), (2, .class_ 112), (0, u "java/lang/constant/Constable"), (0, .class_ 114), (0, u "java/lang/Comparable"), (0, .class_ 116), (0, u "java/io/Serializable")] 87

/-- java/lang/Enum -/
def k5 : Class := { plain "java/lang/Enum" (some 0) with
  accessFlags := 1057
  interfaces := #[2, 3, 4]
  cf := some (fileOf pool5 2 #[.nestMembers #[106]] #[] 1057 12 #[111, 113, 115] #[{ accessFlags := 18, nameIndex := 5, descriptorIndex := 6, attributes := #[] }, { accessFlags := 18, nameIndex := 9, descriptorIndex := 10, attributes := #[] }, { accessFlags := 2, nameIndex := 19, descriptorIndex := 10, attributes := #[] }])
  fields := #[{ name := "name", type := (.object "java/lang/String"), accessFlags := 18, slot := 0, constantValue := 0 }, { name := "ordinal", type := .int, accessFlags := 18, slot := 1, constantValue := 0 }, { name := "hash", type := .int, accessFlags := 2, slot := 2, constantValue := 0 }]
  methods := #[]
  instanceTypes := #[(.object "java/lang/String"), .int, .int]
  staticTypes := #[]
  resolved := Array.replicate 204 none
  statics := none }

def pool6 : Array CpInfo := pool [(1, .class_ 2), (0, u "com/example/frugal_orm/frugalorm/Dialect"), (2, u "POSTGRESQL"), (0, u "Lcom/example/frugal_orm/frugalorm/Dialect;"), (2, u "MARIADB"), (2, u "$VALUES"), (0, u "[Lcom/example/frugal_orm/frugalorm/Dialect;"), (6, .class_ 22), (1, u "java/lang/Enum"), (4, u "<init>"), (3, u "tableOptions"), (0, u "Ljava/lang/String;"), (0, .fieldref 1 34), (0, .nameAndType 35 36), (0, u "nullsFirst"), (0, u "Z"), (2, u "allRows"), (2, u "failureAborts"), (2, u "stoppedState"), (11, u "()Ljava/lang/String;"), (8, .string 67), (0, u " desc"), (0, .string 69), (0, u ""), (0, .class_ 71), (0, u "java/lang/StringBuilder"), (0, .methodref 70 73), (0, .nameAndType 27 74), (0, u "()V"), (0, .methodref 70 76), (0, .nameAndType 77 78), (0, u "append"), (0, u "(Ljava/lang/String;)Ljava/lang/StringBuilder;"), (0, .string 80), (0, u " is null"), (0, .string 82), (0, u ", "), (0, .methodref 70 84), (0, .nameAndType 85 57), (0, u "toString"), (47, u "orderItems"), (0, u "(Ljava/lang/String;ZZ)Ljava/lang/String;")] 10

def k6c0 : Code := { maxStack := 2, maxLocals := 6, code := prog_7_method_6_code, exceptionTable := #[], attributes := #[] }
def k6m0 : Method := { name := "orderItems", desc := "(Ljava/lang/String;ZZ)Ljava/lang/String;", sig := { parameters := [(.object "java/lang/String"), .boolean, .boolean], returnType := some (.object "java/lang/String") }, accessFlags := 0, code := some k6c0 }
/-- com/example/frugal_orm/frugalorm/Dialect -/
def k6 : Class := { plain "com/example/frugal_orm/frugalorm/Dialect" (some 5) with
  accessFlags := 16432
  interfaces := #[]
  cf := some (fileOf pool6 1 #[] #[{ accessFlags := 0, nameIndex := 133, descriptorIndex := 134, attributes := #[] }] 16432 20 #[] #[{ accessFlags := 16409, nameIndex := 5, descriptorIndex := 6, attributes := #[] }, { accessFlags := 16409, nameIndex := 9, descriptorIndex := 6, attributes := #[] }, { accessFlags := 18, nameIndex := 31, descriptorIndex := 32, attributes := #[] }, { accessFlags := 18, nameIndex := 35, descriptorIndex := 36, attributes := #[] }, { accessFlags := 18, nameIndex := 39, descriptorIndex := 32, attributes := #[] }, { accessFlags := 18, nameIndex := 42, descriptorIndex := 36, attributes := #[] }, { accessFlags := 18, nameIndex := 45, descriptorIndex := 32, attributes := #[] }, { accessFlags := 4122, nameIndex := 12, descriptorIndex := 13, attributes := #[] }])
  fields := #[{ name := "POSTGRESQL", type := (.object "com/example/frugal_orm/frugalorm/Dialect"), accessFlags := 16409, slot := 0, constantValue := 0 }, { name := "MARIADB", type := (.object "com/example/frugal_orm/frugalorm/Dialect"), accessFlags := 16409, slot := 1, constantValue := 0 }, { name := "tableOptions", type := (.object "java/lang/String"), accessFlags := 18, slot := 3, constantValue := 0 }, { name := "nullsFirst", type := .boolean, accessFlags := 18, slot := 4, constantValue := 0 }, { name := "allRows", type := (.object "java/lang/String"), accessFlags := 18, slot := 5, constantValue := 0 }, { name := "failureAborts", type := .boolean, accessFlags := 18, slot := 6, constantValue := 0 }, { name := "stoppedState", type := (.object "java/lang/String"), accessFlags := 18, slot := 7, constantValue := 0 }, { name := "$VALUES", type := (.array (.object "com/example/frugal_orm/frugalorm/Dialect")), accessFlags := 4122, slot := 2, constantValue := 0 }]
  methods := #[k6m0]
  instanceTypes := #[(.object "java/lang/String"), .int, .int, (.object "java/lang/String"), .boolean, (.object "java/lang/String"), .boolean, (.object "java/lang/String")]
  staticTypes := #[(.object "com/example/frugal_orm/frugalorm/Dialect"), (.object "com/example/frugal_orm/frugalorm/Dialect"), (.array (.object "com/example/frugal_orm/frugalorm/Dialect"))]
  resolved := Array.replicate 145 none
  statics := some 0 }

def pool7 : Array CpInfo := pool [(2, .class_ 4), (1, u "java/lang/CharSequence"), (42, .class_ 48), (0, u "java/lang/CharSequence$1CodePointIterator"), (10, .class_ 60), (0, u "java/lang/CharSequence$1CharIterator"), (5, .class_ 67), (0, u "java/lang/Object")] 63

/-- java/lang/CharSequence -/
def k7 : Class := { plain "java/lang/CharSequence" (some 0) with
  accessFlags := 1537
  interfaces := #[]
  cf := some (fileOf pool7 2 #[.nestMembers #[47, 59]] #[] 1537 66 #[] #[])
  fields := #[]
  methods := #[]
  instanceTypes := #[]
  staticTypes := #[]
  resolved := Array.replicate 131 none
  statics := none }

def pool8 : Array CpInfo := pool [(1, .class_ 2), (0, u "java/lang/constant/ConstantDesc"), (0, .class_ 4), (0, u "java/lang/Object")] 32

/-- java/lang/constant/ConstantDesc -/
def k8 : Class := { plain "java/lang/constant/ConstantDesc" (some 0) with
  accessFlags := 1537
  interfaces := #[]
  cf := some (fileOf pool8 1 #[] #[] 1537 3 #[] #[])
  fields := #[]
  methods := #[]
  instanceTypes := #[]
  staticTypes := #[]
  resolved := Array.replicate 37 none
  statics := none }

def pool9 : Array CpInfo := pool [(1, .methodref 2 3), (0, .class_ 4), (0, .nameAndType 5 6), (0, u "java/lang/Object"), (0, u "<init>"), (0, u "()V"), (2, .fieldref 10 11), (0, .class_ 12), (0, .nameAndType 13 14), (0, u "java/lang/String"), (0, u "value"), (0, u "[B"), (0, .fieldref 10 16), (0, .nameAndType 17 18), (0, u "coder"), (0, u "B"), (2, u "hash"), (0, u "I"), (2, u "hashIsZero"), (0, u "Z"), (0, .methodref 10 28), (0, .nameAndType 5 29), (0, u "([CIILjava/lang/Void;)V"), (8, .fieldref 10 39), (0, .nameAndType 40 26), (0, u "COMPACT_STRINGS"), (1, .class_ 44), (1, u "java/lang/StringUTF16"), (0, u "compress"), (1, .methodref 42 48), (0, .nameAndType 49 50), (0, u "coderFromArrayLen"), (0, u "([BI)B"), (3, .methodref 55 56), (0, .class_ 57), (0, .nameAndType 58 59), (0, u "java/util/Arrays"), (0, u "copyOfRange"), (0, u "([BII)[B"), (47, .class_ 109), (1, u "java/lang/StringLatin1"), (32, u "()Z"), (34, .methodref 42 178), (0, .nameAndType 45 179), (0, u "([CII)[B"), (13, .class_ 195), (1, u "java/lang/System"), (16, .methodref 193 213), (0, .nameAndType 214 215), (0, u "arraycopy"), (0, u "(Ljava/lang/Object;ILjava/lang/Object;II)V"), (118, u "()I"), (0, .methodref 10 336), (0, .nameAndType 17 337), (0, u "()B"), (2, u "()[B"), (148, .methodref 10 490), (0, .nameAndType 5 491), (0, u "(Ljava/lang/AbstractStringBuilder;Ljava/lang/Void;)V"), (1, .nameAndType 494 142), (0, u "isLatin1"), (11, .nameAndType 507 334), (0, u "length"), (24, u "getBytes"), (8, .methodref 107 542), (0, .nameAndType 543 544), (0, u "equals"), (0, u "([B[B)Z"), (4, .methodref 550 506), (0, .class_ 551), (0, u "java/lang/AbstractStringBuilder"), (0, .methodref 550 553), (0, .nameAndType 554 340), (0, u "getValue"), (18, u "(Ljava/lang/Object;)Z"), (1, .class_ 576), (0, u "java/lang/CharSequence"), (22, u "CASE_INSENSITIVE_ORDER"), (0, u "Ljava/util/Comparator;"), (220, u "([BIB)V"), (188, u "([C)V"), (36, .methodref 550 493), (53, u "serialPersistentFields"), (0, u "[Ljava/io/ObjectStreamField;"), (0, .class_ 1104), (0, u "java/lang/String$CaseInsensitiveComparator"), (1, .class_ 1107), (0, u "java/io/Serializable"), (0, .class_ 1109), (0, u "java/lang/Comparable"), (0, .class_ 1111), (0, u "java/lang/constant/Constable"), (0, .class_ 1113), (0, u "java/lang/constant/ConstantDesc"), (2, u "serialVersionUID"), (0, u "J"), (3, u "REPL"), (0, u "C"), (2, u "LATIN1"), (1, u "UTF16"), (105, u "(Ljava/lang/StringBuilder;)V")] 217

def k9m0 : Method := { name := "<init>", desc := "()V", sig := { parameters := [], returnType := none }, accessFlags := 1, code := none }
def k9c1 : Code := { maxStack := 5, maxLocals := 2, code := jdk_42_method_3_code, exceptionTable := #[], attributes := #[] }
def k9m1 : Method := { name := "<init>", desc := "([C)V", sig := { parameters := [(.array .char)], returnType := none }, accessFlags := 1, code := some k9c1 }
def k9c2 : Code := { maxStack := 3, maxLocals := 2, code := jdk_42_method_53_code, exceptionTable := #[], attributes := #[] }
def k9m2 : Method := { name := "<init>", desc := "(Ljava/lang/StringBuilder;)V", sig := { parameters := [(.object "java/lang/StringBuilder")], returnType := none }, accessFlags := 1, code := some k9c2 }
def k9c3 : Code := { maxStack := 2, maxLocals := 1, code := jdk_42_method_54_code, exceptionTable := #[], attributes := #[] }
def k9m3 : Method := { name := "length", desc := "()I", sig := { parameters := [], returnType := some .int }, accessFlags := 1, code := some k9c3 }
def k9c4 : Code := { maxStack := 2, maxLocals := 3, code := jdk_42_method_66_code, exceptionTable := #[], attributes := #[] }
def k9m4 : Method := { name := "equals", desc := "(Ljava/lang/Object;)Z", sig := { parameters := [(.object "java/lang/Object")], returnType := some .boolean }, accessFlags := 1, code := some k9c4 }
def k9c5 : Code := { maxStack := 5, maxLocals := 4, code := jdk_42_method_147_code, exceptionTable := #[], attributes := #[] }
def k9m5 : Method := { name := "getBytes", desc := "([BIB)V", sig := { parameters := [(.array .byte), .int, .byte], returnType := none }, accessFlags := 0, code := some k9c5 }
def k9c6 : Code := { maxStack := 4, maxLocals := 6, code := jdk_42_method_149_code, exceptionTable := #[], attributes := #[] }
def k9m6 : Method := { name := "<init>", desc := "([CIILjava/lang/Void;)V", sig := { parameters := [(.array .char), .int, .int, (.object "java/lang/Void")], returnType := none }, accessFlags := 2, code := some k9c6 }
def k9c7 : Code := { maxStack := 5, maxLocals := 5, code := jdk_42_method_150_code, exceptionTable := #[], attributes := #[] }
def k9m7 : Method := { name := "<init>", desc := "(Ljava/lang/AbstractStringBuilder;Ljava/lang/Void;)V", sig := { parameters := [(.object "java/lang/AbstractStringBuilder"), (.object "java/lang/Void")], returnType := none }, accessFlags := 0, code := some k9c7 }
def k9c8 : Code := { maxStack := 1, maxLocals := 1, code := jdk_42_method_152_code, exceptionTable := #[], attributes := #[] }
def k9m8 : Method := { name := "coder", desc := "()B", sig := { parameters := [], returnType := some .byte }, accessFlags := 0, code := some k9c8 }
/-- java/lang/String -/
def k9 : Class := { plain "java/lang/String" (some 0) with
  accessFlags := 49
  interfaces := #[4, 3, 7, 2, 8]
  cf := some (fileOf pool9 10 #[.nestMembers #[1103]] #[{ accessFlags := 1, nameIndex := 5, descriptorIndex := 6, attributes := #[] }, { accessFlags := 1, nameIndex := 5, descriptorIndex := 1010, attributes := #[] }, { accessFlags := 1, nameIndex := 5, descriptorIndex := 1233, attributes := #[] }, { accessFlags := 1, nameIndex := 507, descriptorIndex := 334, attributes := #[] }, { accessFlags := 1, nameIndex := 543, descriptorIndex := 573, attributes := #[] }, { accessFlags := 0, nameIndex := 532, descriptorIndex := 821, attributes := #[] }, { accessFlags := 2, nameIndex := 5, descriptorIndex := 29, attributes := #[] }, { accessFlags := 0, nameIndex := 5, descriptorIndex := 491, attributes := #[] }, { accessFlags := 0, nameIndex := 17, descriptorIndex := 337, attributes := #[] }] 49 2 #[1106, 1108, 575, 1110, 1112] #[{ accessFlags := 18, nameIndex := 13, descriptorIndex := 14, attributes := #[] }, { accessFlags := 18, nameIndex := 17, descriptorIndex := 18, attributes := #[] }, { accessFlags := 2, nameIndex := 21, descriptorIndex := 22, attributes := #[] }, { accessFlags := 2, nameIndex := 25, descriptorIndex := 26, attributes := #[] }, { accessFlags := 26, nameIndex := 1116, descriptorIndex := 1117, attributes := #[] }, { accessFlags := 24, nameIndex := 40, descriptorIndex := 26, attributes := #[] }, { accessFlags := 26, nameIndex := 1101, descriptorIndex := 1102, attributes := #[] }, { accessFlags := 26, nameIndex := 1121, descriptorIndex := 1122, attributes := #[] }, { accessFlags := 25, nameIndex := 599, descriptorIndex := 600, attributes := #[] }, { accessFlags := 24, nameIndex := 1125, descriptorIndex := 18, attributes := #[] }, { accessFlags := 24, nameIndex := 1127, descriptorIndex := 18, attributes := #[] }])
  fields := #[{ name := "value", type := (.array .byte), accessFlags := 18, slot := 0, constantValue := 0 }, { name := "coder", type := .byte, accessFlags := 18, slot := 1, constantValue := 0 }, { name := "hash", type := .int, accessFlags := 2, slot := 2, constantValue := 0 }, { name := "hashIsZero", type := .boolean, accessFlags := 2, slot := 3, constantValue := 0 }, { name := "serialVersionUID", type := .long, accessFlags := 26, slot := 0, constantValue := 0 }, { name := "COMPACT_STRINGS", type := .boolean, accessFlags := 24, slot := 1, constantValue := 0 }, { name := "serialPersistentFields", type := (.array (.object "java/io/ObjectStreamField")), accessFlags := 26, slot := 2, constantValue := 0 }, { name := "REPL", type := .char, accessFlags := 26, slot := 3, constantValue := 0 }, { name := "CASE_INSENSITIVE_ORDER", type := (.object "java/util/Comparator"), accessFlags := 25, slot := 4, constantValue := 0 }, { name := "LATIN1", type := .byte, accessFlags := 24, slot := 5, constantValue := 0 }, { name := "UTF16", type := .byte, accessFlags := 24, slot := 6, constantValue := 0 }]
  methods := #[k9m0, k9m1, k9m2, k9m3, k9m4, k9m5, k9m6, k9m7, k9m8]
  instanceTypes := #[(.array .byte), .byte, .int, .boolean]
  staticTypes := #[.long, .boolean, (.array (.object "java/io/ObjectStreamField")), .char, (.object "java/util/Comparator"), .byte, .byte]
  resolved := Array.replicate 1451 none
  statics := some 1 }

def pool10 : Array CpInfo := pool [(6, .class_ 8), (1, u "java/lang/Object"), (0, u "<init>"), (0, u "()V"), (1, .class_ 14), (1, u "java/lang/StringUTF16"), (31, u "$assertionsDisabled"), (0, u "Z"), (13, u "HI_BYTE_SHIFT"), (0, u "I"), (2, u "LO_BYTE_SHIFT"), (49, .methodref 12 116), (0, .nameAndType 117 118), (0, u "compress"), (0, u "([CI[BII)I"), (3, u "([CII)[B"), (138, u "coderFromArrayLen"), (0, u "([BI)B"), (106, .class_ 371), (1, u "java/lang/StringUTF16$LinesSpliterator"), (58, u "MAX_LENGTH"), (196, .class_ 628), (0, u "java/lang/StringUTF16$CodePointsSpliterator"), (0, .class_ 630), (0, u "java/lang/StringUTF16$CharsSpliterator")] 4

def k10m0 : Method := { name := "<init>", desc := "()V", sig := { parameters := [], returnType := none }, accessFlags := 0, code := none }
def k10c1 : Code := { maxStack := 2, maxLocals := 2, code := jdk_52_method_15_code, exceptionTable := #[], attributes := #[] }
def k10m1 : Method := { name := "coderFromArrayLen", desc := "([BI)B", sig := { parameters := [(.array .byte), .int], returnType := some .byte }, accessFlags := 8, code := some k10c1 }
def k10c2 : Code := { maxStack := 5, maxLocals := 6, code := jdk_52_method_16_code, exceptionTable := #[], attributes := #[] }
def k10m2 : Method := { name := "compress", desc := "([CII)[B", sig := { parameters := [(.array .char), .int, .int], returnType := some (.array .byte) }, accessFlags := 9, code := some k10c2 }
def k10c3 : Code := { maxStack := 3, maxLocals := 7, code := jdk_52_method_21_code, exceptionTable := #[], attributes := #[] }
def k10m3 : Method := { name := "compress", desc := "([CI[BII)I", sig := { parameters := [(.array .char), .int, (.array .byte), .int, .int], returnType := some .int }, accessFlags := 9, code := some k10c3 }
/-- java/lang/StringUTF16 -/
def k10 : Class := { plain "java/lang/StringUTF16" (some 0) with
  accessFlags := 48
  interfaces := #[]
  cf := some (fileOf pool10 12 #[.nestMembers #[627, 629, 369]] #[{ accessFlags := 0, nameIndex := 9, descriptorIndex := 10, attributes := #[] }, { accessFlags := 8, nameIndex := 261, descriptorIndex := 262, attributes := #[] }, { accessFlags := 9, nameIndex := 117, descriptorIndex := 122, attributes := #[] }, { accessFlags := 9, nameIndex := 117, descriptorIndex := 118, attributes := #[] }] 48 6 #[] #[{ accessFlags := 26, nameIndex := 61, descriptorIndex := 62, attributes := #[] }, { accessFlags := 26, nameIndex := 65, descriptorIndex := 62, attributes := #[] }, { accessFlags := 24, nameIndex := 430, descriptorIndex := 62, attributes := #[] }, { accessFlags := 4120, nameIndex := 46, descriptorIndex := 47, attributes := #[] }])
  fields := #[{ name := "HI_BYTE_SHIFT", type := .int, accessFlags := 26, slot := 0, constantValue := 0 }, { name := "LO_BYTE_SHIFT", type := .int, accessFlags := 26, slot := 1, constantValue := 0 }, { name := "MAX_LENGTH", type := .int, accessFlags := 24, slot := 2, constantValue := 0 }, { name := "$assertionsDisabled", type := .boolean, accessFlags := 4120, slot := 3, constantValue := 0 }]
  methods := #[k10m0, k10m1, k10m2, k10m3]
  instanceTypes := #[]
  staticTypes := #[.int, .int, .int, .boolean]
  resolved := Array.replicate 635 none
  statics := none }

def pool11 : Array CpInfo := pool [(1, .class_ 2), (0, u "java/lang/Appendable"), (0, .class_ 4), (0, u "java/lang/Object")] 9

/-- java/lang/Appendable -/
def k11 : Class := { plain "java/lang/Appendable" (some 0) with
  accessFlags := 1537
  interfaces := #[]
  cf := some (fileOf pool11 1 #[] #[] 1537 3 #[] #[])
  fields := #[]
  methods := #[]
  instanceTypes := #[]
  staticTypes := #[]
  resolved := Array.replicate 14 none
  statics := none }

def pool12 : Array CpInfo := pool [(1, .class_ 2), (0, u "java/lang/String"), (0, .methodref 4 5), (0, .class_ 6), (0, .nameAndType 7 8), (0, u "java/lang/Object"), (0, u "<init>"), (0, u "()V"), (1, .class_ 12), (1, u "java/lang/AbstractStringBuilder"), (0, u "EMPTYVALUE"), (0, u "[B"), (0, .fieldref 10 16), (0, .nameAndType 17 14), (0, u "value"), (0, .fieldref 1 19), (0, .nameAndType 20 21), (0, u "COMPACT_STRINGS"), (0, u "Z"), (0, .fieldref 10 23), (0, .nameAndType 24 25), (0, u "coder"), (0, u "B"), (6, .methodref 1 33), (0, .nameAndType 34 35), (0, u "length"), (0, u "()I"), (3, .integer 2147483647), (0, .methodref 1 41), (0, .nameAndType 24 42), (0, u "()B"), (2, u "append"), (0, u "(Ljava/lang/String;)Ljava/lang/AbstractStringBuilder;"), (1, .class_ 49), (0, u "java/lang/CharSequence"), (19, u "(Ljava/lang/String;)V"), (5, u "maybeLatin1"), (3, .fieldref 10 80), (0, .nameAndType 81 82), (0, u "count"), (0, u "I"), (2, u "isLatin1"), (0, u "()Z"), (13, .methodref 10 101), (0, .nameAndType 102 103), (0, u "ensureCapacityInternal"), (0, u "(I)V"), (0, .methodref 10 105), (0, .nameAndType 106 107), (0, u "newCapacity"), (0, u "(I)I"), (0, .methodref 109 110), (0, .class_ 111), (0, .nameAndType 112 113), (0, u "java/util/Arrays"), (0, u "copyOf"), (0, u "([BI)[B"), (0, .methodref 115 116), (0, .class_ 117), (0, .nameAndType 118 119), (0, u "jdk/internal/util/ArraysSupport"), (0, u "newLength"), (0, u "(III)I"), (88, .methodref 10 209), (0, .nameAndType 210 211), (0, u "putStringAt"), (0, u "(ILjava/lang/String;)V"), (5, u "inflateIfNeededFor"), (2, .nameAndType 221 222), (0, u "getBytes"), (0, u "([BIB)V"), (174, .methodref 10 398), (0, .nameAndType 217 69), (0, .methodref 1 220), (3, u "()[B"), (40, .class_ 445), (0, u "java/lang/Appendable"), (106, u "getValue")] 56

def k12m0 : Method := { name := "<init>", desc := "()V", sig := { parameters := [], returnType := none }, accessFlags := 0, code := none }
def k12c1 : Code := { maxStack := 2, maxLocals := 2, code := jdk_68_method_2_code, exceptionTable := #[], attributes := #[] }
def k12m1 : Method := { name := "<init>", desc := "(I)V", sig := { parameters := [.int], returnType := none }, accessFlags := 0, code := some k12c1 }
def k12c2 : Code := { maxStack := 1, maxLocals := 1, code := jdk_68_method_6_code, exceptionTable := #[], attributes := #[] }
def k12m2 : Method := { name := "length", desc := "()I", sig := { parameters := [], returnType := some .int }, accessFlags := 1, code := some k12c2 }
def k12c3 : Code := { maxStack := 4, maxLocals := 3, code := jdk_68_method_9_code, exceptionTable := #[], attributes := #[] }
def k12m3 : Method := { name := "ensureCapacityInternal", desc := "(I)V", sig := { parameters := [.int], returnType := none }, accessFlags := 2, code := some k12c3 }
def k12c4 : Code := { maxStack := 5, maxLocals := 6, code := jdk_68_method_10_code, exceptionTable := #[], attributes := #[] }
def k12m4 : Method := { name := "newCapacity", desc := "(I)I", sig := { parameters := [.int], returnType := some .int }, accessFlags := 2, code := some k12c4 }
def k12c5 : Code := { maxStack := 3, maxLocals := 3, code := jdk_68_method_22_code, exceptionTable := #[], attributes := #[] }
def k12m5 : Method := { name := "append", desc := "(Ljava/lang/String;)Ljava/lang/AbstractStringBuilder;", sig := { parameters := [(.object "java/lang/String")], returnType := some (.object "java/lang/AbstractStringBuilder") }, accessFlags := 1, code := some k12c5 }
def k12c6 : Code := { maxStack := 1, maxLocals := 1, code := jdk_68_method_64_code, exceptionTable := #[], attributes := #[] }
def k12m6 : Method := { name := "getValue", desc := "()[B", sig := { parameters := [], returnType := some (.array .byte) }, accessFlags := 16, code := some k12c6 }
def k12c7 : Code := { maxStack := 1, maxLocals := 1, code := jdk_68_method_68_code, exceptionTable := #[], attributes := #[] }
def k12m7 : Method := { name := "isLatin1", desc := "()Z", sig := { parameters := [], returnType := some .boolean }, accessFlags := 16, code := some k12c7 }
def k12c8 : Code := { maxStack := 2, maxLocals := 2, code := jdk_68_method_71_code, exceptionTable := #[], attributes := #[] }
def k12m8 : Method := { name := "inflateIfNeededFor", desc := "(Ljava/lang/String;)V", sig := { parameters := [(.object "java/lang/String")], returnType := none }, accessFlags := 2, code := some k12c8 }
def k12c9 : Code := { maxStack := 4, maxLocals := 3, code := jdk_68_method_73_code, exceptionTable := #[], attributes := #[] }
def k12m9 : Method := { name := "putStringAt", desc := "(ILjava/lang/String;)V", sig := { parameters := [.int, (.object "java/lang/String")], returnType := none }, accessFlags := 2, code := some k12c9 }
/-- java/lang/AbstractStringBuilder -/
def k12 : Class := { plain "java/lang/AbstractStringBuilder" (some 0) with
  accessFlags := 1056
  interfaces := #[11, 7]
  cf := some (fileOf pool12 10 #[] #[{ accessFlags := 0, nameIndex := 7, descriptorIndex := 8, attributes := #[] }, { accessFlags := 0, nameIndex := 7, descriptorIndex := 103, attributes := #[] }, { accessFlags := 1, nameIndex := 34, descriptorIndex := 35, attributes := #[] }, { accessFlags := 2, nameIndex := 102, descriptorIndex := 103, attributes := #[] }, { accessFlags := 2, nameIndex := 106, descriptorIndex := 107, attributes := #[] }, { accessFlags := 1, nameIndex := 45, descriptorIndex := 46, attributes := #[] }, { accessFlags := 16, nameIndex := 552, descriptorIndex := 403, attributes := #[] }, { accessFlags := 16, nameIndex := 85, descriptorIndex := 86, attributes := #[] }, { accessFlags := 2, nameIndex := 217, descriptorIndex := 69, attributes := #[] }, { accessFlags := 2, nameIndex := 210, descriptorIndex := 211, attributes := #[] }] 1056 4 #[444, 48] #[{ accessFlags := 0, nameIndex := 17, descriptorIndex := 14, attributes := #[] }, { accessFlags := 0, nameIndex := 24, descriptorIndex := 25, attributes := #[] }, { accessFlags := 0, nameIndex := 75, descriptorIndex := 21, attributes := #[] }, { accessFlags := 0, nameIndex := 81, descriptorIndex := 82, attributes := #[] }, { accessFlags := 26, nameIndex := 13, descriptorIndex := 14, attributes := #[] }])
  fields := #[{ name := "value", type := (.array .byte), accessFlags := 0, slot := 0, constantValue := 0 }, { name := "coder", type := .byte, accessFlags := 0, slot := 1, constantValue := 0 }, { name := "maybeLatin1", type := .boolean, accessFlags := 0, slot := 2, constantValue := 0 }, { name := "count", type := .int, accessFlags := 0, slot := 3, constantValue := 0 }, { name := "EMPTYVALUE", type := (.array .byte), accessFlags := 26, slot := 0, constantValue := 0 }]
  methods := #[k12m0, k12m1, k12m2, k12m3, k12m4, k12m5, k12m6, k12m7, k12m8, k12m9]
  instanceTypes := #[(.array .byte), .byte, .boolean, .int]
  staticTypes := #[(.array .byte)]
  resolved := Array.replicate 609 none
  statics := none }

def pool13 : Array CpInfo := pool [(1, .methodref 2 3), (0, .class_ 4), (0, .nameAndType 5 6), (0, u "java/lang/AbstractStringBuilder"), (0, u "<init>"), (0, u "(I)V"), (11, .class_ 20), (1, u "java/lang/String"), (3, .class_ 26), (1, u "java/lang/StringBuilder"), (0, u "append"), (0, u "(Ljava/lang/String;)Ljava/lang/StringBuilder;"), (0, .methodref 2 30), (0, .nameAndType 27 31), (0, u "(Ljava/lang/String;)Ljava/lang/AbstractStringBuilder;"), (105, .methodref 18 138), (0, .nameAndType 5 139), (0, u "(Ljava/lang/StringBuilder;)V"), (5, u "()V"), (10, u "()I"), (186, .methodref 2 344), (0, .nameAndType 345 156), (0, u "length"), (3, .class_ 350), (0, u "java/lang/Appendable"), (0, .class_ 352), (0, u "java/io/Serializable"), (0, .class_ 354), (0, u "java/lang/Comparable"), (0, .class_ 356), (0, u "java/lang/CharSequence"), (0, u "serialVersionUID"), (0, u "J"), (40, u "toString"), (0, u "()Ljava/lang/String;")] 21

def k13c0 : Code := { maxStack := 2, maxLocals := 1, code := jdk_67_method_1_code, exceptionTable := #[], attributes := #[] }
def k13m0 : Method := { name := "<init>", desc := "()V", sig := { parameters := [], returnType := none }, accessFlags := 1, code := some k13c0 }
def k13c1 : Code := { maxStack := 2, maxLocals := 2, code := jdk_67_method_7_code, exceptionTable := #[], attributes := #[] }
def k13m1 : Method := { name := "append", desc := "(Ljava/lang/String;)Ljava/lang/StringBuilder;", sig := { parameters := [(.object "java/lang/String")], returnType := some (.object "java/lang/StringBuilder") }, accessFlags := 1, code := some k13c1 }
def k13c2 : Code := { maxStack := 3, maxLocals := 1, code := jdk_67_method_42_code, exceptionTable := #[], attributes := #[] }
def k13m2 : Method := { name := "toString", desc := "()Ljava/lang/String;", sig := { parameters := [], returnType := some (.object "java/lang/String") }, accessFlags := 1, code := some k13c2 }
def k13c3 : Code := { maxStack := 1, maxLocals := 1, code := jdk_67_method_93_code, exceptionTable := #[], attributes := #[] }
def k13m3 : Method := { name := "length", desc := "()I", sig := { parameters := [], returnType := some .int }, accessFlags := 4161, code := some k13c3 }
/-- java/lang/StringBuilder -/
def k13 : Class := { plain "java/lang/StringBuilder" (some 12) with
  accessFlags := 49
  interfaces := #[11, 4, 3, 7]
  cf := some (fileOf pool13 24 #[] #[{ accessFlags := 1, nameIndex := 5, descriptorIndex := 145, attributes := #[] }, { accessFlags := 1, nameIndex := 27, descriptorIndex := 28, attributes := #[] }, { accessFlags := 1, nameIndex := 399, descriptorIndex := 400, attributes := #[] }, { accessFlags := 4161, nameIndex := 345, descriptorIndex := 156, attributes := #[] }] 49 2 #[349, 351, 353, 355] #[{ accessFlags := 24, nameIndex := 357, descriptorIndex := 358, attributes := #[] }])
  fields := #[{ name := "serialVersionUID", type := .long, accessFlags := 24, slot := 0, constantValue := 0 }]
  methods := #[k13m0, k13m1, k13m2, k13m3]
  instanceTypes := #[(.array .byte), .byte, .boolean, .int]
  staticTypes := #[.long]
  resolved := Array.replicate 422 none
  statics := none }

def pool14 : Array CpInfo := pool [(2, .class_ 4), (1, u "java/lang/Object"), (0, u "<init>"), (0, u "()V"), (1, .class_ 10), (1, u "java/lang/System"), (0, u "allowSecurityManager"), (0, u "I"), (16, u "cons"), (0, u "Ljava/io/Console;"), (77, .class_ 110), (1, u "java/lang/System$CallersHolder"), (43, u "initialErrStream"), (0, u "Ljava/io/PrintStream;"), (19, u "security"), (0, u "Ljava/lang/SecurityManager;"), (31, .class_ 209), (0, u "java/lang/System$1"), (7, u "props"), (0, u "Ljava/util/Properties;"), (2, u "lineSeparator"), (0, u "Ljava/lang/String;"), (96, .class_ 321), (1, u "java/lang/System$LoggerFinder"), (5, .class_ 328), (0, u "java/lang/System$Logger"), (67, u "err"), (2, u "out"), (91, u "notSupportedJnuEncoding"), (15, u "in"), (17, u "initialIn"), (0, u "Ljava/io/InputStream;"), (35, u "bootLayer"), (0, u "Ljava/lang/ModuleLayer;"), (99, .class_ 664), (0, u "java/lang/System$2"), (9, u "NEVER"), (2, u "MAYBE"), (49, u "arraycopy"), (0, u "(Ljava/lang/Object;ILjava/lang/Object;II)V"), (72, .class_ 802), (0, u "java/lang/System$Logger$Level")] 31

def k14m0 : Method := { name := "<init>", desc := "()V", sig := { parameters := [], returnType := none }, accessFlags := 2, code := none }
def k14m1 : Method := { name := "arraycopy", desc := "(Ljava/lang/Object;ILjava/lang/Object;II)V", sig := { parameters := [(.object "java/lang/Object"), .int, (.object "java/lang/Object"), .int, .int], returnType := none }, accessFlags := 265, code := none }
/-- java/lang/System -/
def k14 : Class := { plain "java/lang/System" (some 0) with
  accessFlags := 49
  interfaces := #[]
  cf := some (fileOf pool14 8 #[.nestMembers #[319, 327, 801, 108, 663, 208]] #[{ accessFlags := 2, nameIndex := 5, descriptorIndex := 6, attributes := #[] }, { accessFlags := 265, nameIndex := 727, descriptorIndex := 728, attributes := #[] }] 49 2 #[] #[{ accessFlags := 25, nameIndex := 507, descriptorIndex := 526, attributes := #[] }, { accessFlags := 25, nameIndex := 399, descriptorIndex := 155, attributes := #[] }, { accessFlags := 25, nameIndex := 396, descriptorIndex := 155, attributes := #[] }, { accessFlags := 10, nameIndex := 525, descriptorIndex := 526, attributes := #[] }, { accessFlags := 26, nameIndex := 674, descriptorIndex := 12, attributes := #[] }, { accessFlags := 26, nameIndex := 677, descriptorIndex := 12, attributes := #[] }, { accessFlags := 10, nameIndex := 11, descriptorIndex := 12, attributes := #[] }, { accessFlags := 74, nameIndex := 175, descriptorIndex := 176, attributes := #[] }, { accessFlags := 10, nameIndex := 491, descriptorIndex := 222, attributes := #[] }, { accessFlags := 74, nameIndex := 29, descriptorIndex := 30, attributes := #[] }, { accessFlags := 74, nameIndex := 154, descriptorIndex := 155, attributes := #[] }, { accessFlags := 10, nameIndex := 217, descriptorIndex := 218, attributes := #[] }, { accessFlags := 10, nameIndex := 221, descriptorIndex := 222, attributes := #[] }, { accessFlags := 8, nameIndex := 562, descriptorIndex := 563, attributes := #[] }])
  fields := #[{ name := "in", type := (.object "java/io/InputStream"), accessFlags := 25, slot := 0, constantValue := 0 }, { name := "out", type := (.object "java/io/PrintStream"), accessFlags := 25, slot := 1, constantValue := 0 }, { name := "err", type := (.object "java/io/PrintStream"), accessFlags := 25, slot := 2, constantValue := 0 }, { name := "initialIn", type := (.object "java/io/InputStream"), accessFlags := 10, slot := 3, constantValue := 0 }, { name := "NEVER", type := .int, accessFlags := 26, slot := 4, constantValue := 0 }, { name := "MAYBE", type := .int, accessFlags := 26, slot := 5, constantValue := 0 }, { name := "allowSecurityManager", type := .int, accessFlags := 10, slot := 6, constantValue := 0 }, { name := "security", type := (.object "java/lang/SecurityManager"), accessFlags := 74, slot := 7, constantValue := 0 }, { name := "notSupportedJnuEncoding", type := (.object "java/lang/String"), accessFlags := 10, slot := 8, constantValue := 0 }, { name := "cons", type := (.object "java/io/Console"), accessFlags := 74, slot := 9, constantValue := 0 }, { name := "initialErrStream", type := (.object "java/io/PrintStream"), accessFlags := 74, slot := 10, constantValue := 0 }, { name := "props", type := (.object "java/util/Properties"), accessFlags := 10, slot := 11, constantValue := 0 }, { name := "lineSeparator", type := (.object "java/lang/String"), accessFlags := 10, slot := 12, constantValue := 0 }, { name := "bootLayer", type := (.object "java/lang/ModuleLayer"), accessFlags := 8, slot := 13, constantValue := 0 }]
  methods := #[k14m0, k14m1]
  instanceTypes := #[]
  staticTypes := #[(.object "java/io/InputStream"), (.object "java/io/PrintStream"), (.object "java/io/PrintStream"), (.object "java/io/InputStream"), .int, .int, .int, (.object "java/lang/SecurityManager"), (.object "java/lang/String"), (.object "java/io/Console"), (.object "java/io/PrintStream"), (.object "java/util/Properties"), (.object "java/lang/String"), (.object "java/lang/ModuleLayer")]
  resolved := Array.replicate 834 none
  statics := none }

def pool15 : Array CpInfo := pool [(2, .class_ 4), (1, u "java/lang/Object"), (0, u "<init>"), (0, u "()V"), (7, .class_ 16), (1, u "java/util/Arrays"), (57, .class_ 76), (1, u "java/util/Arrays$NaturalOrder"), (36, .class_ 115), (1, u "java/util/Arrays$LegacyMergeSort"), (1, u "Z"), (21, u "copyOfRange"), (10, .methodref 151 152), (0, .class_ 153), (0, .nameAndType 154 155), (0, u "java/lang/System"), (0, u "arraycopy"), (0, u "(Ljava/lang/Object;ILjava/lang/Object;II)V"), (146, u "copyOf"), (1, .methodref 305 306), (0, .class_ 307), (0, .nameAndType 308 309), (0, u "java/lang/Math"), (0, u "min"), (0, u "(II)I"), (29, .methodref 14 340), (0, .nameAndType 341 342), (0, u "copyOfRangeByte"), (0, u "([BII)[B"), (0, .methodref 14 344), (0, .nameAndType 345 346), (0, u "checkLength"), (0, u "(II)V"), (28, .class_ 376), (0, u "java/util/Arrays$ArrayList"), (68, u "$assertionsDisabled"), (269, u "MIN_ARRAY_SORT_GRAN"), (0, u "I"), (2, u "INSERTIONSORT_THRESHOLD"), (149, u "([BI)[B"), (105, .class_ 976), (0, u "java/util/Arrays$ArrayItr")] 52

def k15m0 : Method := { name := "<init>", desc := "()V", sig := { parameters := [], returnType := none }, accessFlags := 2, code := none }
def k15c1 : Code := { maxStack := 6, maxLocals := 3, code := jdk_65_method_121_code, exceptionTable := #[], attributes := #[] }
def k15m1 : Method := { name := "copyOf", desc := "([BI)[B", sig := { parameters := [(.array .byte), .int], returnType := some (.array .byte) }, accessFlags := 9, code := some k15c1 }
def k15c2 : Code := { maxStack := 4, maxLocals := 2, code := jdk_65_method_131_code, exceptionTable := #[], attributes := #[] }
def k15m2 : Method := { name := "checkLength", desc := "(II)V", sig := { parameters := [.int, .int], returnType := none }, accessFlags := 10, code := some k15c2 }
def k15c3 : Code := { maxStack := 3, maxLocals := 3, code := jdk_65_method_132_code, exceptionTable := #[], attributes := #[] }
def k15m3 : Method := { name := "copyOfRange", desc := "([BII)[B", sig := { parameters := [(.array .byte), .int, .int], returnType := some (.array .byte) }, accessFlags := 9, code := some k15c3 }
def k15c4 : Code := { maxStack := 6, maxLocals := 5, code := jdk_65_method_133_code, exceptionTable := #[], attributes := #[] }
def k15m4 : Method := { name := "copyOfRangeByte", desc := "([BII)[B", sig := { parameters := [(.array .byte), .int, .int], returnType := some (.array .byte) }, accessFlags := 10, code := some k15c4 }
/-- java/util/Arrays -/
def k15 : Class := { plain "java/util/Arrays" (some 0) with
  accessFlags := 49
  interfaces := #[]
  cf := some (fileOf pool15 14 #[.nestMembers #[975, 375, 113, 74]] #[{ accessFlags := 2, nameIndex := 5, descriptorIndex := 6, attributes := #[] }, { accessFlags := 9, nameIndex := 302, descriptorIndex := 869, attributes := #[] }, { accessFlags := 10, nameIndex := 345, descriptorIndex := 346, attributes := #[] }, { accessFlags := 9, nameIndex := 139, descriptorIndex := 342, attributes := #[] }, { accessFlags := 10, nameIndex := 341, descriptorIndex := 342, attributes := #[] }] 49 2 #[] #[{ accessFlags := 26, nameIndex := 715, descriptorIndex := 716, attributes := #[] }, { accessFlags := 26, nameIndex := 719, descriptorIndex := 716, attributes := #[] }, { accessFlags := 4120, nameIndex := 445, descriptorIndex := 117, attributes := #[] }])
  fields := #[{ name := "MIN_ARRAY_SORT_GRAN", type := .int, accessFlags := 26, slot := 0, constantValue := 0 }, { name := "INSERTIONSORT_THRESHOLD", type := .int, accessFlags := 26, slot := 1, constantValue := 0 }, { name := "$assertionsDisabled", type := .boolean, accessFlags := 4120, slot := 2, constantValue := 0 }]
  methods := #[k15m0, k15m1, k15m2, k15m3, k15m4]
  instanceTypes := #[]
  staticTypes := #[.int, .int, .boolean]
  resolved := Array.replicate 1029 none
  statics := none }

def pool16 : Array CpInfo := pool [(1, .class_ 2), (0, u "java/lang/Math"), (1, .class_ 6), (1, u "java/lang/Object"), (0, u "<init>"), (0, u "()V"), (89, .class_ 100), (1, u "java/lang/Math$RandomNumberGeneratorHolder"), (71, u "negativeZeroFloatBits"), (0, u "J"), (2, u "negativeZeroDoubleBits"), (21, u "max"), (2, u "min"), (43, u "$assertionsDisabled"), (0, u "Z"), (88, u "(II)I"), (2, u "twoToTheDoubleScaleDown"), (0, u "D"), (4, u "twoToTheDoubleScaleUp"), (9, u "E"), (3, u "PI"), (2, u "TAU"), (2, u "DEGREES_TO_RADIANS"), (0, u "RADIANS_TO_DEGREES")] 94

def k16m0 : Method := { name := "<init>", desc := "()V", sig := { parameters := [], returnType := none }, accessFlags := 2, code := none }
def k16c1 : Code := { maxStack := 2, maxLocals := 2, code := jdk_29_method_65_code, exceptionTable := #[], attributes := #[] }
def k16m1 : Method := { name := "max", desc := "(II)I", sig := { parameters := [.int, .int], returnType := some .int }, accessFlags := 9, code := some k16c1 }
def k16c2 : Code := { maxStack := 2, maxLocals := 2, code := jdk_29_method_69_code, exceptionTable := #[], attributes := #[] }
def k16m2 : Method := { name := "min", desc := "(II)I", sig := { parameters := [.int, .int], returnType := some .int }, accessFlags := 9, code := some k16c2 }
/-- java/lang/Math -/
def k16 : Class := { plain "java/lang/Math" (some 0) with
  accessFlags := 49
  interfaces := #[]
  cf := some (fileOf pool16 1 #[.nestMembers #[98]] #[{ accessFlags := 2, nameIndex := 7, descriptorIndex := 8, attributes := #[] }, { accessFlags := 9, nameIndex := 198, descriptorIndex := 335, attributes := #[] }, { accessFlags := 9, nameIndex := 201, descriptorIndex := 335, attributes := #[] }] 49 4 #[] #[{ accessFlags := 25, nameIndex := 354, descriptorIndex := 339, attributes := #[] }, { accessFlags := 25, nameIndex := 358, descriptorIndex := 339, attributes := #[] }, { accessFlags := 25, nameIndex := 361, descriptorIndex := 339, attributes := #[] }, { accessFlags := 26, nameIndex := 364, descriptorIndex := 339, attributes := #[] }, { accessFlags := 26, nameIndex := 365, descriptorIndex := 339, attributes := #[] }, { accessFlags := 26, nameIndex := 172, descriptorIndex := 173, attributes := #[] }, { accessFlags := 26, nameIndex := 176, descriptorIndex := 173, attributes := #[] }, { accessFlags := 8, nameIndex := 344, descriptorIndex := 339, attributes := #[] }, { accessFlags := 8, nameIndex := 338, descriptorIndex := 339, attributes := #[] }, { accessFlags := 4120, nameIndex := 245, descriptorIndex := 246, attributes := #[] }])
  fields := #[{ name := "E", type := .double, accessFlags := 25, slot := 0, constantValue := 0 }, { name := "PI", type := .double, accessFlags := 25, slot := 1, constantValue := 0 }, { name := "TAU", type := .double, accessFlags := 25, slot := 2, constantValue := 0 }, { name := "DEGREES_TO_RADIANS", type := .double, accessFlags := 26, slot := 3, constantValue := 0 }, { name := "RADIANS_TO_DEGREES", type := .double, accessFlags := 26, slot := 4, constantValue := 0 }, { name := "negativeZeroFloatBits", type := .long, accessFlags := 26, slot := 5, constantValue := 0 }, { name := "negativeZeroDoubleBits", type := .long, accessFlags := 26, slot := 6, constantValue := 0 }, { name := "twoToTheDoubleScaleUp", type := .double, accessFlags := 8, slot := 7, constantValue := 0 }, { name := "twoToTheDoubleScaleDown", type := .double, accessFlags := 8, slot := 8, constantValue := 0 }, { name := "$assertionsDisabled", type := .boolean, accessFlags := 4120, slot := 9, constantValue := 0 }]
  methods := #[k16m0, k16m1, k16m2]
  instanceTypes := #[]
  staticTypes := #[.double, .double, .double, .double, .double, .long, .long, .double, .double, .boolean]
  resolved := Array.replicate 460 none
  statics := none }

def pool17 : Array CpInfo := pool [(4, .class_ 6), (1, u "java/lang/Object"), (0, u "<init>"), (0, u "()V"), (5, .class_ 16), (1, u "java/lang/StringLatin1"), (104, u "$assertionsDisabled"), (0, u "Z"), (98, .class_ 223), (1, u "java/lang/StringLatin1$LinesSpliterator"), (57, u "equals"), (0, u "([B[B)Z"), (107, .class_ 391), (0, u "java/lang/StringLatin1$CharsSpliterator")] 3

def k17m0 : Method := { name := "<init>", desc := "()V", sig := { parameters := [], returnType := none }, accessFlags := 0, code := none }
def k17c1 : Code := { maxStack := 3, maxLocals := 3, code := jdk_43_method_13_code, exceptionTable := #[], attributes := #[] }
def k17m1 : Method := { name := "equals", desc := "([B[B)Z", sig := { parameters := [(.array .byte), (.array .byte)], returnType := some .boolean }, accessFlags := 9, code := some k17c1 }
/-- java/lang/StringLatin1 -/
def k17 : Class := { plain "java/lang/StringLatin1" (some 0) with
  accessFlags := 48
  interfaces := #[]
  cf := some (fileOf pool17 14 #[.nestMembers #[390, 221]] #[{ accessFlags := 0, nameIndex := 7, descriptorIndex := 8, attributes := #[] }, { accessFlags := 9, nameIndex := 281, descriptorIndex := 282, attributes := #[] }] 48 4 #[] #[{ accessFlags := 4120, nameIndex := 121, descriptorIndex := 122, attributes := #[] }])
  fields := #[{ name := "$assertionsDisabled", type := .boolean, accessFlags := 4120, slot := 0, constantValue := 0 }]
  methods := #[k17m0, k17m1]
  instanceTypes := #[]
  staticTypes := #[.boolean]
  resolved := Array.replicate 395 none
  statics := none }

def pool18 : Array CpInfo := pool [(9, u "<init>"), (6, .class_ 18), (1, u "java/lang/Object"), (0, u "()V"), (1, .class_ 23), (1, u "jdk/internal/util/ArraysSupport"), (0, u "LOG2_ARRAY_LONG_INDEX_SCALE"), (0, u "I"), (2, u "U"), (0, u "Ljdk/internal/misc/Unsafe;"), (8, u "BIG_ENDIAN"), (0, u "Z"), (8, u "LOG2_BYTE_BIT_SIZE"), (4, u "LOG2_ARRAY_INT_INDEX_SCALE"), (54, u "JLA"), (0, u "Ljdk/internal/access/JavaLangAccess;"), (11, u "LOG2_ARRAY_BOOLEAN_INDEX_SCALE"), (9, u "LOG2_ARRAY_BYTE_INDEX_SCALE"), (5, u "LOG2_ARRAY_CHAR_INDEX_SCALE"), (5, u "LOG2_ARRAY_SHORT_INDEX_SCALE"), (18, u "LOG2_ARRAY_FLOAT_INDEX_SCALE"), (24, u "LOG2_ARRAY_DOUBLE_INDEX_SCALE"), (6, .methodref 195 196), (0, .class_ 197), (0, .nameAndType 198 199), (0, u "java/lang/Math"), (0, u "max"), (0, u "(II)I"), (0, .integer 2147483639), (76, u "T_BOOLEAN"), (2, u "T_CHAR"), (1, u "T_FLOAT"), (1, u "T_DOUBLE"), (1, u "T_BYTE"), (1, u "T_SHORT"), (1, u "T_INT"), (1, u "T_LONG"), (1, u "SOFT_MAX_ARRAY_LENGTH"), (56, u "newLength"), (0, u "(III)I")] 25

def k18m0 : Method := { name := "<init>", desc := "()V", sig := { parameters := [], returnType := none }, accessFlags := 2, code := none }
def k18c1 : Code := { maxStack := 3, maxLocals := 4, code := jdk_48_method_27_code, exceptionTable := #[], attributes := #[] }
def k18m1 : Method := { name := "newLength", desc := "(III)I", sig := { parameters := [.int, .int, .int], returnType := some .int }, accessFlags := 9, code := some k18c1 }
/-- jdk/internal/util/ArraysSupport -/
def k18 : Class := { plain "jdk/internal/util/ArraysSupport" (some 0) with
  accessFlags := 33
  interfaces := #[]
  cf := some (fileOf pool18 21 #[] #[{ accessFlags := 2, nameIndex := 9, descriptorIndex := 19, attributes := #[] }, { accessFlags := 9, nameIndex := 351, descriptorIndex := 352, attributes := #[] }] 33 16 #[] #[{ accessFlags := 24, nameIndex := 28, descriptorIndex := 29, attributes := #[] }, { accessFlags := 26, nameIndex := 38, descriptorIndex := 39, attributes := #[] }, { accessFlags := 25, nameIndex := 121, descriptorIndex := 25, attributes := #[] }, { accessFlags := 25, nameIndex := 131, descriptorIndex := 25, attributes := #[] }, { accessFlags := 25, nameIndex := 137, descriptorIndex := 25, attributes := #[] }, { accessFlags := 25, nameIndex := 143, descriptorIndex := 25, attributes := #[] }, { accessFlags := 25, nameIndex := 53, descriptorIndex := 25, attributes := #[] }, { accessFlags := 25, nameIndex := 24, descriptorIndex := 25, attributes := #[] }, { accessFlags := 25, nameIndex := 162, descriptorIndex := 25, attributes := #[] }, { accessFlags := 25, nameIndex := 187, descriptorIndex := 25, attributes := #[] }, { accessFlags := 26, nameIndex := 48, descriptorIndex := 25, attributes := #[] }, { accessFlags := 25, nameIndex := 277, descriptorIndex := 25, attributes := #[] }, { accessFlags := 25, nameIndex := 280, descriptorIndex := 25, attributes := #[] }, { accessFlags := 25, nameIndex := 282, descriptorIndex := 25, attributes := #[] }, { accessFlags := 25, nameIndex := 284, descriptorIndex := 25, attributes := #[] }, { accessFlags := 25, nameIndex := 286, descriptorIndex := 25, attributes := #[] }, { accessFlags := 25, nameIndex := 288, descriptorIndex := 25, attributes := #[] }, { accessFlags := 25, nameIndex := 290, descriptorIndex := 25, attributes := #[] }, { accessFlags := 25, nameIndex := 292, descriptorIndex := 25, attributes := #[] }, { accessFlags := 26, nameIndex := 108, descriptorIndex := 109, attributes := #[] }, { accessFlags := 25, nameIndex := 294, descriptorIndex := 25, attributes := #[] }])
  fields := #[{ name := "U", type := (.object "jdk/internal/misc/Unsafe"), accessFlags := 24, slot := 0, constantValue := 0 }, { name := "BIG_ENDIAN", type := .boolean, accessFlags := 26, slot := 1, constantValue := 0 }, { name := "LOG2_ARRAY_BOOLEAN_INDEX_SCALE", type := .int, accessFlags := 25, slot := 2, constantValue := 0 }, { name := "LOG2_ARRAY_BYTE_INDEX_SCALE", type := .int, accessFlags := 25, slot := 3, constantValue := 0 }, { name := "LOG2_ARRAY_CHAR_INDEX_SCALE", type := .int, accessFlags := 25, slot := 4, constantValue := 0 }, { name := "LOG2_ARRAY_SHORT_INDEX_SCALE", type := .int, accessFlags := 25, slot := 5, constantValue := 0 }, { name := "LOG2_ARRAY_INT_INDEX_SCALE", type := .int, accessFlags := 25, slot := 6, constantValue := 0 }, { name := "LOG2_ARRAY_LONG_INDEX_SCALE", type := .int, accessFlags := 25, slot := 7, constantValue := 0 }, { name := "LOG2_ARRAY_FLOAT_INDEX_SCALE", type := .int, accessFlags := 25, slot := 8, constantValue := 0 }, { name := "LOG2_ARRAY_DOUBLE_INDEX_SCALE", type := .int, accessFlags := 25, slot := 9, constantValue := 0 }, { name := "LOG2_BYTE_BIT_SIZE", type := .int, accessFlags := 26, slot := 10, constantValue := 0 }, { name := "T_BOOLEAN", type := .int, accessFlags := 25, slot := 11, constantValue := 0 }, { name := "T_CHAR", type := .int, accessFlags := 25, slot := 12, constantValue := 0 }, { name := "T_FLOAT", type := .int, accessFlags := 25, slot := 13, constantValue := 0 }, { name := "T_DOUBLE", type := .int, accessFlags := 25, slot := 14, constantValue := 0 }, { name := "T_BYTE", type := .int, accessFlags := 25, slot := 15, constantValue := 0 }, { name := "T_SHORT", type := .int, accessFlags := 25, slot := 16, constantValue := 0 }, { name := "T_INT", type := .int, accessFlags := 25, slot := 17, constantValue := 0 }, { name := "T_LONG", type := .int, accessFlags := 25, slot := 18, constantValue := 0 }, { name := "JLA", type := (.object "jdk/internal/access/JavaLangAccess"), accessFlags := 26, slot := 19, constantValue := 0 }, { name := "SOFT_MAX_ARRAY_LENGTH", type := .int, accessFlags := 25, slot := 20, constantValue := 0 }]
  methods := #[k18m0, k18m1]
  instanceTypes := #[]
  staticTypes := #[(.object "jdk/internal/misc/Unsafe"), .boolean, .int, .int, .int, .int, .int, .int, .int, .int, .int, .int, .int, .int, .int, .int, .int, .int, .int, (.object "jdk/internal/access/JavaLangAccess"), .int]
  resolved := Array.replicate 378 none
  statics := none }

def pool19 : Array CpInfo := pool [(2, .class_ 4), (1, u "java/lang/Object"), (0, u "<init>"), (0, u "()V"), (17, .class_ 26), (1, u "jdk/internal/util/Preconditions"), (28, .class_ 56), (0, u "jdk/internal/util/Preconditions$4"), (57, .class_ 115), (0, u "jdk/internal/util/Preconditions$1"), (7, u "SIOOBE_FORMATTER"), (0, u "Ljava/util/function/BiFunction;"), (0, .class_ 126), (0, u "jdk/internal/util/Preconditions$2"), (3, u "AIOOBE_FORMATTER"), (0, .class_ 132), (0, u "jdk/internal/util/Preconditions$3"), (3, u "IOOBE_FORMATTER")] 57

def k19m0 : Method := { name := "<init>", desc := "()V", sig := { parameters := [], returnType := none }, accessFlags := 1, code := none }
/-- jdk/internal/util/Preconditions -/
def k19 : Class := { plain "jdk/internal/util/Preconditions" (some 0) with
  accessFlags := 33
  interfaces := #[]
  cf := some (fileOf pool19 24 #[.nestMembers #[55, 131, 125, 114]] #[{ accessFlags := 1, nameIndex := 5, descriptorIndex := 6, attributes := #[] }] 33 2 #[] #[{ accessFlags := 25, nameIndex := 123, descriptorIndex := 124, attributes := #[] }, { accessFlags := 25, nameIndex := 130, descriptorIndex := 124, attributes := #[] }, { accessFlags := 25, nameIndex := 136, descriptorIndex := 124, attributes := #[] }])
  fields := #[{ name := "SIOOBE_FORMATTER", type := (.object "java/util/function/BiFunction"), accessFlags := 25, slot := 0, constantValue := 0 }, { name := "AIOOBE_FORMATTER", type := (.object "java/util/function/BiFunction"), accessFlags := 25, slot := 1, constantValue := 0 }, { name := "IOOBE_FORMATTER", type := (.object "java/util/function/BiFunction"), accessFlags := 25, slot := 2, constantValue := 0 }]
  methods := #[k19m0]
  instanceTypes := #[]
  staticTypes := #[(.object "java/util/function/BiFunction"), (.object "java/util/function/BiFunction"), (.object "java/util/function/BiFunction")]
  resolved := Array.replicate 194 none
  statics := some 2 }

def pool20 : Array CpInfo := pool [(1, u "java/lang/Cloneable"), (0, .class_ 1), (0, u "java/lang/Object"), (0, .class_ 3)] 3

/-- java/lang/Cloneable -/
def k20 : Class := { plain "java/lang/Cloneable" (some 0) with
  accessFlags := 1537
  interfaces := #[]
  cf := some (fileOf pool20 2 #[] #[] 1537 4 #[] #[])
  fields := #[]
  methods := #[]
  instanceTypes := #[]
  staticTypes := #[]
  resolved := Array.replicate 8 none
  statics := none }

/-- the primitive byte -/
def k21 : Class := { plain "byte" none with kind := .primitive 'B', accessFlags := 0x411 }
/-- [B -/
def k22 : Class := { plain "[B" (some 0) with kind := .array 21 .byte, interfaces := #[20, 4], accessFlags := 1041 }

/-- the primitive char -/
def k23 : Class := { plain "char" none with kind := .primitive 'C', accessFlags := 0x411 }
/-- [C -/
def k24 : Class := { plain "[C" (some 0) with kind := .array 23 .char, interfaces := #[20, 4], accessFlags := 1041 }

/-- the primitive int -/
def k25 : Class := { plain "int" none with kind := .primitive 'I', accessFlags := 0x411 }
/-- [I -/
def k26 : Class := { plain "[I" (some 0) with kind := .array 25 .int, interfaces := #[20, 4], accessFlags := 1041 }

def heap : Heap := #[{ cls := 6, slots := #[.ref 3, .ref 4, .null], vm := .statics 6 },
  { cls := 9, slots := #[.long 0, .int 1, .null, .int 0, .null, .int 0, .int 0], vm := .statics 9 },
  { cls := 19, slots := #[.null, .null, .null], vm := .statics 19 },
  { cls := 6, slots := #[.null, .int 0, .int 0, .null, .int 0, .null, .int 0, .null], vm := .none },
  { cls := 6, slots := #[.null, .int 1, .int 0, .null, .int 1, .null, .int 1, .null], vm := .none }]
def classes : Array Class := #[k0, k1, k2, k3, k4, k5, k6, k7, k8, k9, k10, k11, k12, k13, k14, k15, k16, k17, k18, k19, k20, k21, k22, k23, k24, k25, k26]
def interned : List (Array UInt16 × Addr) := []
def slotsUsed : Nat := 29
def theMethod : MethodId := ⟨1, 1⟩
def args0 : Array Value := #[.int 5, .int 6, .int 7]
def aboutOver (below : List Frame) : State where
  vm := { classes := classes, interned := interned.toArray }
  heap := heap
  slotsUsed := slotsUsed
  threads := #[{ frames := .invoking theMethod args0 :: below }]
def below0 : List Frame := [.native { method := ⟨0, 0⟩, args := #[] }]
def about1 : State := aboutOver below0
def p0 : Program := .bare "" "" ""
def e0 : Env := launch0.env 0 0 0
theorem w_frames : about1.frames = Frame.invoking theMethod args0 :: below0 := rfl
set_option maxRecDepth 65536 in
theorem w_args : argsFit about1.vm theMethod args0 = true := by decide +kernel
set_option maxRecDepth 65536 in
theorem w_heap : heapFits about1 = true := by decide +kernel
set_option maxRecDepth 65536 in
theorem w_runnable : about1.curStatus? = some .runnable := by decide +kernel
set_option maxRecDepth 65536 in
theorem w_alone : about1.alone = true := by decide +kernel
set_option maxRecDepth 65536 in
theorem w_named : about1.methodNamed? x = some theMethod := by decide +kernel
set_option maxRecDepth 65536 in
theorem w_hears : about1.hears theMethod below0 = true := by decide +kernel
set_option maxRecDepth 65536 in
theorem w_ripe : about1.ripe theMethod args0 below0 = true := by decide +kernel
theorem w_running : about1.status = .running := rfl
set_option maxRecDepth 65536 in
theorem w_room : about1.hasRoom e0.platform room_1 = true :=
  launch0.hasRoom_least _ room_1 (by decide +kernel) (by decide +kernel) (by decide +kernel) (by decide +kernel) (by decide +kernel) (by decide +kernel)
theorem allAtoms_all (ts : List Jvm.Cond) (a : Array Jvm.Value) (st : Jvm.State) : (allAtoms ts).before a st = ts.all (fun c => c.before a st) := by
  induction ts with
  | nil => rfl
  | cons c t ih =>
    show (Jvm.Cond.and c (allAtoms t)).before a st = _
    rw [Jvm.Cond.before_and, ih, List.all_cons]
def words1 : List Jvm.Cond := Jvm.Cond.code x code maxLocals ret :: tables_1
/-- a 'code' word, met by the world's own term for the bytes: nothing is compared byte by byte -/
theorem code_word {y : MethodName} {bytes : ByteArray} {mx : Nat} {rt : Option FieldType} {a : Array Value} {s : State} {m : MethodId} {meth : Method} {c : Code} (h1 : s.methodNamed? y = some m) (h2 : s.vm.method? m = some meth) (h3 : meth.code = some c) (h4 : c.code = bytes)
    (h5 : (c.maxLocals == mx && c.exceptionTable.isEmpty && decide (c.maxStack ≤ mostOperands) && decide (meth.sig.returnType = rt) && !meth.locks && decide (parseMethodDescriptor y.desc = some meth.sig)) = true) : (Jvm.Cond.code y bytes mx rt).before a s = true := by
  simp only [Bool.and_eq_true, beq_iff_eq, Bool.not_eq_true', decide_eq_true_eq] at h5
  obtain ⟨⟨⟨⟨⟨g1, g2⟩, g3⟩, g4⟩, g5⟩, g6⟩ := h5
  simp [Cond.before, Cond.holds, Cond.value, h1, h2, h3, h4, g1, g2, g3, g4, g5, g6]
def isCode : Jvm.Cond → Bool
  | .code _ _ _ _ => true
  | _ => false
theorem all_split {L : List Jvm.Cond} {P : Jvm.Cond → Bool} (h1 : L.all (fun c => isCode c || P c) = true) (h2 : ∀ c ∈ L.filter isCode, P c = true) : L.all P = true := by
  refine List.all_eq_true.mpr fun c hc => ?_
  have h := List.all_eq_true.mp h1 c hc
  rcases Bool.eq_false_or_eq_true (isCode c) with hi | hi
  · exact h2 c (List.mem_filter.mpr ⟨hc, hi⟩)
  · simpa [hi] using h
set_option maxRecDepth 65536 in
theorem w_c0 : (Jvm.Cond.code x code maxLocals ret).before args0 about1 = true := code_word (m := ⟨1, 1⟩) (meth := k1m1) (c := k1c1) (by decide +kernel) rfl rfl rfl (by decide +kernel)
set_option maxRecDepth 65536 in
theorem w_c1 : (Jvm.Cond.code ({ cls := "java/lang/String", name := "<init>", desc := "([C)V" } : Jvm.MethodName) jdk_42_method_3_code (2 : Nat) (Option.none : Option Jvm.ClassFile.FieldType)).before args0 about1 = true := code_word (m := ⟨9, 1⟩) (meth := k9m1) (c := k9c1) (by decide +kernel) rfl rfl rfl (by decide +kernel)
set_option maxRecDepth 65536 in
theorem w_c2 : (Jvm.Cond.code ({ cls := "java/lang/String", name := "<init>", desc := "([CIILjava/lang/Void;)V" } : Jvm.MethodName) jdk_42_method_149_code (6 : Nat) (Option.none : Option Jvm.ClassFile.FieldType)).before args0 about1 = true := code_word (m := ⟨9, 6⟩) (meth := k9m6) (c := k9c6) (by decide +kernel) rfl rfl rfl (by decide +kernel)
set_option maxRecDepth 65536 in
theorem w_c3 : (Jvm.Cond.code ({ cls := "java/lang/Object", name := "<init>", desc := "()V" } : Jvm.MethodName) object_method_1_code (1 : Nat) (Option.none : Option Jvm.ClassFile.FieldType)).before args0 about1 = true := code_word (m := ⟨0, 0⟩) (meth := k0m0) (c := k0c0) (by decide +kernel) rfl rfl rfl (by decide +kernel)
set_option maxRecDepth 65536 in
theorem w_c4 : (Jvm.Cond.code ({ cls := "java/lang/StringUTF16", name := "compress", desc := "([CII)[B" } : Jvm.MethodName) jdk_52_method_16_code (6 : Nat) (Option.some (Jvm.ClassFile.FieldType.array Jvm.ClassFile.FieldType.byte))).before args0 about1 = true := code_word (m := ⟨10, 2⟩) (meth := k10m2) (c := k10c2) (by decide +kernel) rfl rfl rfl (by decide +kernel)
set_option maxRecDepth 65536 in
theorem w_c5 : (Jvm.Cond.code ({ cls := "java/lang/StringUTF16", name := "compress", desc := "([CI[BII)I" } : Jvm.MethodName) jdk_52_method_21_code (7 : Nat) (Option.some Jvm.ClassFile.FieldType.int)).before args0 about1 = true := code_word (m := ⟨10, 3⟩) (meth := k10m3) (c := k10c3) (by decide +kernel) rfl rfl rfl (by decide +kernel)
set_option maxRecDepth 65536 in
theorem w_c6 : (Jvm.Cond.code ({ cls := "java/lang/StringUTF16", name := "coderFromArrayLen", desc := "([BI)B" } : Jvm.MethodName) jdk_52_method_15_code (2 : Nat) (Option.some Jvm.ClassFile.FieldType.byte)).before args0 about1 = true := code_word (m := ⟨10, 1⟩) (meth := k10m1) (c := k10c1) (by decide +kernel) rfl rfl rfl (by decide +kernel)
set_option maxRecDepth 65536 in
theorem w_c7 : (Jvm.Cond.code ({ cls := "com/example/frugal_orm/frugalorm/Dialect", name := "orderItems", desc := "(Ljava/lang/String;ZZ)Ljava/lang/String;" } : Jvm.MethodName) prog_7_method_6_code (6 : Nat) (Option.some (Jvm.ClassFile.FieldType.object "java/lang/String"))).before args0 about1 = true := code_word (m := ⟨6, 0⟩) (meth := k6m0) (c := k6c0) (by decide +kernel) rfl rfl rfl (by decide +kernel)
set_option maxRecDepth 65536 in
theorem w_c8 : (Jvm.Cond.code ({ cls := "java/lang/StringBuilder", name := "<init>", desc := "()V" } : Jvm.MethodName) jdk_67_method_1_code (1 : Nat) (Option.none : Option Jvm.ClassFile.FieldType)).before args0 about1 = true := code_word (m := ⟨13, 0⟩) (meth := k13m0) (c := k13c0) (by decide +kernel) rfl rfl rfl (by decide +kernel)
set_option maxRecDepth 65536 in
theorem w_c9 : (Jvm.Cond.code ({ cls := "java/lang/AbstractStringBuilder", name := "<init>", desc := "(I)V" } : Jvm.MethodName) jdk_68_method_2_code (2 : Nat) (Option.none : Option Jvm.ClassFile.FieldType)).before args0 about1 = true := code_word (m := ⟨12, 1⟩) (meth := k12m1) (c := k12c1) (by decide +kernel) rfl rfl rfl (by decide +kernel)
set_option maxRecDepth 65536 in
theorem w_c10 : (Jvm.Cond.code ({ cls := "java/lang/StringBuilder", name := "append", desc := "(Ljava/lang/String;)Ljava/lang/StringBuilder;" } : Jvm.MethodName) jdk_67_method_7_code (2 : Nat) (Option.some (Jvm.ClassFile.FieldType.object "java/lang/StringBuilder"))).before args0 about1 = true := code_word (m := ⟨13, 1⟩) (meth := k13m1) (c := k13c1) (by decide +kernel) rfl rfl rfl (by decide +kernel)
set_option maxRecDepth 65536 in
theorem w_c11 : (Jvm.Cond.code ({ cls := "java/lang/AbstractStringBuilder", name := "append", desc := "(Ljava/lang/String;)Ljava/lang/AbstractStringBuilder;" } : Jvm.MethodName) jdk_68_method_22_code (3 : Nat) (Option.some (Jvm.ClassFile.FieldType.object "java/lang/AbstractStringBuilder"))).before args0 about1 = true := code_word (m := ⟨12, 5⟩) (meth := k12m5) (c := k12c5) (by decide +kernel) rfl rfl rfl (by decide +kernel)
set_option maxRecDepth 65536 in
theorem w_c12 : (Jvm.Cond.code ({ cls := "java/lang/String", name := "length", desc := "()I" } : Jvm.MethodName) jdk_42_method_54_code (1 : Nat) (Option.some Jvm.ClassFile.FieldType.int)).before args0 about1 = true := code_word (m := ⟨9, 3⟩) (meth := k9m3) (c := k9c3) (by decide +kernel) rfl rfl rfl (by decide +kernel)
set_option maxRecDepth 65536 in
theorem w_c13 : (Jvm.Cond.code ({ cls := "java/lang/String", name := "coder", desc := "()B" } : Jvm.MethodName) jdk_42_method_152_code (1 : Nat) (Option.some Jvm.ClassFile.FieldType.byte)).before args0 about1 = true := code_word (m := ⟨9, 8⟩) (meth := k9m8) (c := k9c8) (by decide +kernel) rfl rfl rfl (by decide +kernel)
set_option maxRecDepth 65536 in
theorem w_c14 : (Jvm.Cond.code ({ cls := "java/lang/AbstractStringBuilder", name := "ensureCapacityInternal", desc := "(I)V" } : Jvm.MethodName) jdk_68_method_9_code (3 : Nat) (Option.none : Option Jvm.ClassFile.FieldType)).before args0 about1 = true := code_word (m := ⟨12, 3⟩) (meth := k12m3) (c := k12c3) (by decide +kernel) rfl rfl rfl (by decide +kernel)
set_option maxRecDepth 65536 in
theorem w_c15 : (Jvm.Cond.code ({ cls := "java/lang/AbstractStringBuilder", name := "putStringAt", desc := "(ILjava/lang/String;)V" } : Jvm.MethodName) jdk_68_method_73_code (3 : Nat) (Option.none : Option Jvm.ClassFile.FieldType)).before args0 about1 = true := code_word (m := ⟨12, 9⟩) (meth := k12m9) (c := k12c9) (by decide +kernel) rfl rfl rfl (by decide +kernel)
set_option maxRecDepth 65536 in
theorem w_c16 : (Jvm.Cond.code ({ cls := "java/lang/AbstractStringBuilder", name := "inflateIfNeededFor", desc := "(Ljava/lang/String;)V" } : Jvm.MethodName) jdk_68_method_71_code (2 : Nat) (Option.none : Option Jvm.ClassFile.FieldType)).before args0 about1 = true := code_word (m := ⟨12, 8⟩) (meth := k12m8) (c := k12c8) (by decide +kernel) rfl rfl rfl (by decide +kernel)
set_option maxRecDepth 65536 in
theorem w_c17 : (Jvm.Cond.code ({ cls := "java/lang/String", name := "getBytes", desc := "([BIB)V" } : Jvm.MethodName) jdk_42_method_147_code (4 : Nat) (Option.none : Option Jvm.ClassFile.FieldType)).before args0 about1 = true := code_word (m := ⟨9, 5⟩) (meth := k9m5) (c := k9c5) (by decide +kernel) rfl rfl rfl (by decide +kernel)
set_option maxRecDepth 65536 in
theorem w_c18 : (Jvm.Cond.code ({ cls := "java/lang/StringBuilder", name := "toString", desc := "()Ljava/lang/String;" } : Jvm.MethodName) jdk_67_method_42_code (1 : Nat) (Option.some (Jvm.ClassFile.FieldType.object "java/lang/String"))).before args0 about1 = true := code_word (m := ⟨13, 2⟩) (meth := k13m2) (c := k13c2) (by decide +kernel) rfl rfl rfl (by decide +kernel)
set_option maxRecDepth 65536 in
theorem w_c19 : (Jvm.Cond.code ({ cls := "java/lang/String", name := "<init>", desc := "(Ljava/lang/StringBuilder;)V" } : Jvm.MethodName) jdk_42_method_53_code (2 : Nat) (Option.none : Option Jvm.ClassFile.FieldType)).before args0 about1 = true := code_word (m := ⟨9, 2⟩) (meth := k9m2) (c := k9c2) (by decide +kernel) rfl rfl rfl (by decide +kernel)
set_option maxRecDepth 65536 in
theorem w_c20 : (Jvm.Cond.code ({ cls := "java/lang/String", name := "<init>", desc := "(Ljava/lang/AbstractStringBuilder;Ljava/lang/Void;)V" } : Jvm.MethodName) jdk_42_method_150_code (5 : Nat) (Option.none : Option Jvm.ClassFile.FieldType)).before args0 about1 = true := code_word (m := ⟨9, 7⟩) (meth := k9m7) (c := k9c7) (by decide +kernel) rfl rfl rfl (by decide +kernel)
set_option maxRecDepth 65536 in
theorem w_c21 : (Jvm.Cond.code ({ cls := "java/lang/AbstractStringBuilder", name := "getValue", desc := "()[B" } : Jvm.MethodName) jdk_68_method_64_code (1 : Nat) (Option.some (Jvm.ClassFile.FieldType.array Jvm.ClassFile.FieldType.byte))).before args0 about1 = true := code_word (m := ⟨12, 6⟩) (meth := k12m6) (c := k12c6) (by decide +kernel) rfl rfl rfl (by decide +kernel)
set_option maxRecDepth 65536 in
theorem w_c22 : (Jvm.Cond.code ({ cls := "java/lang/StringBuilder", name := "length", desc := "()I" } : Jvm.MethodName) jdk_67_method_93_code (1 : Nat) (Option.some Jvm.ClassFile.FieldType.int)).before args0 about1 = true := code_word (m := ⟨13, 3⟩) (meth := k13m3) (c := k13c3) (by decide +kernel) rfl rfl rfl (by decide +kernel)
set_option maxRecDepth 65536 in
theorem w_c23 : (Jvm.Cond.code ({ cls := "java/lang/AbstractStringBuilder", name := "length", desc := "()I" } : Jvm.MethodName) jdk_68_method_6_code (1 : Nat) (Option.some Jvm.ClassFile.FieldType.int)).before args0 about1 = true := code_word (m := ⟨12, 2⟩) (meth := k12m2) (c := k12c2) (by decide +kernel) rfl rfl rfl (by decide +kernel)
set_option maxRecDepth 65536 in
theorem w_c24 : (Jvm.Cond.code ({ cls := "java/lang/AbstractStringBuilder", name := "isLatin1", desc := "()Z" } : Jvm.MethodName) jdk_68_method_68_code (1 : Nat) (Option.some Jvm.ClassFile.FieldType.boolean)).before args0 about1 = true := code_word (m := ⟨12, 7⟩) (meth := k12m7) (c := k12c7) (by decide +kernel) rfl rfl rfl (by decide +kernel)
set_option maxRecDepth 65536 in
theorem w_c25 : (Jvm.Cond.code ({ cls := "java/util/Arrays", name := "copyOfRange", desc := "([BII)[B" } : Jvm.MethodName) jdk_65_method_132_code (3 : Nat) (Option.some (Jvm.ClassFile.FieldType.array Jvm.ClassFile.FieldType.byte))).before args0 about1 = true := code_word (m := ⟨15, 3⟩) (meth := k15m3) (c := k15c3) (by decide +kernel) rfl rfl rfl (by decide +kernel)
set_option maxRecDepth 65536 in
theorem w_c26 : (Jvm.Cond.code ({ cls := "java/util/Arrays", name := "copyOfRangeByte", desc := "([BII)[B" } : Jvm.MethodName) jdk_65_method_133_code (5 : Nat) (Option.some (Jvm.ClassFile.FieldType.array Jvm.ClassFile.FieldType.byte))).before args0 about1 = true := code_word (m := ⟨15, 4⟩) (meth := k15m4) (c := k15c4) (by decide +kernel) rfl rfl rfl (by decide +kernel)
set_option maxRecDepth 65536 in
theorem w_c27 : (Jvm.Cond.code ({ cls := "java/util/Arrays", name := "checkLength", desc := "(II)V" } : Jvm.MethodName) jdk_65_method_131_code (2 : Nat) (Option.none : Option Jvm.ClassFile.FieldType)).before args0 about1 = true := code_word (m := ⟨15, 2⟩) (meth := k15m2) (c := k15c2) (by decide +kernel) rfl rfl rfl (by decide +kernel)
set_option maxRecDepth 65536 in
theorem w_c28 : (Jvm.Cond.code ({ cls := "java/lang/Math", name := "min", desc := "(II)I" } : Jvm.MethodName) jdk_29_method_69_code (2 : Nat) (Option.some Jvm.ClassFile.FieldType.int)).before args0 about1 = true := code_word (m := ⟨16, 2⟩) (meth := k16m2) (c := k16c2) (by decide +kernel) rfl rfl rfl (by decide +kernel)
set_option maxRecDepth 65536 in
theorem w_c29 : (Jvm.Cond.code ({ cls := "java/lang/String", name := "equals", desc := "(Ljava/lang/Object;)Z" } : Jvm.MethodName) jdk_42_method_66_code (3 : Nat) (Option.some Jvm.ClassFile.FieldType.boolean)).before args0 about1 = true := code_word (m := ⟨9, 4⟩) (meth := k9m4) (c := k9c4) (by decide +kernel) rfl rfl rfl (by decide +kernel)
set_option maxRecDepth 65536 in
theorem w_c30 : (Jvm.Cond.code ({ cls := "java/lang/StringLatin1", name := "equals", desc := "([B[B)Z" } : Jvm.MethodName) jdk_43_method_13_code (3 : Nat) (Option.some Jvm.ClassFile.FieldType.boolean)).before args0 about1 = true := code_word (m := ⟨17, 1⟩) (meth := k17m1) (c := k17c1) (by decide +kernel) rfl rfl rfl (by decide +kernel)
set_option maxRecDepth 65536 in
theorem w_c31 : (Jvm.Cond.code ({ cls := "java/lang/AbstractStringBuilder", name := "newCapacity", desc := "(I)I" } : Jvm.MethodName) jdk_68_method_10_code (6 : Nat) (Option.some Jvm.ClassFile.FieldType.int)).before args0 about1 = true := code_word (m := ⟨12, 4⟩) (meth := k12m4) (c := k12c4) (by decide +kernel) rfl rfl rfl (by decide +kernel)
set_option maxRecDepth 65536 in
theorem w_c32 : (Jvm.Cond.code ({ cls := "jdk/internal/util/ArraysSupport", name := "newLength", desc := "(III)I" } : Jvm.MethodName) jdk_48_method_27_code (4 : Nat) (Option.some Jvm.ClassFile.FieldType.int)).before args0 about1 = true := code_word (m := ⟨18, 1⟩) (meth := k18m1) (c := k18c1) (by decide +kernel) rfl rfl rfl (by decide +kernel)
set_option maxRecDepth 65536 in
theorem w_c33 : (Jvm.Cond.code ({ cls := "java/lang/Math", name := "max", desc := "(II)I" } : Jvm.MethodName) jdk_29_method_65_code (2 : Nat) (Option.some Jvm.ClassFile.FieldType.int)).before args0 about1 = true := code_word (m := ⟨16, 1⟩) (meth := k16m1) (c := k16c1) (by decide +kernel) rfl rfl rfl (by decide +kernel)
set_option maxRecDepth 65536 in
theorem w_c34 : (Jvm.Cond.code ({ cls := "java/util/Arrays", name := "copyOf", desc := "([BI)[B" } : Jvm.MethodName) jdk_65_method_121_code (3 : Nat) (Option.some (Jvm.ClassFile.FieldType.array Jvm.ClassFile.FieldType.byte))).before args0 about1 = true := code_word (m := ⟨15, 1⟩) (meth := k15m1) (c := k15c1) (by decide +kernel) rfl rfl rfl (by decide +kernel)
def codes1 : List Jvm.Cond := [Jvm.Cond.code x code maxLocals ret, Jvm.Cond.code ({ cls := "java/lang/String", name := "<init>", desc := "([C)V" } : Jvm.MethodName) jdk_42_method_3_code (2 : Nat) (Option.none : Option Jvm.ClassFile.FieldType), Jvm.Cond.code ({ cls := "java/lang/String", name := "<init>", desc := "([CIILjava/lang/Void;)V" } : Jvm.MethodName) jdk_42_method_149_code (6 : Nat) (Option.none : Option Jvm.ClassFile.FieldType), Jvm.Cond.code ({ cls := "java/lang/Object", name := "<init>", desc := "()V" } : Jvm.MethodName) object_method_1_code (1 : Nat) (Option.none : Option Jvm.ClassFile.FieldType), Jvm.Cond.code ({ cls := "java/lang/StringUTF16", name := "compress", desc := "([CII)[B" } : Jvm.MethodName) jdk_52_method_16_code (6 : Nat) (Option.some (Jvm.ClassFile.FieldType.array Jvm.ClassFile.FieldType.byte)), Jvm.Cond.code ({ cls := "java/lang/StringUTF16", name := "compress", desc := "([CI[BII)I" } : Jvm.MethodName) jdk_52_method_21_code (7 : Nat) (Option.some Jvm.ClassFile.FieldType.int), Jvm.Cond.code ({ cls := "java/lang/StringUTF16", name := "coderFromArrayLen", desc := "([BI)B" } : Jvm.MethodName) jdk_52_method_15_code (2 : Nat) (Option.some Jvm.ClassFile.FieldType.byte), Jvm.Cond.code ({ cls := "com/example/frugal_orm/frugalorm/Dialect", name := "orderItems", desc := "(Ljava/lang/String;ZZ)Ljava/lang/String;" } : Jvm.MethodName) prog_7_method_6_code (6 : Nat) (Option.some (Jvm.ClassFile.FieldType.object "java/lang/String")), Jvm.Cond.code ({ cls := "java/lang/StringBuilder", name := "<init>", desc := "()V" } : Jvm.MethodName) jdk_67_method_1_code (1 : Nat) (Option.none : Option Jvm.ClassFile.FieldType), Jvm.Cond.code ({ cls := "java/lang/AbstractStringBuilder", name := "<init>", desc := "(I)V" } : Jvm.MethodName) jdk_68_method_2_code (2 : Nat) (Option.none : Option Jvm.ClassFile.FieldType), Jvm.Cond.code ({ cls := "java/lang/StringBuilder", name := "append", desc := "(Ljava/lang/String;)Ljava/lang/StringBuilder;" } : Jvm.MethodName) jdk_67_method_7_code (2 : Nat) (Option.some (Jvm.ClassFile.FieldType.object "java/lang/StringBuilder")), Jvm.Cond.code ({ cls := "java/lang/AbstractStringBuilder", name := "append", desc := "(Ljava/lang/String;)Ljava/lang/AbstractStringBuilder;" } : Jvm.MethodName) jdk_68_method_22_code (3 : Nat) (Option.some (Jvm.ClassFile.FieldType.object "java/lang/AbstractStringBuilder")), Jvm.Cond.code ({ cls := "java/lang/String", name := "length", desc := "()I" } : Jvm.MethodName) jdk_42_method_54_code (1 : Nat) (Option.some Jvm.ClassFile.FieldType.int), Jvm.Cond.code ({ cls := "java/lang/String", name := "coder", desc := "()B" } : Jvm.MethodName) jdk_42_method_152_code (1 : Nat) (Option.some Jvm.ClassFile.FieldType.byte), Jvm.Cond.code ({ cls := "java/lang/AbstractStringBuilder", name := "ensureCapacityInternal", desc := "(I)V" } : Jvm.MethodName) jdk_68_method_9_code (3 : Nat) (Option.none : Option Jvm.ClassFile.FieldType), Jvm.Cond.code ({ cls := "java/lang/AbstractStringBuilder", name := "putStringAt", desc := "(ILjava/lang/String;)V" } : Jvm.MethodName) jdk_68_method_73_code (3 : Nat) (Option.none : Option Jvm.ClassFile.FieldType), Jvm.Cond.code ({ cls := "java/lang/AbstractStringBuilder", name := "inflateIfNeededFor", desc := "(Ljava/lang/String;)V" } : Jvm.MethodName) jdk_68_method_71_code (2 : Nat) (Option.none : Option Jvm.ClassFile.FieldType), Jvm.Cond.code ({ cls := "java/lang/String", name := "getBytes", desc := "([BIB)V" } : Jvm.MethodName) jdk_42_method_147_code (4 : Nat) (Option.none : Option Jvm.ClassFile.FieldType), Jvm.Cond.code ({ cls := "java/lang/StringBuilder", name := "toString", desc := "()Ljava/lang/String;" } : Jvm.MethodName) jdk_67_method_42_code (1 : Nat) (Option.some (Jvm.ClassFile.FieldType.object "java/lang/String")), Jvm.Cond.code ({ cls := "java/lang/String", name := "<init>", desc := "(Ljava/lang/StringBuilder;)V" } : Jvm.MethodName) jdk_42_method_53_code (2 : Nat) (Option.none : Option Jvm.ClassFile.FieldType), Jvm.Cond.code ({ cls := "java/lang/String", name := "<init>", desc := "(Ljava/lang/AbstractStringBuilder;Ljava/lang/Void;)V" } : Jvm.MethodName) jdk_42_method_150_code (5 : Nat) (Option.none : Option Jvm.ClassFile.FieldType), Jvm.Cond.code ({ cls := "java/lang/AbstractStringBuilder", name := "getValue", desc := "()[B" } : Jvm.MethodName) jdk_68_method_64_code (1 : Nat) (Option.some (Jvm.ClassFile.FieldType.array Jvm.ClassFile.FieldType.byte)), Jvm.Cond.code ({ cls := "java/lang/StringBuilder", name := "length", desc := "()I" } : Jvm.MethodName) jdk_67_method_93_code (1 : Nat) (Option.some Jvm.ClassFile.FieldType.int), Jvm.Cond.code ({ cls := "java/lang/AbstractStringBuilder", name := "length", desc := "()I" } : Jvm.MethodName) jdk_68_method_6_code (1 : Nat) (Option.some Jvm.ClassFile.FieldType.int), Jvm.Cond.code ({ cls := "java/lang/AbstractStringBuilder", name := "isLatin1", desc := "()Z" } : Jvm.MethodName) jdk_68_method_68_code (1 : Nat) (Option.some Jvm.ClassFile.FieldType.boolean), Jvm.Cond.code ({ cls := "java/util/Arrays", name := "copyOfRange", desc := "([BII)[B" } : Jvm.MethodName) jdk_65_method_132_code (3 : Nat) (Option.some (Jvm.ClassFile.FieldType.array Jvm.ClassFile.FieldType.byte)), Jvm.Cond.code ({ cls := "java/util/Arrays", name := "copyOfRangeByte", desc := "([BII)[B" } : Jvm.MethodName) jdk_65_method_133_code (5 : Nat) (Option.some (Jvm.ClassFile.FieldType.array Jvm.ClassFile.FieldType.byte)), Jvm.Cond.code ({ cls := "java/util/Arrays", name := "checkLength", desc := "(II)V" } : Jvm.MethodName) jdk_65_method_131_code (2 : Nat) (Option.none : Option Jvm.ClassFile.FieldType), Jvm.Cond.code ({ cls := "java/lang/Math", name := "min", desc := "(II)I" } : Jvm.MethodName) jdk_29_method_69_code (2 : Nat) (Option.some Jvm.ClassFile.FieldType.int), Jvm.Cond.code ({ cls := "java/lang/String", name := "equals", desc := "(Ljava/lang/Object;)Z" } : Jvm.MethodName) jdk_42_method_66_code (3 : Nat) (Option.some Jvm.ClassFile.FieldType.boolean), Jvm.Cond.code ({ cls := "java/lang/StringLatin1", name := "equals", desc := "([B[B)Z" } : Jvm.MethodName) jdk_43_method_13_code (3 : Nat) (Option.some Jvm.ClassFile.FieldType.boolean), Jvm.Cond.code ({ cls := "java/lang/AbstractStringBuilder", name := "newCapacity", desc := "(I)I" } : Jvm.MethodName) jdk_68_method_10_code (6 : Nat) (Option.some Jvm.ClassFile.FieldType.int), Jvm.Cond.code ({ cls := "jdk/internal/util/ArraysSupport", name := "newLength", desc := "(III)I" } : Jvm.MethodName) jdk_48_method_27_code (4 : Nat) (Option.some Jvm.ClassFile.FieldType.int), Jvm.Cond.code ({ cls := "java/lang/Math", name := "max", desc := "(II)I" } : Jvm.MethodName) jdk_29_method_65_code (2 : Nat) (Option.some Jvm.ClassFile.FieldType.int), Jvm.Cond.code ({ cls := "java/util/Arrays", name := "copyOf", desc := "([BI)[B" } : Jvm.MethodName) jdk_65_method_121_code (3 : Nat) (Option.some (Jvm.ClassFile.FieldType.array Jvm.ClassFile.FieldType.byte))]
set_option maxRecDepth 65536 in
theorem codes_eq : words1.filter isCode = codes1 := rfl
theorem w_codes : ∀ c ∈ words1.filter isCode, c.before args0 about1 = true := by
  rw [codes_eq]
  intro c hc
  simp only [codes1, List.mem_cons, List.not_mem_nil, or_false] at hc
  rcases hc with rfl | rfl | rfl | rfl | rfl | rfl | rfl | rfl | rfl | rfl | rfl | rfl | rfl | rfl | rfl | rfl | rfl | rfl | rfl | rfl | rfl | rfl | rfl | rfl | rfl | rfl | rfl | rfl | rfl | rfl | rfl | rfl | rfl | rfl | rfl
  · exact w_c0
  · exact w_c1
  · exact w_c2
  · exact w_c3
  · exact w_c4
  · exact w_c5
  · exact w_c6
  · exact w_c7
  · exact w_c8
  · exact w_c9
  · exact w_c10
  · exact w_c11
  · exact w_c12
  · exact w_c13
  · exact w_c14
  · exact w_c15
  · exact w_c16
  · exact w_c17
  · exact w_c18
  · exact w_c19
  · exact w_c20
  · exact w_c21
  · exact w_c22
  · exact w_c23
  · exact w_c24
  · exact w_c25
  · exact w_c26
  · exact w_c27
  · exact w_c28
  · exact w_c29
  · exact w_c30
  · exact w_c31
  · exact w_c32
  · exact w_c33
  · exact w_c34
set_option maxRecDepth 65536 in
theorem w_t1 : (words1.take 24).all (fun c => isCode c || c.before args0 about1) = true := by decide +kernel
set_option maxRecDepth 65536 in
theorem w_t2 : ((words1.drop 24).take 24).all (fun c => isCode c || c.before args0 about1) = true := by decide +kernel
set_option maxRecDepth 65536 in
theorem w_t3 : (((words1.drop 24).drop 24).take 24).all (fun c => isCode c || c.before args0 about1) = true := by decide +kernel
set_option maxRecDepth 65536 in
theorem w_t4 : ((((words1.drop 24).drop 24).drop 24).take 24).all (fun c => isCode c || c.before args0 about1) = true := by decide +kernel
set_option maxRecDepth 65536 in
theorem w_t5 : (((((words1.drop 24).drop 24).drop 24).drop 24).take 24).all (fun c => isCode c || c.before args0 about1) = true := by decide +kernel
set_option maxRecDepth 65536 in
theorem w_t6 : ((((((words1.drop 24).drop 24).drop 24).drop 24).drop 24).take 24).all (fun c => isCode c || c.before args0 about1) = true := by decide +kernel
set_option maxRecDepth 65536 in
theorem w_t7 : (((((((words1.drop 24).drop 24).drop 24).drop 24).drop 24).drop 24).take 24).all (fun c => isCode c || c.before args0 about1) = true := by decide +kernel
set_option maxRecDepth 65536 in
theorem w_t8 : (((((((words1.drop 24).drop 24).drop 24).drop 24).drop 24).drop 24).drop 24).all (fun c => isCode c || c.before args0 about1) = true := by decide +kernel
theorem w_tables : (allAtoms (Jvm.Cond.code x code maxLocals ret :: tables_1)).before args0 about1 = true := by
  rw [allAtoms_all]
  show words1.all (fun c => c.before args0 about1) = true
  refine all_split ?_ w_codes
  rw [← List.take_append_drop 24 words1, List.all_append, w_t1, ← List.take_append_drop 24 (words1.drop 24), List.all_append, w_t2, ← List.take_append_drop 24 ((words1.drop 24).drop 24), List.all_append, w_t3, ← List.take_append_drop 24 (((words1.drop 24).drop 24).drop 24), List.all_append, w_t4, ← List.take_append_drop 24 ((((words1.drop 24).drop 24).drop 24).drop 24), List.all_append, w_t5, ← List.take_append_drop 24 (((((words1.drop 24).drop 24).drop 24).drop 24).drop 24), List.all_append, w_t6, ← List.take_append_drop 24 ((((((words1.drop 24).drop 24).drop 24).drop 24).drop 24).drop 24), List.all_append, w_t7, w_t8]
  rfl
set_option maxRecDepth 65536 in
theorem w_rest : rest_1_c.before args0 about1 = true := by decide +kernel
set_option maxRecDepth 65536 in
theorem w_case : (Jvm.Cond.and given_1 narrow_1).before args0 about1 = true := by decide +kernel
set_option maxRecDepth 65536 in
theorem w_consts : constsHeld consts_1 about1 := Jvm.Lit.constsHeldB_iff.mp (by decide +kernel)
theorem w_applies : (headSpec (Jvm.Cond.code x code maxLocals ret :: tables_1) room_1).applies x e0.platform about1 = true :=
  (Spec.applies_iff w_frames).mpr ⟨w_running, w_runnable, w_alone, w_named, w_hears, w_ripe, w_room, w_tables⟩
theorem atStart : AtStart classFile x code maxLocals ret World_1 tables_1 room_1 Calls_1 rest_1 Pre_1 launch0 p0 e0 about1 theMethod args0 below0 :=
  ⟨lists_1, trivial, launch0.admits_env _ _ _, launch0.least_env, fairChoices_fair.cas, fairChoices_fair.clock, w_frames, w_args, w_heap, w_applies, ⟨w_consts, trivial⟩, w_rest, w_case⟩
end start1
theorem witness_1 : WitnessClaimed_1 := ⟨start1.p0, start1.e0, start1.about1, start1.theMethod, start1.args0, start1.below0, start1.atStart⟩
end Jvm.Pilot.@@N@@
