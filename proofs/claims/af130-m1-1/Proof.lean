import JvmDerived
import JvmDerived.Pilot.@@N@@Statement
import JvmDerived.Pilot.@@N@@Code
set_option linter.unusedVariables false
set_option linter.unusedSimpArgs false
namespace Jvm.Own
open Jvm Jvm.ClassFile Sem Op Lib Jvm.Free Jvm.Stand Jvm.LawKit Jvm.RoadKit Bundle
section Walk
/-- from this frame the body comes to its end, and the end is as F says -/
def Endw (p : Program) (e : Env) (below : List Frame) (T : State) (g : JFrame) (F : Outcome → State → Prop) : Prop :=
  ∃ s₂ o, Steps p.tables e below (T.setTop g) s₂ ∧ s₂.status = .running ∧ Ended s₂ below o ∧ F o s₂
/-- where a walk stands: its surroundings, its state, the heap at hand, what it has spent -/
def Core (p : Program) (l : Launch) (e : Env) (R : Room) (s : State) (m : MethodId) (args : Array Value) (below : List Frame) (meth : Method) (c : Code) (bs : ByteArray) (ml : Nat) (ret : Option FieldType) (nm own : String) (Z : State) (a0 : Array Value) (EL : List (String × Nat)) (nw : Bool) (vm : Vm) (T : State) (h : Heap) (k n : Nat) : Prop :=
  (p.tables.exec = Jvm.exec ∧ c.code = bs ∧ c.maxLocals = ml ∧ meth.sig.returnType = ret ∧ meth.locks = false ∧ meth.name = nm ∧ EW Z a0 EL) ∧
  (∃ L, Stand p l e R (s.setVm vm) m args below meth c T L k n ∧ Fr Z.heap.size L) ∧ T.heap = h ∧ Z.Warmed39 vm ∧ vm.findClass own = some m.cls ∧ (∃ k0, s.Since vm k0 ∧ k0 ≤ h.size) ∧ CHr Z EL s.vm s.heap vm h ∧ Ext Z.heap h ∧ (nw = true → s.WarmedH vm ∧ ∀ y, Bk Z EL vm h y → Bk Z EL s.vm s.heap y)
/-- what a body leaves behind -/
def Fin (s : State) (Z : State) (EL : List (String × Nat)) (nw : Bool) (Q : Option Value → Heap → Prop) (K N : Nat) (o : Outcome) (U : State) : Prop :=
  ∃ v L, o = .returned v ∧ (Q v U.heap ∧ Fr Z.heap.size L ∧ Ext Z.heap U.heap) ∧ (CHr Z EL s.vm s.heap U.vm U.heap ∧ (nw = true → s.WarmedH U.vm ∧ ∀ y, Bk Z EL U.vm U.heap y → Bk Z EL s.vm s.heap y)) ∧ ReturnedEndW s o U L K N
/-- the contract of a body: the arguments, the heap at the call, the places that it may write though they be Strings or byte arrays, what comes back -/
def Met (l : Launch) (Z : State) (EL : List (String × Nat)) (nw : Bool) (y : MethodName) (bs : ByteArray) (ml : Nat) (ret : Option FieldType) (ws : List Jvm.Cond) (rm : Room) (as' : Array Value) (h : Heap) (xs : List Addr) (Q : Option Value → Heap → Prop) : Prop :=
  MetFree l y (head1 (Jvm.Cond.code y bs ml ret :: ws) rm) (fun a U => a = as' ∧ Z.Warmed39 U.vm ∧ U.heap = h ∧ CHv Z EL U.vm h ∧ ∀ x ∈ xs, Safe Z EL U.vm h x) (fun _ _ _ _ _ => True)
    (fun _ U o U' => Fin U Z EL nw Q rm.cells rm.slots o U')
variable {p : Program} {l : Launch} {e : Env} {R : Room} {s : State} {m : MethodId} {args : Array Value} {below : List Frame} {meth : Method} {c : Code}
variable {bs : ByteArray} {ml : Nat} {ret : Option FieldType} {nm own : String} {Z : State} {a0 : Array Value} {EL : List (String × Nat)} {nw : Bool} {vm : Vm} {T T' : State} {h h' : Heap} {k n k' n' : Nat} {F : Outcome → State → Prop} {pc pc' : Nat} {Ls : Array Slot} {rest : List Value} {g g' : JFrame} {Q : Option Value → Heap → Prop}
theorem Endw.st (q : ∀ t, Steps p.tables e below (T'.setTop g') t → Steps p.tables e below (T.setTop g) t) (E : Endw p e below T' g' F) : Endw p e below T g F := by
  obtain ⟨s₂, o, h1, h2⟩ := E; exact ⟨s₂, o, q _ h1, h2⟩
theorem Endw.ste (q : Steps p.tables e below (T.setTop g) (T'.setTop g')) (E : Endw p e below T' g' F) : Endw p e below T g F := Endw.st (fun _ r => q.trans r) E
theorem Endw.eq (q : g = g') (E : Endw p e below T g' F) : Endw p e below T g F := q ▸ E
section Reads
theorem Core.hx (C : Core p l e R s m args below meth c bs ml ret nm own Z a0 EL nw vm T h k n) : p.tables.exec = Jvm.exec := C.1.1
theorem Core.dec (C : Core p l e R s m args below meth c bs ml ret nm own Z a0 EL nw vm T h k n) {r : Except DecodeError (Instr × Nat)} (hd : decode bs pc = r) : decode c.code pc = r := hb C.1.2.1 hd
theorem Core.mlq (C : Core p l e R s m args below meth c bs ml ret nm own Z a0 EL nw vm T h k n) : c.maxLocals = ml := C.1.2.2.1
theorem Core.rtq (C : Core p l e R s m args below meth c bs ml ret nm own Z a0 EL nw vm T h k n) : meth.sig.returnType = ret := C.1.2.2.2.1
theorem Core.locks (C : Core p l e R s m args below meth c bs ml ret nm own Z a0 EL nw vm T h k n) : meth.locks = false := C.1.2.2.2.2.1
theorem Core.nam (C : Core p l e R s m args below meth c bs ml ret nm own Z a0 EL nw vm T h k n) : meth.name = nm := C.1.2.2.2.2.2.1
theorem Core.ew (C : Core p l e R s m args below meth c bs ml ret nm own Z a0 EL nw vm T h k n) : EW Z a0 EL := C.1.2.2.2.2.2.2
theorem Core.here (C : Core p l e R s m args below meth c bs ml ret nm own Z a0 EL nw vm T h k n) : At T m c below := by obtain ⟨-, ⟨_, X, -⟩, -⟩ := C; exact X.here
theorem Core.heq (C : Core p l e R s m args below meth c bs ml ret nm own Z a0 EL nw vm T h k n) : T.heap = h := C.2.2.1
theorem Core.warm (C : Core p l e R s m args below meth c bs ml ret nm own Z a0 EL nw vm T h k n) : Z.Warmed39 vm := C.2.2.2.1
theorem Core.hown (C : Core p l e R s m args below meth c bs ml ret nm own Z a0 EL nw vm T h k n) : vm.findClass own = some m.cls := C.2.2.2.2.1
theorem Core.since (C : Core p l e R s m args below meth c bs ml ret nm own Z a0 EL nw vm T h k n) : ∃ k0, s.Since vm k0 ∧ k0 ≤ h.size := C.2.2.2.2.2.1
theorem Core.chr (C : Core p l e R s m args below meth c bs ml ret nm own Z a0 EL nw vm T h k n) : CHr Z EL s.vm s.heap vm h := C.2.2.2.2.2.2.1
theorem Core.chv (C : Core p l e R s m args below meth c bs ml ret nm own Z a0 EL nw vm T h k n) : CHv Z EL vm h := C.chr.1
theorem Core.old (C : Core p l e R s m args below meth c bs ml ret nm own Z a0 EL nw vm T h k n) : Ext Z.heap h := C.2.2.2.2.2.2.2.1
theorem Core.nwm (C : Core p l e R s m args below meth c bs ml ret nm own Z a0 EL nw vm T h k n) : nw = true → s.WarmedH vm ∧ ∀ y, Bk Z EL vm h y → Bk Z EL s.vm s.heap y := C.2.2.2.2.2.2.2.2
theorem Core.le (C : Core p l e R s m args below meth c bs ml ret nm own Z a0 EL nw vm T h k n) : Z.heap.size ≤ h.size := C.old.1
end Reads
theorem CHr.step (A : CHr Z EL s.vm s.heap vm h) (B : CHr Z EL vm h vm h') : CHr Z EL s.vm s.heap vm h' := A.trans B
theorem old_keep {ws : List Addr} (O : Ext Z.heap h) (K : Keep h h' ws) (q : ∀ x ∈ ws, Z.heap.size ≤ x) : Ext Z.heap h' :=
  ⟨Nat.le_trans O.1 K.1, fun x c r => K.2.1 x c (O.2 x c r) fun z => absurd (Array.getElem?_eq_some_iff.mp r).1 (Nat.not_lt.mpr (q x z))⟩
theorem keep_of_ext (E : Ext h h') : Keep h h' [] := (Keep.refl h []).ext E
/-- the walk goes on with the same tables behind a step that keeps all but ws -/
theorem Core.on (C : Core p l e R s m args below meth c bs ml ret nm own Z a0 EL nw vm T h k n) {ws : List Addr} {L' : List Loc} (X' : Stand p l e R (s.setVm vm) m args below meth c T' L' k' n') (N : Fr Z.heap.size L') (e' : T'.heap = h') (K : Keep h h' ws) (q : ∀ x ∈ ws, Z.heap.size ≤ x) (S : ∀ x ∈ ws, Safe Z EL vm h x) :
    Core p l e R s m args below meth c bs ml ret nm own Z a0 EL nw vm T' h' k' n' :=
  ⟨C.1, ⟨L', X', N⟩, e', C.warm, C.hown, by obtain ⟨k0, h1, h2⟩ := C.since; exact ⟨k0, h1, Nat.le_trans h2 K.1⟩, CHr.step C.chr (CHr.keep K S C.chv), old_keep C.old K q, fun z => ⟨(C.nwm z).1, fun y b => (C.nwm z).2 y ((CHv.keepStep K S C.chv).2 y b)⟩⟩
theorem Core.same (C : Core p l e R s m args below meth c bs ml ret nm own Z a0 EL nw vm T h k n) {L' : List Loc} (X' : Stand p l e R (s.setVm vm) m args below meth c T' L' k' n') (N : Fr Z.heap.size L') (e' : T'.heap = h) :
    Core p l e R s m args below meth c bs ml ret nm own Z a0 EL nw vm T' h k' n' :=
  C.on (ws := []) X' N e' (Keep.refl _ _) all0 sf0
theorem Core.more (C : Core p l e R s m args below meth c bs ml ret nm own Z a0 EL nw vm T h k n) (hk : k ≤ k') (hn : n ≤ n') : Core p l e R s m args below meth c bs ml ret nm own Z a0 EL nw vm T h k' n' := by
  obtain ⟨h1, ⟨L, X, N⟩, r⟩ := C; exact ⟨h1, ⟨L, X.more hk hn, N⟩, r⟩
/-! ## steps -/
theorem Core.getF (C : Core p l e R s m args below meth c bs ml ret nm own Z a0 EL nw vm T h k n) {O nm' d : String} {ix : Nat} {a : Addr} {v : Value} (w : (Jvm.Cond.fieldLink own ix O nm' d).before a0 Z = true) (f : Fld Z h a O nm' d v) (hd : decode bs pc = .ok (.getfield ix, 3)) (hp : pc + 3 = pc')
    (K : ∀ T', Core p l e R s m args below meth c bs ml ret nm own Z a0 EL nw vm T' h k n → Endw p e below T' (mkF m pc' Ls (v :: rest)) F) : Endw p e below T (mkF m pc Ls (.ref a :: rest)) F := by
  subst hp
  obtain ⟨-, ⟨L, X, N⟩, -⟩ := id C
  obtain ⟨T', X', e', st⟩ := RoadKit.getF X C.hx C.warm C.hown (host := "") (Or.inl w) Via.refl C.heq f (g := mkF m pc Ls (.ref a :: rest)) rfl rfl (C.dec hd)
  exact Endw.st st (K T' (C.same X' N e'))
theorem Core.getFN (C : Core p l e R s m args below meth c bs ml ret nm own Z a0 EL nw vm T h k n) {O nm' d host : String} {ix : Nat} {a : Addr} {v : Value} (w : (Jvm.Cond.fieldLinkNest own ix O nm' d host).before a0 Z = true) (f : Fld Z h a O nm' d v) (hd : decode bs pc = .ok (.getfield ix, 3)) (hp : pc + 3 = pc')
    (K : ∀ T', Core p l e R s m args below meth c bs ml ret nm own Z a0 EL nw vm T' h k n → Endw p e below T' (mkF m pc' Ls (v :: rest)) F) : Endw p e below T (mkF m pc Ls (.ref a :: rest)) F := by
  subst hp
  obtain ⟨-, ⟨L, X, N⟩, -⟩ := id C
  obtain ⟨T', X', e', st⟩ := RoadKit.getF X C.hx C.warm C.hown (Or.inr w) Via.refl C.heq f (g := mkF m pc Ls (.ref a :: rest)) rfl rfl (C.dec hd)
  exact Endw.st st (K T' (C.same X' N e'))
theorem Core.getFV (C : Core p l e R s m args below meth c bs ml ret nm own Z a0 EL nw vm T h k n) {R0 O nm' d : String} {ix : Nat} {a : Addr} {v : Value} (w : (Jvm.Cond.fieldLink own ix R0 nm' d).before a0 Z = true) (via : Via Z R0 O nm' d) (f : Fld Z h a O nm' d v) (hd : decode bs pc = .ok (.getfield ix, 3)) (hp : pc + 3 = pc')
    (K : ∀ T', Core p l e R s m args below meth c bs ml ret nm own Z a0 EL nw vm T' h k n → Endw p e below T' (mkF m pc' Ls (v :: rest)) F) : Endw p e below T (mkF m pc Ls (.ref a :: rest)) F := by
  subst hp
  obtain ⟨-, ⟨L, X, N⟩, -⟩ := id C
  obtain ⟨T', X', e', st⟩ := RoadKit.getF X C.hx C.warm C.hown (host := "") (Or.inl w) via C.heq f (g := mkF m pc Ls (.ref a :: rest)) rfl rfl (C.dec hd)
  exact Endw.st st (K T' (C.same X' N e'))
theorem Core.getS (C : Core p l e R s m args below meth c bs ml ret nm own Z a0 EL nw vm T h k n) {O nm' d : String} {ix : Nat} {v : Value} (w : (Jvm.Cond.fieldLink own ix O nm' d).before a0 Z = true) (f : Sta Z Z.heap O nm' d v) (hd : decode bs pc = .ok (.getstatic ix, 3)) (hp : pc + 3 = pc')
    (K : ∀ T', Core p l e R s m args below meth c bs ml ret nm own Z a0 EL nw vm T' h k n → Endw p e below T' (mkF m pc' Ls (v :: rest)) F) : Endw p e below T (mkF m pc Ls rest) F := by
  subst hp
  obtain ⟨-, ⟨L, X, N⟩, -⟩ := id C
  obtain ⟨T', X', e', st⟩ := RoadKit.getS X C.hx C.warm C.hown (host := "") w Via.refl C.heq (f.ext C.old) (g := mkF m pc Ls rest) rfl (C.dec hd)
  exact Endw.st st (K T' (C.same X' N e'))
theorem Core.putF (C : Core p l e R s m args below meth c bs ml ret nm own Z a0 EL nw vm T h k n) {O nm' d Cl : String} {ix kk : Nat} {a : Addr} {v old : Value} {ty : FieldType} (w : (Jvm.Cond.fieldLink own ix O nm' d).before a0 Z = true) (f : Fld Z h a O nm' d old) (E : Exa Z h a Cl) (la : (Jvm.Cond.lays Cl O nm' d).before a0 Z = true ∨ ((Jvm.Cond.laysFinal Cl O nm' d).before a0 Z = true ∧ own = O ∧ nm = "<init>")) (wi : (Jvm.Cond.instantiable Cl kk).before a0 Z = true)
    (hty : parseFieldDescriptor d = some ty) (hn : narrow ty v = v) (hf : fits ty v = true) (ge : Z.heap.size ≤ a) (sf : Safe Z EL vm h a) (hd : decode bs pc = .ok (.putfield ix, 3)) (hp : pc + 3 = pc')
    (K : ∀ T' h', Core p l e R s m args below meth c bs ml ret nm own Z a0 EL nw vm T' h' k n → Keep h h' [a] → CHr Z EL vm h vm h' → Wr h h' a (RoadKit.slotOf Z O nm' d) v → Endw p e below T' (mkF m pc' Ls rest) F) : Endw p e below T (mkF m pc Ls (v :: .ref a :: rest)) F := by
  subst hp
  obtain ⟨-, ⟨L, X, N⟩, -⟩ := id C
  obtain ⟨T', h', X', e', W, st⟩ := RoadKit.putF X C.hx C.warm C.hown (host := "") (Or.inl w) Via.refl C.heq f E (la.imp id fun q => ⟨q.1, q.2.1, C.nam.trans q.2.2⟩) wi hty hn hf (g := mkF m pc Ls (v :: .ref a :: rest)) rfl rfl (C.dec hd)
  exact Endw.st st (K T' h' (C.on (ws := [a]) X' (N.app fun y hy => by cases List.mem_singleton.mp hy; exact ge) e' (Keep.of_wr W) (allS ge all0) (sfS sf sf0)) (Keep.of_wr W) (CHr.keep (Keep.of_wr W) (sfS sf sf0) C.chv) W)
theorem Core.new (C : Core p l e R s m args below meth c bs ml ret nm own Z a0 EL nw vm T h k n) {Cl : String} {ix nn : Nat} (w : (Jvm.Cond.classLink own ix Cl).before a0 Z = true) (wi : (Jvm.Cond.instantiable Cl nn).before a0 Z = true) (wz : (Jvm.Cond.initialized Cl).before a0 Z = true) (hd : decode bs pc = .ok (.new ix, 3)) (hp : pc + 3 = pc') (hk : k + 1 ≤ R.cells) (hn : n + nn ≤ R.slots)
    (K : ∀ T' h' x, Core p l e R s m args below meth c bs ml ret nm own Z a0 EL nw vm T' h' (k + 1) (n + nn) → Keep h h' [] → CHr Z EL vm h vm h' → h.size ≤ x → Z.heap.size ≤ x → Exa Z h' x Cl → (∀ {O nm d : String} {ty : FieldType}, Laid Z a0 Cl O nm d → parseFieldDescriptor d = some ty → Fld Z h' x O nm d (defaultValue ty)) → Safe Z EL vm h' x → Endw p e below T' (mkF m pc' Ls (.ref x :: rest)) F) : Endw p e below T (mkF m pc Ls rest) F := by
  subst hp
  obtain ⟨-, ⟨L, X, N⟩, -⟩ := id C
  obtain ⟨T', h', X', e', E, A, D, -, st⟩ := RoadKit.newO X C.hx C.warm C.hown w wi wz C.heq (g := mkF m pc Ls rest) rfl (C.dec hd) hk hn
  exact Endw.st st (K T' h' h.size (C.on (ws := []) X' N e' (keep_of_ext E) all0 sf0) (keep_of_ext E) (CHr.keep (keep_of_ext E) sf0 C.chv) (Nat.le_refl _) C.le A D (Safe.ext E C.chv (Safe.new (Nat.le_refl _))))
theorem Core.newA (C : Core p l e R s m args below meth c bs ml ret nm own Z a0 EL nw vm T h k n) {aty : ArrayType} {z : Int32} {cap : Nat} {vs : List Value} (w : (Jvm.Cond.arrayClass (newarray.typeOf aty)).before a0 Z = true) (hd : decode bs pc = .ok (.newarray aty, 2)) (hp : pc + 2 = pc') (hz : ¬ z < 0) (hcap : z.toNatClampNeg ≤ cap) (hb : cap * 8 ≤ 536870912) (hk : k + 1 ≤ R.cells) (hn : n + cap ≤ R.slots) (hvs : vs = List.replicate vs.length (defaultValue (newarray.typeOf aty)))
    (K : ∀ T' h' x kA, Core p l e R s m args below meth c bs ml ret nm own Z a0 EL nw vm T' h' (k + 1) (n + cap) → Keep h h' [] → CHr Z EL vm h vm h' → h.size ≤ x → Z.heap.size ≤ x → Arv Z h' x kA (newarray.typeOf aty) z vs (defaultValue (newarray.typeOf aty)) → Safe Z EL vm h' x → Endw p e below T' (mkF m pc' Ls (.ref x :: rest)) F) : Endw p e below T (mkF m pc Ls (.int z :: rest)) F := by
  subst hp
  obtain ⟨-, ⟨L, X, N⟩, -⟩ := id C
  obtain ⟨T', h', cA, X', e', E, A, st⟩ := RoadKit.newP X C.hx C.warm w C.heq (g := mkF m pc Ls (.int z :: rest)) rfl (C.dec hd) rfl hz hcap hb hk hn
  have q := (Arv.new A hz).pad (vs' := [] ++ List.replicate vs.length (defaultValue (newarray.typeOf aty))) (pad_rep _ _ _)
  rw [List.nil_append, ← hvs] at q
  exact Endw.st st (K T' h' h.size cA (C.on (ws := []) X' N e' (keep_of_ext E) all0 sf0) (keep_of_ext E) (CHr.keep (keep_of_ext E) sf0 C.chv) (Nat.le_refl _) C.le q (Safe.ext E C.chv (Safe.new (Nat.le_refl _))))
theorem Core.len (C : Core p l e R s m args below meth c bs ml ret nm own Z a0 EL nw vm T h k n) {a : Addr} {kA : ClassId} {ty : FieldType} {z : Int32} {vs : List Value} {dv : Value} (A : Arv Z h a kA ty z vs dv) (hd : decode bs pc = .ok (.arraylength, 1)) (hp : pc + 1 = pc')
    (K : Endw p e below T (mkF m pc' Ls (.int z :: rest)) F) : Endw p e below T (mkF m pc Ls (.ref a :: rest)) F := by
  subst hp
  obtain ⟨-, ⟨L, X, N⟩, -⟩ := id C
  obtain ⟨cl, Ar, -, S, hz, -⟩ := A
  refine Endw.st (fun t r => X.arraylength C.hx (by rw [C.heq]; exact Ar.1) (State.isArrayOf_alike C.warm.alike Ar.2.1) (g := mkF m pc Ls (.ref a :: rest)) rfl rfl (C.dec hd) t r) ?_
  rw [len_of S hz]; exact K
theorem Core.caload (C : Core p l e R s m args below meth c bs ml ret nm own Z a0 EL nw vm T h k n) {a : Addr} {kA : ClassId} {z j : Int32} {vs : List Value} {dv v : Value} (A : Arv Z h a kA .char z vs dv) (hj : ¬ j < 0 ∧ j < z) (hv : vs.getD j.toNatClampNeg dv = v) (hd : decode bs pc = .ok (.caload, 1)) (hp : pc + 1 = pc')
    (K : Endw p e below T (mkF m pc' Ls (v :: rest)) F) : Endw p e below T (mkF m pc Ls (.int j :: .ref a :: rest)) F := by
  subst hp
  obtain ⟨-, ⟨L, X, N⟩, -⟩ := id C
  obtain ⟨cl, Ar, -, S, hz, H, -⟩ := A
  exact Endw.st (fun t r => X.caload C.hx (by rw [C.heq]; exact Ar.1) (State.isArrayOf_alike C.warm.alike Ar.2.1) Ar.2.2 (inb_of S hj) (H.at (inb_of S hj) hv) (g := mkF m pc Ls (.int j :: .ref a :: rest)) rfl rfl (C.dec hd) t r) K
theorem Core.baload (C : Core p l e R s m args below meth c bs ml ret nm own Z a0 EL nw vm T h k n) {a : Addr} {kA : ClassId} {z j : Int32} {vs : List Value} {dv v : Value} (A : Arv Z h a kA .byte z vs dv) (hj : ¬ j < 0 ∧ j < z) (hv : vs.getD j.toNatClampNeg dv = v) (hd : decode bs pc = .ok (.baload, 1)) (hp : pc + 1 = pc')
    (K : Endw p e below T (mkF m pc' Ls (v :: rest)) F) : Endw p e below T (mkF m pc Ls (.int j :: .ref a :: rest)) F := by
  subst hp
  obtain ⟨-, ⟨L, X, N⟩, -⟩ := id C
  obtain ⟨cl, Ar, -, S, hz, H, -⟩ := A
  exact Endw.st (fun t r => X.baloadBytes C.hx (by rw [C.heq]; exact Ar.1) (State.isArrayOf_alike C.warm.alike Ar.2.1) Ar.2.2 (inb_of S hj) (H.at (inb_of S hj) hv) (g := mkF m pc Ls (.int j :: .ref a :: rest)) rfl rfl (C.dec hd) t r) K
theorem Core.aaload (C : Core p l e R s m args below meth c bs ml ret nm own Z a0 EL nw vm T h k n) {a : Addr} {kA : ClassId} {ty : FieldType} {z j : Int32} {vs : List Value} {dv v : Value} (A : Arv Z h a kA ty z vs dv) (hty : ty.isReference = true) (hj : ¬ j < 0 ∧ j < z) (hv : vs.getD j.toNatClampNeg dv = v) (hd : decode bs pc = .ok (.aaload, 1)) (hp : pc + 1 = pc')
    (K : Endw p e below T (mkF m pc' Ls (v :: rest)) F) : Endw p e below T (mkF m pc Ls (.int j :: .ref a :: rest)) F := by
  subst hp
  obtain ⟨-, ⟨L, X, N⟩, -⟩ := id C
  obtain ⟨cl, Ar, -, S, hz, H, -⟩ := A
  exact Endw.st (fun t r => X.aaload C.hx (by rw [C.heq]; exact Ar.1) (State.isArrayOf_alike C.warm.alike Ar.2.1) hty Ar.2.2 (inb_of S hj) (H.at (inb_of S hj) hv) (g := mkF m pc Ls (.int j :: .ref a :: rest)) rfl rfl (C.dec hd) t r) K
theorem Core.castore (C : Core p l e R s m args below meth c bs ml ret nm own Z a0 EL nw vm T h k n) {a : Addr} {kA : ClassId} {z j x x' : Int32} {vs vs' : List Value} {dv : Value} (A : Arv Z h a kA .char z vs dv) (hj : ¬ j < 0 ∧ j < z) (i : Nat) (hi : j.toNatClampNeg = i) (hl : i < vs.length) (hx' : nar .char x = x') (ge : Z.heap.size ≤ a) (hvs : vs.set i (.int x') = vs') (hd : decode bs pc = .ok (.castore, 1)) (hp : pc + 1 = pc')
    (K : ∀ T' h', Core p l e R s m args below meth c bs ml ret nm own Z a0 EL nw vm T' h' k n → Keep h h' [a] → CHr Z EL vm h vm h' → Arv Z h' a kA .char z vs' dv → Endw p e below T' (mkF m pc' Ls rest) F) : Endw p e below T (mkF m pc Ls (.int x :: .int j :: .ref a :: rest)) F := by
  subst hp hx' hvs
  obtain ⟨-, ⟨L, X, N⟩, -⟩ := id C
  have sf : Safe Z EL vm h a := Safe.arv C.warm.alike A (by decide)
  obtain ⟨cl, Ar, q1, S, hz, H, G⟩ := A
  obtain ⟨T', h', X', e', W, st⟩ := RoadKit.stC X C.hx C.warm C.heq Ar (inb_of S hj) (g := mkF m pc Ls (.int x :: .int j :: .ref a :: rest)) rfl rfl (C.dec hd)
  exact Endw.st st (K T' h' (C.on (ws := [a]) X' (N.app fun y hy => by cases List.mem_singleton.mp hy; exact ge) e' (Keep.of_wr W) (allS ge all0) (sfS sf sf0)) (Keep.of_wr W) (CHr.keep (Keep.of_wr W) (sfS sf sf0) C.chv) (Arv.set Ar q1 S hz H G (fits_nar_char _) W i hi hl))
theorem Core.bastore (C : Core p l e R s m args below meth c bs ml ret nm own Z a0 EL nw vm T h k n) {a : Addr} {kA : ClassId} {z j x x' : Int32} {vs vs' : List Value} {dv : Value} (A : Arv Z h a kA .byte z vs dv) (hj : ¬ j < 0 ∧ j < z) (i : Nat) (hi : j.toNatClampNeg = i) (hl : i < vs.length) (hx' : nar .byte x = x') (ge : Z.heap.size ≤ a) (sf : Safe Z EL vm h a) (hvs : vs.set i (.int x') = vs') (hd : decode bs pc = .ok (.bastore, 1)) (hp : pc + 1 = pc')
    (K : ∀ T' h', Core p l e R s m args below meth c bs ml ret nm own Z a0 EL nw vm T' h' k n → Keep h h' [a] → CHr Z EL vm h vm h' → Arv Z h' a kA .byte z vs' dv → Endw p e below T' (mkF m pc' Ls rest) F) : Endw p e below T (mkF m pc Ls (.int x :: .int j :: .ref a :: rest)) F := by
  subst hp hx' hvs
  obtain ⟨-, ⟨L, X, N⟩, -⟩ := id C
  obtain ⟨cl, Ar, q1, S, hz, H, G⟩ := A
  obtain ⟨T', h', X', e', W, st⟩ := RoadKit.stB X C.hx C.warm C.heq Ar (inb_of S hj) (g := mkF m pc Ls (.int x :: .int j :: .ref a :: rest)) rfl rfl (C.dec hd)
  exact Endw.st st (K T' h' (C.on (ws := [a]) X' (N.app fun y hy => by cases List.mem_singleton.mp hy; exact ge) e' (Keep.of_wr W) (allS ge all0) (sfS sf sf0)) (Keep.of_wr W) (CHr.keep (Keep.of_wr W) (sfS sf sf0) C.chv) (Arv.set Ar q1 S hz H G (fits_nar_byte _) W i hi hl))
/-- Object.<init> -/
theorem Core.initO (C : Core p l e R s m args below meth c bs ml ret nm own Z a0 EL nw vm T h k n) {ix : Nat} {a : Addr} (w1 : (Jvm.Cond.methodLink own ix Lib.objectInit).before a0 Z = true) (w2 : (Jvm.Cond.instanceMethod Lib.objectInit).before a0 Z = true) (w3 : (Jvm.Cond.code Lib.objectInit ⟨#[0xb1]⟩ 1 none).before a0 Z = true) (hsz : Ls.size = ml) (hd : decode bs pc = .ok (.invokespecial ix, 3)) (hp : pc + 3 = pc') (hf : 1 ≤ R.frames) {W : Nat} (hW : (rest.map fun v => v.category).sum ≤ W) (hl : W + 12 ≤ R.locals)
    (K : ∀ T', Core p l e R s m args below meth c bs ml ret nm own Z a0 EL nw vm T' h k n → Endw p e below T' (mkF m pc' Ls rest) F) : Endw p e below T (mkF m pc Ls (.ref a :: rest)) F := by
  subst hp
  obtain ⟨-, ⟨L, X, N⟩, -⟩ := id C
  obtain ⟨T', X', e', st⟩ := RoadKit.initO X C.hx C.warm C.hown w1 w2 w3 C.heq (g := mkF m pc Ls (.ref a :: rest)) rfl (hsz.trans C.mlq.symm) rfl (C.dec hd) hf (W := W) (by show 2 * 0 + _ ≤ _; omega) hl
  exact Endw.st st (K T' (C.same X' N e'))
/-! ## calls by a contract of ours -/
theorem backOwn {nw' : Bool} {y : MethodName} {bytes : ByteArray} {mx : Nat} {rt : Option FieldType} {rm : Room} {len W : Nat} {as' : Array Value} {xs : List Addr} (hM : Met l Z EL nw' y bytes mx rt [] rm as' h xs Q) (hZ : Z.Warmed39 vm) (wc : (Jvm.Cond.code y bytes mx rt).before a0 Z = true) (wz : (Jvm.Cond.initialized y.cls).before a0 Z = true) (hf : rm.frames + 1 ≤ R.frames) (hl : W + (mx + 11) + rm.locals ≤ R.locals) (hEL : EW Z a0 EL) (H : CHv Z EL vm h) (hs : ∀ x ∈ xs, x < h.size ∧ Safe Z EL vm h x) :
    BackS l R p e below (s.setVm vm) args y len W (fun A a => a = as' ∧ A.U.heap = h ∧ A.cells + rm.cells ≤ R.cells ∧ A.slots + rm.slots ≤ R.slots)
      (fun A _ v B => ∃ L, (Q v B.U.heap ∧ Fr Z.heap.size L ∧ Ext Z.heap B.U.heap) ∧ B.locs = A.locs ++ L ∧ B.cells = A.cells + rm.cells ∧ B.slots = A.slots + rm.slots ∧ CHr Z EL vm h B.U.vm B.U.heap ∧ (nw' = true → (s.setVm vm).WarmedH B.U.vm ∧ ∀ y, Bk Z EL B.U.vm B.U.heap y → Bk Z EL vm h y)) := by
  refine BackS.of_freeW (bytes := bytes) (maxL := mx) (ret := rt) (E := fun _ f o t L i j => i = rm.cells ∧ j = rm.slots ∧ (∃ v, o = .returned v ∧ Q v t.heap ∧ Fr Z.heap.size L ∧ Ext Z.heap t.heap) ∧ CHr Z EL f.vm f.heap t.vm t.heap ∧ (nw' = true → f.WarmedH t.vm ∧ ∀ y, Bk Z EL t.vm t.heap y → Bk Z EL f.vm f.heap y)) hM hf hl ?_ ?_ (fun _ _ _ _ _ _ _ _ _ => trivial) ?_ ?_
  · intro m' meth' c' A a Y hp
    have hU : Z.Warmed39 A.U.vm := wtrans (s := s.setVm vm) hZ Y.warmed
    refine ⟨?_, mv hU wc, mv hU wz, hp.2.2.1, hp.2.2.2⟩
    show (Jvm.Cond.and _ .tt).before a A.U = true
    rw [Cond.before_and, mv hU wc]; rfl
  · intro m' meth' c' A a g' mk Y hp
    have q := CHv.at Y hZ hEL H
    exact ⟨hp.1, wtrans (s := s.setVm vm) hZ Y.warmed, hp.2.1, q.1, fun x hx => q.safe (hs x hx).1 (hs x hx).2⟩
  · intro a f o t ⟨v, L, h1, h2, h3, h4⟩
    exact ⟨L, _, _, h4, rfl, rfl, ⟨v, h1, h2⟩, h3.1, h3.2⟩
  · intro m' meth' c' A a g' mk v t L i j Y hp _ _ q
    obtain ⟨rfl, rfl, ⟨v', e1, e2⟩, e3, e5⟩ := q
    cases e1
    refine ⟨L, e2, rfl, rfl, rfl, (CHv.at Y hZ hEL H).trans ?_, fun z => ⟨State.WarmedH.trans Y.warmed (e5 z).1, fun y' b => ?_⟩⟩
    · have e4 : CHr Z EL A.U.vm A.U.heap t.vm t.heap := e3
      rw [hp.2.1] at e4; exact e4
    · have b1 : Bk Z EL A.U.vm A.U.heap y' := (e5 z).2 y' b
      rw [hp.2.1] at b1
      rcases (CHv.at Y hZ hEL H).2.2 y' b1 with q | q
      · exact q
      · obtain ⟨c0, hc0⟩ := Bk.there b1; exact absurd (Array.getElem?_eq_some_iff.mp hc0).1 (Nat.not_lt.mpr q)
/-- behind a call by such a contract -/
theorem Core.behind (C : Core p l e R s m args below meth c bs ml ret nm own Z a0 EL nw vm T h k n) {B : Pt} {L L' : List Loc} (X' : Stand p l e R ((s.setVm vm).setVm B.U.vm) m args below meth c B.U B.locs B.cells B.slots) (h2 : (s.setVm vm).Since B.U.vm B.U.heap.size) (N : Fr Z.heap.size L) (N' : Fr Z.heap.size L') (O : Ext Z.heap B.U.heap) (e1 : B.locs = L ++ L') (e2 : B.cells = k') (e3 : B.slots = n') (A : CHr Z EL vm h B.U.vm B.U.heap) (M : nw = true → (s.setVm vm).WarmedH B.U.vm ∧ ∀ y, Bk Z EL B.U.vm B.U.heap y → Bk Z EL vm h y) :
    Core p l e R s m args below meth c bs ml ret nm own Z a0 EL nw B.U.vm B.U B.U.heap k' n' := by
  subst e2 e3
  obtain ⟨k0, hS, hk⟩ := C.since
  obtain ⟨r1, r2, r3, r4⟩ := rebS hS hk X' h2 A.2.1 C.warm C.hown
  exact ⟨C.1, ⟨_, r1, e1 ▸ N.app N'⟩, rfl, r3, r4, ⟨_, r2, Nat.le_refl _⟩, C.chr.trans A, O, fun z => ⟨State.WarmedH.trans (C.nwm z).1 (M z).1, fun y b => (C.nwm z).2 y ((M z).2 y b)⟩⟩
theorem Core.special (C : Core p l e R s m args below meth c bs ml ret nm own Z a0 EL nw vm T h k n) {nw' : Bool} {y : MethodName} {ix : Nat} {bytes : ByteArray} {mx : Nat} {rm : Room} {xs : List Addr} {W : Nat} {a : Addr} {argsL st : List Value} {as' : Array Value} (hy1 : y.name = "<init>")
    (w1 : (Jvm.Cond.methodLink own ix y).before a0 Z = true) (w2 : (Jvm.Cond.instanceMethod y).before a0 Z = true) (w3 : (Jvm.Cond.code y bytes mx none).before a0 Z = true) (w4 : (Jvm.Cond.initialized y.cls).before a0 Z = true) (hy : y.cls ≠ "java/lang/invoke/MethodHandle" ∧ y.cls ≠ "java/lang/invoke/VarHandle")
    (hM : Met l Z EL nw' y bytes mx none [] rm as' h xs Q) (hnn : nw = true → nw' = true) (has : as' = (.ref a :: argsL).toArray) (hs : ∀ x ∈ xs, x < h.size ∧ Safe Z EL vm h x) (hf : rm.frames + 1 ≤ R.frames) (hl : W + (mx + 11) + rm.locals ≤ R.locals) (hk : k + rm.cells ≤ R.cells) (hn : n + rm.slots ≤ R.slots)
    (hlen : ∀ sig, parseMethodDescriptor y.desc = some sig → argsL.length = sig.parameters.length) (hst : st = argsL.reverse ++ .ref a :: rest) (hW : (rest.map fun v => v.category).sum ≤ W) (hsz : Ls.size = ml) (hd : decode bs pc = .ok (.invokespecial ix, 3)) (hp : pc + 3 = pc')
    (K : ∀ vm' T' h' v, Core p l e R s m args below meth c bs ml ret nm own Z a0 EL nw vm' T' h' (k + rm.cells) (n + rm.slots) → CHr Z EL vm h vm' h' → (nw' = true → ∀ y, Bk Z EL vm' h' y → Bk Z EL vm h y) → Q v h' → Endw p e below T' (mkF m pc' Ls (v.toList ++ rest)) F) : Endw p e below T (mkF m pc Ls st) F := by
  subst hp has
  obtain ⟨-, ⟨L, X, N⟩, -⟩ := id C
  obtain ⟨v, vm₁, B, -, X', h2, -, ⟨L', ⟨q1, q2, q3⟩, e1, e2, e3, A, M⟩, st'⟩ := X.specialBackS C.hx (y := y) hy1 C.hown (mvT C.warm w1) (mvT C.warm w2) (mvT C.warm w3) hy (backOwn (W := W) hM C.warm w3 w4 hf hl C.ew C.chv hs) (g := mkF m pc Ls st) rfl (hsz.trans C.mlq.symm) (Steps.refl _) (a := a) (argsL := argsL) (rest := rest) hlen hst (by show 2 * 0 + _ ≤ _; omega) (C.dec hd) (fun _ _ => ⟨rfl, C.heq, hk, hn⟩)
  exact Endw.ste st' (K _ _ _ v (C.behind X' h2 N q2 q3 e1 e2 e3 A (fun z => M (hnn z))) A (fun z => (M z).2) q1)
theorem Core.static (C : Core p l e R s m args below meth c bs ml ret nm own Z a0 EL nw vm T h k n) {nw' : Bool} {y : MethodName} {ix : Nat} {bytes : ByteArray} {mx : Nat} {rt : Option FieldType} {rm : Room} {xs : List Addr} {W : Nat} {argsL st : List Value} {as' : Array Value}
    (w1 : (Jvm.Cond.methodLink own ix y).before a0 Z = true) (w2 : (Jvm.Cond.static y).before a0 Z = true) (w3 : (Jvm.Cond.code y bytes mx rt).before a0 Z = true) (w4 : (Jvm.Cond.initialized y.cls).before a0 Z = true) (hy : y.cls ≠ "java/lang/invoke/MethodHandle" ∧ y.cls ≠ "java/lang/invoke/VarHandle")
    (hM : Met l Z EL nw' y bytes mx rt [] rm as' h xs Q) (hnn : nw = true → nw' = true) (has : as' = argsL.toArray) (hs : ∀ x ∈ xs, x < h.size ∧ Safe Z EL vm h x) (hf : rm.frames + 1 ≤ R.frames) (hl : W + (mx + 11) + rm.locals ≤ R.locals) (hk : k + rm.cells ≤ R.cells) (hn : n + rm.slots ≤ R.slots)
    (hlen : ∀ sig, parseMethodDescriptor y.desc = some sig → argsL.length = sig.parameters.length) (hst : st = argsL.reverse ++ rest) (hW : (rest.map fun v => v.category).sum ≤ W) (hsz : Ls.size = ml) (hd : decode bs pc = .ok (.invokestatic ix, 3)) (hp : pc + 3 = pc')
    (K : ∀ vm' T' h' v, Core p l e R s m args below meth c bs ml ret nm own Z a0 EL nw vm' T' h' (k + rm.cells) (n + rm.slots) → CHr Z EL vm h vm' h' → (nw' = true → ∀ y, Bk Z EL vm' h' y → Bk Z EL vm h y) → Q v h' → Endw p e below T' (mkF m pc' Ls (v.toList ++ rest)) F) : Endw p e below T (mkF m pc Ls st) F := by
  subst hp has
  obtain ⟨-, ⟨L, X, N⟩, -⟩ := id C
  obtain ⟨v, vm₁, B, -, X', h2, -, ⟨L', ⟨q1, q2, q3⟩, e1, e2, e3, A, M⟩, st'⟩ := RoadKit.callSS X C.hx (y := y) C.hown (mvT C.warm w1) (mvT C.warm w2) (mvT C.warm w4) (mvT C.warm w3) hy (backOwn (W := W) hM C.warm w3 w4 hf hl C.ew C.chv hs) (g := mkF m pc Ls st) rfl (hsz.trans C.mlq.symm) (argsL := argsL) (rest := rest) hlen hst (by show 2 * 0 + _ ≤ _; omega) (C.dec hd) (fun _ _ => ⟨rfl, C.heq, hk, hn⟩)
  exact Endw.ste st' (K _ _ _ v (C.behind X' h2 N q2 q3 e1 e2 e3 A (fun z => M (hnn z))) A (fun z => (M z).2) q1)
theorem Core.virtual (C : Core p l e R s m args below meth c bs ml ret nm own Z a0 EL nw vm T h k n) {nw' : Bool} {y z : MethodName} {Cl : String} {ix : Nat} {bytes : ByteArray} {mx : Nat} {rt : Option FieldType} {rm : Room} {xs : List Addr} {W : Nat} {a : Addr} {argsL st : List Value} {as' : Array Value}
    (w1 : (Jvm.Cond.methodLink own ix y).before a0 Z = true) (w2 : (Jvm.Cond.declares y).before a0 Z = true) (hnf : ∀ U : State, Z.Warmed39 U.vm → NotFace U y) (w5 : (Jvm.Cond.selects Cl y z).before a0 Z = true) (w6 : (Jvm.Cond.instanceMethod z).before a0 Z = true) (w3 : (Jvm.Cond.code z bytes mx rt).before a0 Z = true) (w4 : (Jvm.Cond.initialized z.cls).before a0 Z = true) (hy : y.cls ≠ "java/lang/invoke/MethodHandle" ∧ y.cls ≠ "java/lang/invoke/VarHandle")
    (hM : Met l Z EL nw' z bytes mx rt [] rm as' h xs Q) (hnn : nw = true → nw' = true) (has : as' = (.ref a :: argsL).toArray) (E : Exa Z h a Cl) (hs : ∀ x ∈ xs, x < h.size ∧ Safe Z EL vm h x) (hf : rm.frames + 1 ≤ R.frames) (hl : W + (mx + 11) + rm.locals ≤ R.locals) (hk : k + rm.cells ≤ R.cells) (hn : n + rm.slots ≤ R.slots)
    (hlen : ∀ sig, parseMethodDescriptor y.desc = some sig → argsL.length = sig.parameters.length) (hst : st = argsL.reverse ++ .ref a :: rest) (hW : (rest.map fun v => v.category).sum ≤ W) (hsz : Ls.size = ml) (hd : decode bs pc = .ok (.invokevirtual ix, 3)) (hp : pc + 3 = pc')
    (K : ∀ vm' T' h' v, Core p l e R s m args below meth c bs ml ret nm own Z a0 EL nw vm' T' h' (k + rm.cells) (n + rm.slots) → CHr Z EL vm h vm' h' → (nw' = true → ∀ y, Bk Z EL vm' h' y → Bk Z EL vm h y) → Q v h' → Endw p e below T' (mkF m pc' Ls (v.toList ++ rest)) F) : Endw p e below T (mkF m pc Ls st) F := by
  subst hp has
  obtain ⟨-, ⟨L, X, N⟩, -⟩ := id C
  obtain ⟨cq, kq, qa, qb, qc⟩ := isOf (s := s.setVm vm) C.warm C.heq E
  obtain ⟨v, vm₁, B, -, X', h2, -, ⟨L', ⟨q1, q2, q3⟩, e1, e2, e3, A, M⟩, st'⟩ := X.virtualBackS C.hx (y := y) (z := z) C.hown (mvT C.warm w1) (mvT C.warm w2) (hnf _ (show Z.Warmed39 (s.setVm vm).vm from C.warm)) (mvT C.warm w5) (mvT C.warm w6) hy (backOwn (W := W) hM C.warm w3 w4 hf hl C.ew C.chv hs) qa qc (g := mkF m pc Ls st) rfl (hsz.trans C.mlq.symm) (Steps.refl _) (argsL := argsL) (rest := rest) hlen hst (by show 2 * 0 + _ ≤ _; omega) (C.dec hd) (fun _ _ => ⟨rfl, C.heq, hk, hn⟩)
  exact Endw.ste st' (K _ _ _ v (C.behind X' h2 N q2 q3 e1 e2 e3 A (fun z => M (hnn z))) A (fun z => (M z).2) q1)
/-! ## calls by a law of the library's (it interns nothing) -/
theorem Core.behindF (C : Core p l e R s m args below meth c bs ml ret nm own Z a0 EL nw vm T h k n) {B : Pt} {L L' : List Loc} {ws : List Addr} (X' : Stand p l e R (s.setVm vm) m args below meth c B.U B.locs B.cells B.slots) (N : Fr Z.heap.size L) (N' : Fr Z.heap.size L') (K : Keep h B.U.heap ws) (ge : ∀ x ∈ ws, Z.heap.size ≤ x) (S : ∀ x ∈ ws, Safe Z EL vm h x) (e1 : B.locs = L ++ L') (e2 : B.cells = k') (e3 : B.slots = n') :
    Core p l e R s m args below meth c bs ml ret nm own Z a0 EL nw vm B.U B.U.heap k' n' := by
  subst e2 e3
  exact C.on X' (e1 ▸ N.app N') rfl K ge S
theorem Core.specialF (C : Core p l e R s m args below meth c bs ml ret nm own Z a0 EL nw vm T h k n) {y : MethodName} {ix : Nat} {bytes : ByteArray} {mx ck cn : Nat} {ws : List Addr} {W : Nat} {a : Addr} {argsL st : List Value} {as' : Array Value} {Qf : Option Value → Heap → List Loc → Prop} (hy1 : y.name = "<init>")
    (w1 : (Jvm.Cond.methodLink own ix y).before a0 Z = true) (w2 : (Jvm.Cond.instanceMethod y).before a0 Z = true) (w3 : (Jvm.Cond.code y bytes mx none).before a0 Z = true) (hy : y.cls ≠ "java/lang/invoke/MethodHandle" ∧ y.cls ≠ "java/lang/invoke/VarHandle")
    (hK : Back l R p e below (s.setVm vm) args y 3 W (fun P a => a = as' ∧ P.U.heap = h ∧ P.cells + ck ≤ R.cells ∧ P.slots + cn ≤ R.slots) (fun P _ v B => ∃ L, Qf v B.U.heap L ∧ B.locs = P.locs ++ L ∧ B.cells = P.cells + ck ∧ B.slots = P.slots + cn))
    (hQ : ∀ v h' L, Qf v h' L → Fr Z.heap.size L ∧ Keep h h' ws) (ge : ∀ x ∈ ws, Z.heap.size ≤ x) (S : ∀ x ∈ ws, Safe Z EL vm h x) (has : as' = (.ref a :: argsL).toArray) (hk : k + ck ≤ R.cells) (hn : n + cn ≤ R.slots)
    (hlen : ∀ sig, parseMethodDescriptor y.desc = some sig → argsL.length = sig.parameters.length) (hst : st = argsL.reverse ++ .ref a :: rest) (hW : (rest.map fun v => v.category).sum ≤ W) (hsz : Ls.size = ml) (hd : decode bs pc = .ok (.invokespecial ix, 3)) (hp : pc + 3 = pc')
    (K : ∀ T' h' v, Core p l e R s m args below meth c bs ml ret nm own Z a0 EL nw vm T' h' (k + ck) (n + cn) → Keep h h' ws → CHr Z EL vm h vm h' → (∃ L, Qf v h' L) → Endw p e below T' (mkF m pc' Ls (v.toList ++ rest)) F) : Endw p e below T (mkF m pc Ls st) F := by
  subst hp has
  obtain ⟨-, ⟨L, X, N⟩, -⟩ := id C
  obtain ⟨v, vm₁, B, -, X', ⟨L', q1, e1, e2, e3⟩, st'⟩ := X.specialBack C.hx (y := y) hy1 C.hown (mvT C.warm w1) (mvT C.warm w2) (mvT C.warm w3) hy hK (g := mkF m pc Ls st) rfl (hsz.trans C.mlq.symm) (Steps.refl _) (a := a) (argsL := argsL) (rest := rest) hlen hst (by show 2 * 0 + _ ≤ _; omega) (C.dec hd) (fun _ _ => ⟨rfl, C.heq, hk, hn⟩)
  obtain ⟨r1, r2⟩ := hQ _ _ _ q1
  exact Endw.ste st' (K _ _ v (C.behindF X' N r1 r2 ge S e1 e2 e3) r2 (CHr.keep r2 S C.chv) ⟨_, q1⟩)
theorem Core.staticF (C : Core p l e R s m args below meth c bs ml ret nm own Z a0 EL nw vm T h k n) {y : MethodName} {ix : Nat} {bytes : ByteArray} {mx ck cn : Nat} {rt : Option FieldType} {ws : List Addr} {W : Nat} {argsL st : List Value} {as' : Array Value} {Qf : Option Value → Heap → List Loc → Prop}
    (w1 : (Jvm.Cond.methodLink own ix y).before a0 Z = true) (w2 : (Jvm.Cond.static y).before a0 Z = true) (w3 : (Jvm.Cond.code y bytes mx rt).before a0 Z = true) (w4 : (Jvm.Cond.initialized y.cls).before a0 Z = true) (hy : y.cls ≠ "java/lang/invoke/MethodHandle" ∧ y.cls ≠ "java/lang/invoke/VarHandle")
    (hK : Back l R p e below (s.setVm vm) args y 3 W (fun P a => a = as' ∧ P.U.heap = h ∧ P.cells + ck ≤ R.cells ∧ P.slots + cn ≤ R.slots) (fun P _ v B => ∃ L, Qf v B.U.heap L ∧ B.locs = P.locs ++ L ∧ B.cells = P.cells + ck ∧ B.slots = P.slots + cn))
    (hQ : ∀ v h' L, Qf v h' L → Fr Z.heap.size L ∧ Keep h h' ws) (ge : ∀ x ∈ ws, Z.heap.size ≤ x) (S : ∀ x ∈ ws, Safe Z EL vm h x) (has : as' = argsL.toArray) (hk : k + ck ≤ R.cells) (hn : n + cn ≤ R.slots)
    (hlen : ∀ sig, parseMethodDescriptor y.desc = some sig → argsL.length = sig.parameters.length) (hst : st = argsL.reverse ++ rest) (hW : (rest.map fun v => v.category).sum ≤ W) (hsz : Ls.size = ml) (hd : decode bs pc = .ok (.invokestatic ix, 3)) (hp : pc + 3 = pc')
    (K : ∀ T' h' v, Core p l e R s m args below meth c bs ml ret nm own Z a0 EL nw vm T' h' (k + ck) (n + cn) → Keep h h' ws → CHr Z EL vm h vm h' → (∃ L, Qf v h' L) → Endw p e below T' (mkF m pc' Ls (v.toList ++ rest)) F) : Endw p e below T (mkF m pc Ls st) F := by
  subst hp has
  obtain ⟨-, ⟨L, X, N⟩, -⟩ := id C
  obtain ⟨v, vm₁, B, -, X', ⟨L', q1, e1, e2, e3⟩, st'⟩ := Jvm.LawKit.callS X C.hx (y := y) C.hown (mvT C.warm w1) (mvT C.warm w2) (mvT C.warm w4) (mvT C.warm w3) hy hK (g := mkF m pc Ls st) rfl (hsz.trans C.mlq.symm) (argsL := argsL) (rest := rest) hlen hst (by show 2 * 0 + _ ≤ _; omega) (C.dec hd) (fun _ _ => ⟨rfl, C.heq, hk, hn⟩)
  obtain ⟨r1, r2⟩ := hQ _ _ _ q1
  exact Endw.st st' (K _ _ v (C.behindF X' N r1 r2 ge S e1 e2 e3) r2 (CHr.keep r2 S C.chv) ⟨_, q1⟩)
theorem Core.virtualF (C : Core p l e R s m args below meth c bs ml ret nm own Z a0 EL nw vm T h k n) {y z : MethodName} {Cl : String} {ix ck cn : Nat} {ws : List Addr} {W : Nat} {a : Addr} {argsL st : List Value} {as' : Array Value} {Qf : Option Value → Heap → List Loc → Prop}
    (w1 : (Jvm.Cond.methodLink own ix y).before a0 Z = true) (w2 : (Jvm.Cond.declares y).before a0 Z = true) (hnf : ∀ U : State, Z.Warmed39 U.vm → NotFace U y) (w5 : (Jvm.Cond.selects Cl y z).before a0 Z = true) (w6 : (Jvm.Cond.instanceMethod z).before a0 Z = true) (hy : y.cls ≠ "java/lang/invoke/MethodHandle" ∧ y.cls ≠ "java/lang/invoke/VarHandle")
    (hK : Back l R p e below (s.setVm vm) args z 3 W (fun P a => a = as' ∧ P.U.heap = h ∧ P.cells + ck ≤ R.cells ∧ P.slots + cn ≤ R.slots) (fun P _ v B => ∃ L, Qf v B.U.heap L ∧ B.locs = P.locs ++ L ∧ B.cells = P.cells + ck ∧ B.slots = P.slots + cn))
    (hQ : ∀ v h' L, Qf v h' L → Fr Z.heap.size L ∧ Keep h h' ws) (ge : ∀ x ∈ ws, Z.heap.size ≤ x) (S : ∀ x ∈ ws, Safe Z EL vm h x) (has : as' = (.ref a :: argsL).toArray) (E : Exa Z h a Cl) (hk : k + ck ≤ R.cells) (hn : n + cn ≤ R.slots)
    (hlen : ∀ sig, parseMethodDescriptor y.desc = some sig → argsL.length = sig.parameters.length) (hst : st = argsL.reverse ++ .ref a :: rest) (hW : (rest.map fun v => v.category).sum ≤ W) (hsz : Ls.size = ml) (hd : decode bs pc = .ok (.invokevirtual ix, 3)) (hp : pc + 3 = pc')
    (K : ∀ T' h' v, Core p l e R s m args below meth c bs ml ret nm own Z a0 EL nw vm T' h' (k + ck) (n + cn) → Keep h h' ws → CHr Z EL vm h vm h' → (∃ L, Qf v h' L) → Endw p e below T' (mkF m pc' Ls (v.toList ++ rest)) F) : Endw p e below T (mkF m pc Ls st) F := by
  subst hp has
  obtain ⟨-, ⟨L, X, N⟩, -⟩ := id C
  obtain ⟨cq, kq, qa, qb, qc⟩ := isOf (s := s.setVm vm) C.warm C.heq E
  obtain ⟨v, vm₁, B, -, X', ⟨L', q1, e1, e2, e3⟩, st'⟩ := X.virtualBack C.hx (y := y) (z := z) C.hown (mvT C.warm w1) (mvT C.warm w2) (hnf _ (show Z.Warmed39 (s.setVm vm).vm from C.warm)) (mvT C.warm w5) (mvT C.warm w6) hy hK qa qc (g := mkF m pc Ls st) rfl (hsz.trans C.mlq.symm) (Steps.refl _) (argsL := argsL) (rest := rest) hlen hst (by show 2 * 0 + _ ≤ _; omega) (C.dec hd) (fun _ _ => ⟨rfl, C.heq, hk, hn⟩)
  obtain ⟨r1, r2⟩ := hQ _ _ _ q1
  exact Endw.ste st' (K _ _ v (C.behindF X' N r1 r2 ge S e1 e2 e3) r2 (CHr.keep r2 S C.chv) ⟨_, q1⟩)
/-! ## the head and the end of a body -/
theorem Met.of {y : MethodName} {bytes : ByteArray} {mx : Nat} {rt : Option FieldType} {ws : List Jvm.Cond} {rm : Room} {as' : Array Value} {xs : List Addr} (hy : plainFor y = true) (hEL : EW Z a0 EL) (O : Ext Z.heap h)
    (body : ∀ p e s m below meth c T, Core p l e rm s m as' below meth c bytes mx rt y.name y.cls Z a0 EL nw s.vm T h 0 0 → (∀ x ∈ xs, Safe Z EL s.vm h x) → Endw p e below T (entryFrame m as' mx) (Fin s Z EL nw Q rm.cells rm.slots)) :
    Met l Z EL nw y bytes mx rt ws rm as' h xs Q := by
  refine MetFree.of_bodySF hy hisR ?_
  intro p e s m args below meth c s₁ Bd hml hP hK
  obtain ⟨rfl, hZ, hh, hC, hS⟩ := hP
  have X0 : Stand p l e rm s m args below meth c s₁ [] 0 0 := Stand.of_body Bd
  have e0 : s₁.heap = h := by rw [← hh, Bd.state]; rfl
  have hC' : CHv Z EL s.vm s.heap := by rw [hh]; exact hC
  refine body p e s m below meth c s₁ ⟨⟨Bd.exec, Bd.bytes, hml, Bd.returns, BodyLoose.notSynchronized Bd, (name_of_methodNamed Bd.named Bd.method).1, hEL⟩, ⟨[], X0, Fr.nil _⟩, e0, hZ, findClass_of_methodNamed Bd.named, ⟨s.heap.size, (State.WarmedH.refl s).since _, by rw [hh]; exact Nat.le_refl _⟩, ?_, O, fun _ => ⟨State.WarmedH.refl s, fun y b => by rw [hh]; exact b⟩⟩ hS
  rw [← hh]; exact CHr.refl hC'
theorem Core.leave (C : Core p l e R s m args below meth c bs ml ret nm own Z a0 EL nw vm T h k n) {K N : Nat} {v : Option Value} (hv : ret = none → v = none) (hk : k ≤ K) (hn : n ≤ N) (q : Q v h) (st : ∀ {L : List Loc} {vm' : Vm}, Stand p l e R (s.setVm vm') m args below meth c T L k n → ∀ fs, (∀ (f : JFrame) (acts : List Action), f.method = m → f.locked = none → f.entered = [] → (doReturn e (T.setTop f) acts v).1 = T.setFrames fs) → Steps p.tables e below (T.setTop g) (T.setFrames fs)) :
    Endw p e below T g (Fin s Z EL nw Q K N) := by
  obtain ⟨-, ⟨L, X, NL⟩, -⟩ := id C
  obtain ⟨k0, hS, hk0⟩ := C.since
  have hk1 : k0 ≤ T.heap.size := by rw [C.heq]; exact hk0
  obtain ⟨fs, h1, h2, h3, h4, h5, h6, h7⟩ := X.leaveW hS hk1 (v := v) (fun hr => hv (C.rtq.symm.trans hr)) C.locks
  have e1 : (T.setFrames fs).heap = h := C.heq
  refine ⟨_, _, st X fs h1, h2, h3, v, L, rfl, ⟨by rw [e1]; exact q, NL, by rw [e1]; exact C.old⟩, ⟨?_, fun z => ⟨State.WarmedH.trans (C.nwm z).1 X.warmed, fun y b => ?_⟩⟩, h4, h5, h6, h7.mono hk hn⟩
  · have A := C.chr.trans (CHv.at X C.warm C.ew C.chv)
    rw [e1]; exact A
  · rw [e1] at b
    have b1 : Bk Z EL T.vm h y := b
    rcases (CHv.at X C.warm C.ew C.chv).2.2 y b1 with q1 | q1
    · exact (C.nwm z).2 y q1
    · obtain ⟨c0, hc0⟩ := Bk.there b1; exact absurd (Array.getElem?_eq_some_iff.mp hc0).1 (Nat.not_lt.mpr q1)
theorem Core.retV (C : Core p l e R s m args below meth c bs ml none nm own Z a0 EL nw vm T h k n) {K N : Nat} (hd : decode bs pc = .ok (.return_, 1)) (hk : k ≤ K) (hn : n ≤ N) (q : Q none h) : Endw p e below T (mkF m pc Ls []) (Fin s Z EL nw Q K N) :=
  C.leave (fun _ => rfl) hk hn q fun X fs hl => X.returnOut C.hx C.rtq (C.dec hd) hl
theorem Core.retX (C : Core p l e R s m args below meth c bs ml ret nm own Z a0 EL nw vm T h k n) {K N : Nat} {t : FieldType} {w : Value} {i : Instr} (hr : ret = some t) (hn' : narrow t w = w) (hi : (i = .ireturn ∧ (t = .int ∨ t = .boolean ∨ t = .byte ∨ t = .char ∨ t = .short) ∧ ∃ z, w = .int z) ∨ (i = .lreturn ∧ t = .long ∧ ∃ z, w = .long z) ∨ (i = .dreturn ∧ t = .double ∧ ∃ z, w = .double z) ∨ (i = .freturn ∧ t = .float ∧ ∃ z, w = .float z) ∨ (i = .areturn ∧ t.isReference = true ∧ w.isRef = true))
    (hd : decode bs pc = .ok (i, 1)) (hk : k ≤ K) (hn : n ≤ N) (q : Q (some w) h) : Endw p e below T (mkF m pc Ls (w :: rest)) (Fin s Z EL nw Q K N) :=
  C.leave (fun z => by subst hr; cases z) hk hn q fun X fs hl => RoadKit.retOut X C.hx (C.rtq.trans hr) hn' hi (C.dec hd) hl
theorem Core.retI (C : Core p l e R s m args below meth c bs ml ret nm own Z a0 EL nw vm T h k n) {K N : Nat} {t : FieldType} {z : Int32} (hr : ret = some t) (ht : t = .int ∨ t = .boolean ∨ t = .byte ∨ t = .char ∨ t = .short) (hn' : narrow t (.int z) = .int z) (hd : decode bs pc = .ok (.ireturn, 1)) (hk : k ≤ K) (hn : n ≤ N) (q : Q (some (.int z)) h) : Endw p e below T (mkF m pc Ls (.int z :: rest)) (Fin s Z EL nw Q K N) :=
  C.retX hr hn' (Or.inl ⟨rfl, ht, _, rfl⟩) hd hk hn q
theorem Core.retA (C : Core p l e R s m args below meth c bs ml ret nm own Z a0 EL nw vm T h k n) {K N : Nat} {t : FieldType} {w : Value} (hr : ret = some t) (ht : t.isReference = true) (hw : w.isRef = true) (hn' : narrow t w = w) (hd : decode bs pc = .ok (.areturn, 1)) (hk : k ≤ K) (hn : n ≤ N) (q : Q (some w) h) : Endw p e below T (mkF m pc Ls (w :: rest)) (Fin s Z EL nw Q K N) :=
  C.retX hr hn' (Or.inr (Or.inr (Or.inr (Or.inr ⟨rfl, ht, hw⟩)))) hd hk hn q
/-! ## String constants -/
theorem Core.ldcC (C : Core p l e R s m args below meth c bs ml ret nm own Z a0 EL nw vm T h k n) {text : String} {ix N : Nat} {vs : List Value} {z : Int32} (w : (Jvm.Cond.stringLink own ix text).before a0 Z = true) (wS : ∀ a ∈ Bundle.stringAtoms, a.before a0 Z = true) (hmem : (own, ix) ∈ EL) (ht : (∀ c ∈ text.toList, c.toNat < 256) ∧ text.toList.map (fun c => Value.int (Jvm.Lit.byteI c.toNat.toUInt16)) = vs) (hz : ¬ z < 0) (hl : z.toNatClampNeg = vs.length)
    (hN : 4 * text.toList.length ≤ N) (hbig : N ≤ 536870912) (hk : k + 2 ≤ R.cells) (hn : n + (N + 4) ≤ R.slots) (hd : decode bs pc = .ok (.ldc ix, 2)) (hp : pc + 2 = pc') (hnw : nw = false)
    (K : ∀ vm' T' h' a b kA, Core p l e R s m args below meth c bs ml ret nm own Z a0 EL nw vm' T' h' (k + 2) (n + (N + 4)) → Keep h h' [] → CHr Z EL vm h vm' h' → Exa Z h' a "java/lang/String" → Fld Z h' a "java/lang/String" "coder" "B" (.int 0) → Fld Z h' a "java/lang/String" "value" "[B" (.ref b) → Arv Z h' b kA .byte z vs (.int 0) → (∀ x, Safe Z EL vm' h' x → x ≠ a ∧ x ≠ b) → Endw p e below T' (mkF m pc' Ls (.ref a :: rest)) F) : Endw p e below T (mkF m pc Ls rest) F := by
  subst hp
  obtain ⟨-, ⟨L, X, NL⟩, -⟩ := id C
  obtain ⟨k0, hS, hk0⟩ := C.since
  obtain ⟨a, T', h', k1, b, kA, X', e', E, hS', hk1, hZ', hown', r1, r2, r3, r4, -, -, A, -, r5, st⟩ := RoadKit.ldcCH X C.hx C.warm C.hown w wS C.heq hS hk0 C.ew hmem C.chv ht hz hl (g := mkF m pc Ls rest) rfl (C.dec hd) hN hbig hk hn
  exact Endw.st st (K T'.vm T' h' a b kA ⟨C.1, ⟨L, X', NL⟩, e', hZ', hown', ⟨k1, hS', hk1⟩, C.chr.trans A, old_keep C.old (keep_of_ext E) all0, fun z => by rw [hnw] at z; cases z⟩ (keep_of_ext E) A r1 r2 r3 r4 r5)
theorem Core.ldcO (C : Core p l e R s m args below meth c bs ml ret nm own Z a0 EL nw vm T h k n) {text : String} {ix N : Nat} (w : (Jvm.Cond.stringLink own ix text).before a0 Z = true) (wS : ∀ a ∈ Bundle.stringAtoms, a.before a0 Z = true)
    (hN : 4 * text.toList.length ≤ N) (hbig : N ≤ 536870912) (hk : k + 2 ≤ R.cells) (hn : n + (N + 4) ≤ R.slots) (hd : decode bs pc = .ok (.ldc ix, 2)) (hp : pc + 2 = pc') (hnw : nw = false)
    (K : ∀ vm' T' h' a, Core p l e R s m args below meth c bs ml ret nm own Z a0 EL nw vm' T' h' (k + 2) (n + (N + 4)) → Keep h h' [] → CHr Z EL vm h vm' h' → Endw p e below T' (mkF m pc' Ls (.ref a :: rest)) F) : Endw p e below T (mkF m pc Ls rest) F := by
  subst hp
  obtain ⟨-, ⟨L, X, NL⟩, -⟩ := id C
  obtain ⟨k0, hS, hk0⟩ := C.since
  obtain ⟨a, T', h', k1, X', e', E, hS', hk1, hZ', hown', A, -, st⟩ := RoadKit.ldcOH X C.hx C.warm C.hown w wS C.heq hS hk0 C.ew C.chv (g := mkF m pc Ls rest) rfl (C.dec hd) hN hbig hk hn
  exact Endw.st st (K T'.vm T' h' a ⟨C.1, ⟨L, X', NL⟩, e', hZ', hown', ⟨k1, hS', hk1⟩, C.chr.trans A, old_keep C.old (keep_of_ext E) all0, fun z => by rw [hnw] at z; cases z⟩ (keep_of_ext E) A)
end Walk
end Jvm.Own
namespace Jvm.Own
open Jvm Jvm.ClassFile Sem Op Lib Jvm.Free Jvm.Stand Jvm.LawKit Jvm.RoadKit Bundle
section Help
variable {p : Program} {l : Launch} {e : Env} {R : Room} {s : State} {m : MethodId} {args : Array Value} {below : List Frame} {meth : Method} {c : Code}
variable {bs : ByteArray} {ml : Nat} {ret : Option FieldType} {nm own : String} {Z : State} {a0 : Array Value} {EL : List (String × Nat)} {nw : Bool} {vm : Vm} {T T' : State} {h h' : Heap} {k n : Nat} {g : JFrame} {rest : List Value}
theorem own_irem (C : Core p l e R s m args below meth c bs ml ret nm own Z a0 EL nw vm T h k n) {x y : Int32} {target : State} (hg : g.method = m) (hd : decode bs g.pc = .ok (.irem, 1)) (hs : g.stack = .int y :: .int x :: rest) (hy : y ≠ 0) (hr : Steps p.tables e below (T.setTop { g with pc := g.pc + 1, stack := .int (x % y) :: rest }) target) : Steps p.tables e below (T.setTop g) target := by
  obtain ⟨-, ⟨L, X, -⟩, -⟩ := id C
  exact iremM X C.hx hg (C.dec hd) hs hy hr
theorem own_ldcI (C : Core p l e R s m args below meth c bs ml ret nm own Z a0 EL nw vm T h k n) {ix : Nat} {v : Int32} {target : State} (w : (Jvm.Cond.constant own ix v).before a0 Z = true) (hg : g.method = m) (hd : decode bs g.pc = .ok (.ldc ix, 2)) (hr : Steps p.tables e below (T.setTop { g with pc := g.pc + 2, stack := .int v :: g.stack }) target) : Steps p.tables e below (T.setTop g) target := by
  obtain ⟨-, ⟨L, X, -⟩, -⟩ := id C
  exact X.ldcI C.hx C.hown (mvT C.warm w) hg (C.dec hd) hr
theorem own_nar_mask {x : Int32} : nar .char ((x &&& 255).toUInt32.toUInt16.toUInt32.toInt32) = x &&& 255 := by
  show ((x &&& 255).toUInt32.toUInt16.toUInt32.toInt32).toUInt32.toUInt16.toUInt32.toInt32 = _
  rw [i2c_mask, i2c_mask]
theorem own_toInt {y : Int32} (h : y.toBitVec.toNat < 2147483648) : y.toInt = (y.toBitVec.toNat : Int) := by
  have : y.toInt = y.toBitVec.toInt := rfl
  rw [this, BitVec.toInt_eq_toNat_cond, if_pos (by omega)]
theorem own_and_nat (x m : Int32) : (x &&& m).toBitVec.toNat = x.toBitVec.toNat &&& m.toBitVec.toNat := by simp [Int32.toBitVec_and, BitVec.toNat_and]
theorem own_cI (x : Int32) : (Value.int x).category = 1 := rfl
theorem own_cR (x : Addr) : (Value.ref x).category = 1 := rfl
theorem own_cN : Value.null.category = 1 := rfl
theorem own_cJ (x : Int64) : (Value.long x).category = 2 := rfl
theorem own_cD (x : UInt64) : (Value.double x).category = 2 := rfl
/-- a char of one byte -/
def B8 (c : Int32) : Prop := ¬ c < 0 ∧ ¬ (255 : Int32) < c
theorem own_mask255 (x : Int32) : B8 (x &&& 255) := by
  have e : (x &&& 255).toBitVec.toNat ≤ 255 := by rw [own_and_nat]; exact Nat.and_le_right
  have q := own_toInt (y := x &&& 255) (by omega)
  refine ⟨?_, ?_⟩ <;> rw [Int32.lt_iff_toInt_lt, q]
  · show ¬ (_ < (0 : Int)); omega
  · show ¬ ((255 : Int) < _); omega
theorem own_b16 {c : Int32} (h : B8 c) : ¬ c < 0 ∧ ¬ (65535 : Int32) < c := by
  refine ⟨h.1, fun q => h.2 ?_⟩
  rw [Int32.lt_iff_toInt_lt] at q ⊢
  have e1 : (65535 : Int32).toInt = 65535 := rfl
  have e2 : (255 : Int32).toInt = 255 := rfl
  omega
theorem own_c0 {P : Int32 → Prop} : ∀ c ∈ ([] : List Int32), P c := fun _ q => nomatch q
theorem own_cS {P : Int32 → Prop} {y : Int32} {L : List Int32} (q : P y) (r : ∀ c ∈ L, P c) : ∀ c ∈ y :: L, P c := fun x z => (List.mem_cons.mp z).elim (fun u => u ▸ q) (r x)
theorem own_nar_ref {v : Value} {t : FieldType} (h : v.isRef = true) (ht : t.isReference = true := by rfl) : narrow t v = v := by
  cases v <;> cases t <;> first | rfl | (cases h; done) | (cases ht; done)
theorem own_fits_ref {v : Value} {t : FieldType} (h : v.isRef = true) (ht : t.isReference = true := by rfl) : fits t v = true := by
  cases v <;> cases t <;> first | rfl | (cases h; done) | (cases ht; done)
theorem own_nar_byte {x : Int32} : nar .byte (x.toInt8.toInt32) = x.toInt8.toInt32 := by
  show (x.toInt8.toInt32).toInt8.toInt32 = _
  simp
theorem own_eqInt {args : Array Value} {first s : State} {o : Option Outcome} {idx : List Nat} {t : Term} {n : Int32} (h : (Jvm.Cond.eq t (Term.int n)).value args first o s idx = some true) : t.eval args first o idx s = some (.int n) := by
  simp only [Cond.value, Term.eval] at h
  cases ht : t.eval args first o idx s with
  | none => simp [ht] at h
  | some x => cases x <;> simp_all
/-- the bytes of a Latin-1 text -/
def bys (cs : List Int32) : List Value := (cs.map fun c => c.toInt8.toInt32).map Value.int
/-- the String at a: Latin-1, its byte[] at b, its chars cs -/
def Str (Z : State) (h : Heap) (a b : Addr) (kb : ClassId) (cs : List Int32) : Prop :=
  Exa Z h a "java/lang/String" ∧ Fld Z h a "java/lang/String" "coder" "B" (.int 0) ∧ Fld Z h a "java/lang/String" "value" "[B" (.ref b) ∧
    Arv Z h b kb .byte (Int32.ofNat cs.length) (bys cs) (.int 0) ∧ (∀ c ∈ cs, B8 c) ∧ cs.length ≤ 4000
theorem Str.keep {a b : Addr} {kb : ClassId} {cs : List Int32} {ws : List Addr} (S : Str Z h a b kb cs) (K : Keep h h' ws) (q1 : a ∉ ws) (q2 : b ∉ ws) : Str Z h' a b kb cs :=
  ⟨S.1.keep K, S.2.1.keep K q1, S.2.2.1.keep K q1, S.2.2.2.1.keep K q2, S.2.2.2.2⟩
theorem own_instanceofNull (C : Core p l e R s m args below meth c bs ml ret nm own Z a0 EL nw vm T h k n) {ix : Nat} {target : State} (hg : g.method = m) (hs : g.stack = .null :: rest) (hd : decode bs g.pc = .ok (.instanceof ix, 3)) (hr : Steps p.tables e below (T.setTop { g with pc := g.pc + 3, stack := .int 0 :: rest }) target) : Steps p.tables e below (T.setTop g) target := by
  obtain ⟨-, ⟨L, X, -⟩, -⟩ := id C
  exact X.instanceofNull C.hx hg hs (C.dec hd) _ hr
theorem own_checkcastNull (C : Core p l e R s m args below meth c bs ml ret nm own Z a0 EL nw vm T h k n) {ix : Nat} {target : State} (hg : g.method = m) (hs : g.stack = .null :: rest) (hd : decode bs g.pc = .ok (.checkcast ix, 3)) (hr : Steps p.tables e below (T.setTop { g with pc := g.pc + 3 }) target) : Steps p.tables e below (T.setTop g) target := by
  obtain ⟨-, ⟨L, X, -⟩, -⟩ := id C
  exact X.checkcastNull C.hx hg hs (C.dec hd) _ hr
theorem own_ldc2J (C : Core p l e R s m args below meth c bs ml ret nm own Z a0 EL nw vm T h k n) {ix : Nat} {v : Int64} {target : State} (w : (Jvm.Cond.constantLong own ix v).before a0 Z = true) (hg : g.method = m) (hd : decode bs g.pc = .ok (.ldc2_w ix, 3)) (hr : Steps p.tables e below (T.setTop { g with pc := g.pc + 3, stack := .long v :: g.stack }) target) : Steps p.tables e below (T.setTop g) target := by
  obtain ⟨-, ⟨L, X, -⟩, -⟩ := id C
  exact X.ldc2J C.hx C.hown (mvT C.warm w) hg (C.dec hd) hr
variable {F : Outcome → State → Prop} {pc pc' : Nat} {Ls : Array Slot}
theorem Core.instY (C : Core p l e R s m args below meth c bs ml ret nm own Z a0 EL nw vm T h k n) {K : String} {ix : Nat} {a : Addr} (w : (Jvm.Cond.classLink own ix K).before a0 Z = true) (f : Ins Z h a K true) (hd : decode bs pc = .ok (.instanceof ix, 3)) (hp : pc + 3 = pc')
    (Kk : ∀ T', Core p l e R s m args below meth c bs ml ret nm own Z a0 EL nw vm T' h k n → Endw p e below T' (mkF m pc' Ls (.int 1 :: rest)) F) : Endw p e below T (mkF m pc Ls (.ref a :: rest)) F := by
  subst hp
  obtain ⟨-, ⟨L, X, N⟩, -⟩ := id C
  obtain ⟨T', X', e', st⟩ := RoadKit.instY X C.hx C.warm C.hown w C.heq f (g := mkF m pc Ls (.ref a :: rest)) rfl rfl (C.dec hd)
  exact Endw.st st (Kk T' (C.same X' N e'))
theorem Core.castY (C : Core p l e R s m args below meth c bs ml ret nm own Z a0 EL nw vm T h k n) {K : String} {ix : Nat} {a : Addr} (w : (Jvm.Cond.classLink own ix K).before a0 Z = true) (f : Ins Z h a K true) (hd : decode bs pc = .ok (.checkcast ix, 3)) (hp : pc + 3 = pc')
    (Kk : ∀ T', Core p l e R s m args below meth c bs ml ret nm own Z a0 EL nw vm T' h k n → Endw p e below T' (mkF m pc' Ls (.ref a :: rest)) F) : Endw p e below T (mkF m pc Ls (.ref a :: rest)) F := by
  subst hp
  obtain ⟨-, ⟨L, X, N⟩, -⟩ := id C
  obtain ⟨T', X', e', st⟩ := RoadKit.castY X C.hx C.warm C.hown w C.heq f (g := mkF m pc Ls (.ref a :: rest)) rfl rfl (C.dec hd)
  exact Endw.st st (Kk T' (C.same X' N e'))
theorem Core.instNo (C : Core p l e R s m args below meth c bs ml ret nm own Z a0 EL nw vm T h k n) {K Cl : String} {ix : Nat} {a : Addr} (w : (Jvm.Cond.classLink own ix K).before a0 Z = true) (E : Exa Z h a Cl) (f : ∃ c t, Z.vm.findClass Cl = some c ∧ Z.vm.findClass K = some t ∧ Z.vm.assignable c t = false) (hd : decode bs pc = .ok (.instanceof ix, 3)) (hp : pc + 3 = pc')
    (Kk : ∀ T', Core p l e R s m args below meth c bs ml ret nm own Z a0 EL nw vm T' h k n → Endw p e below T' (mkF m pc' Ls (.int 0 :: rest)) F) : Endw p e below T (mkF m pc Ls (.ref a :: rest)) F := by
  subst hp
  obtain ⟨-, ⟨L, X, N⟩, -⟩ := id C
  obtain ⟨T', X', e', st⟩ := RoadKit.instNo X C.hx C.warm C.hown w C.heq E f (g := mkF m pc Ls (.ref a :: rest)) rfl rfl (C.dec hd)
  exact Endw.st st (Kk T' (C.same X' N e'))
theorem own_found {K : String} {i : Nat} (wk : (Jvm.Cond.instantiable K i).before a0 Z = true) : ∃ t kt, Z.vm.findClass K = some t ∧ Z.vm.classes[t]? = some kt ∧ kt.kind = .ordinary ∧ kt.isInterface = false := by
  obtain ⟨t, kt, h1, h2, h3, h4, -⟩ := Cond.instantiable_spec wk
  exact ⟨t, kt, h1, h2, h3, (Bool.or_eq_false_iff.mp h4).1⟩
theorem own_NSroot {O K : String} {i : Nat} (w : (Jvm.Cond.noSuperclass O).before a0 Z = true) (wk : (Jvm.Cond.instantiable K i).before a0 Z = true) (hn : O ≠ K) : NS Z O K := by
  obtain ⟨c, k, h1, h2, h3, -, -⟩ := Cond.noSuperclass_spec w
  obtain ⟨t, -, g1, -⟩ := own_found wk
  have ne := ids_ne h1 g1 hn
  refine ⟨c, t, h1, g1, fun fuel => ?_⟩
  cases fuel with
  | zero => rfl
  | succ f => simp [Vm.isSubclassAux, ne, h2, h3]
theorem own_NSno {Cl S K : String} {i : Nat} (w : (Jvm.Cond.superclass Cl S).before a0 Z = true) (wk : (Jvm.Cond.instantiable K i).before a0 Z = true) (n : NS Z Cl K) (hn : Cl ≠ K) : ∃ c t, Z.vm.findClass Cl = some c ∧ Z.vm.findClass K = some t ∧ Z.vm.assignable c t = false := by
  obtain ⟨c, t, h0, g0, n3⟩ := n
  obtain ⟨p, k, kp, h1, h2, h3, h4, h5, -, h7⟩ := Cond.superclass_spec h0 w
  obtain ⟨t', kt, g1, g2, g3, g4⟩ := own_found wk
  cases g0.symm.trans g1
  have ne := ids_ne h0 g0 hn
  refine ⟨c, t, h0, g0, ?_⟩
  show Z.vm.assignableAux (255 + 1) c t = false
  simp [Vm.assignableAux, ne, h2, g2, h5, g3, g4, Vm.isSubclass, n3]
end Help
end Jvm.Own
namespace Jvm.Own
open Jvm Jvm.ClassFile Sem Op Lib Jvm.Free Jvm.Stand Jvm.LawKit Jvm.RoadKit Bundle
section Calls
variable {p : Program} {l : Launch} {e : Env} {R : Room} {s : State} {m : MethodId} {args : Array Value} {below : List Frame} {meth : Method} {c : Code}
variable {bs : ByteArray} {ml : Nat} {ret : Option FieldType} {nm own : String} {Z : State} {a0 : Array Value} {EL : List (String × Nat)} {nw nw' : Bool} {vm vm' : Vm} {T T' : State} {h h' : Heap} {k n k' n' : Nat} {F : Outcome → State → Prop} {pc pc' : Nat} {Ls : Array Slot} {rest : List Value} {g g' : JFrame} {Q : Option Value → Heap → Prop}
/-- what a callee that interns nothing has made is safe -/
theorem own_safe_new {t : Addr} (M : ∀ y, Bk Z EL vm' h' y → Bk Z EL vm h y) (ge : h.size ≤ t) : Safe Z EL vm' h' t := fun b => Safe.new ge (M t b)
/-- the class of y is no interface -/
def Plain (Z : State) (C : String) : Prop := ∃ c k, Z.vm.findClass C = some c ∧ Z.vm.classes[c]? = some k ∧ k.isInterface = false
theorem own_plain {C : String} {y : MethodName} (w : (Jvm.Cond.selects C y y).before a0 Z = true) (wi : (Jvm.Cond.instanceMethod y).before a0 Z = true) : Plain Z y.cls := by
  obtain ⟨mk, methM, hn, -, -, -⟩ := Cond.instanceMethod_spec wi
  obtain ⟨kr, h1, h2⟩ := notFace_of_selects w _ hn
  exact ⟨_, kr, findClass_of_methodNamed hn, h1, h2⟩
theorem own_nf {y : MethodName} (P : Plain Z y.cls) : NotFace Z y := fun r0 h0 => by
  obtain ⟨cc, kc, h1, h2, h3⟩ := P
  cases h1.symm.trans (findClass_of_methodNamed h0)
  exact ⟨kc, h2, h3⟩
theorem own_same {y : MethodName} (w : (Jvm.Cond.declares y).before a0 Z = true) (P : Plain Z y.cls) (hy : y.cls ≠ "java/lang/invoke/MethodHandle" ∧ y.cls ≠ "java/lang/invoke/VarHandle") : (Jvm.Cond.sameMethod y.cls y.cls y.name y.desc).before a0 Z = true := by
  obtain ⟨r0, r, hn, -, -, -⟩ := Cond.declares_spec w
  obtain ⟨c, kc, h1, h2, h3⟩ := P
  have hf := State.methodFound?_of_named hn hy
  have hn' : Z.methodNamed? ⟨y.cls, y.name, y.desc⟩ = some r0 := hn
  simp [Cond.before, Cond.holds, Cond.value, h1, hf, hn', h2, h3]
theorem Core.super (C : Core p l e R s m args below meth c bs ml ret nm own Z a0 EL nw vm T h k n) {y : MethodName} {Cl : String} {ix : Nat} {bytes : ByteArray} {mx : Nat} {rt : Option FieldType} {rm : Room} {xs : List Addr} {W : Nat} {a : Addr} {argsL st : List Value} {as' : Array Value} (hne : y.name ≠ "<init>")
    (w1 : (Jvm.Cond.methodLink own ix y).before a0 Z = true) (w2 : (Jvm.Cond.sameMethod y.cls y.cls y.name y.desc).before a0 Z = true) (w6 : (Jvm.Cond.instanceMethod y).before a0 Z = true) (w5 : (Jvm.Cond.superclass own y.cls).before a0 Z = true) (w3 : (Jvm.Cond.code y bytes mx rt).before a0 Z = true) (w4 : (Jvm.Cond.initialized y.cls).before a0 Z = true)
    (hM : Met l Z EL nw' y bytes mx rt [] rm as' h xs Q) (hnn : nw = true → nw' = true) (has : as' = (.ref a :: argsL).toArray) (E : Exa Z h a Cl) (hs : ∀ x ∈ xs, x < h.size ∧ Safe Z EL vm h x) (hf : rm.frames + 1 ≤ R.frames) (hl : W + (mx + 11) + rm.locals ≤ R.locals) (hk : k + rm.cells ≤ R.cells) (hn : n + rm.slots ≤ R.slots)
    (hlen : ∀ sig, parseMethodDescriptor y.desc = some sig → argsL.length = sig.parameters.length) (hst : st = argsL.reverse ++ .ref a :: rest) (hW : (rest.map fun v => v.category).sum ≤ W) (hsz : Ls.size = ml) (hd : decode bs pc = .ok (.invokespecial ix, 3)) (hp : pc + 3 = pc')
    (K : ∀ vm' T' h' v, Core p l e R s m args below meth c bs ml ret nm own Z a0 EL nw vm' T' h' (k + rm.cells) (n + rm.slots) → CHr Z EL vm h vm' h' → (nw' = true → ∀ y, Bk Z EL vm' h' y → Bk Z EL vm h y) → Q v h' → Endw p e below T' (mkF m pc' Ls (v.toList ++ rest)) F) : Endw p e below T (mkF m pc Ls st) F := by
  subst hp has
  obtain ⟨-, ⟨L, X, N⟩, -⟩ := id C
  obtain ⟨v, vm₁, B, -, X', h2, -, ⟨L', ⟨q1, q2, q3⟩, e1, e2, e3, A, M⟩, st'⟩ := RoadKit.superBackS (a0 := a0) (s := s.setVm vm) (K := Cl) X C.hx C.warm (y := y) C.hown w1 w2 w6 w5 hne (backOwn (W := W) hM C.warm w3 w4 hf hl C.ew C.chv hs) C.heq (Ins.self E) (g := mkF m pc Ls st) rfl (hsz.trans C.mlq.symm) w3 (argsL := argsL) (rest := rest) hlen hst (by show 2 * 0 + _ ≤ _; omega) (C.dec hd) (fun _ _ => ⟨rfl, C.heq, hk, hn⟩)
  exact Endw.ste st' (K _ _ _ v (C.behind X' h2 N q2 q3 e1 e2 e3 A (fun z => M (hnn z))) A (fun z => (M z).2) q1)
theorem Core.priv (C : Core p l e R s m args below meth c bs ml ret nm own Z a0 EL nw vm T h k n) {y : MethodName} {Cl : String} {ix : Nat} {bytes : ByteArray} {mx : Nat} {rt : Option FieldType} {rm : Room} {xs : List Addr} {W : Nat} {a : Addr} {argsL st : List Value} {as' : Array Value}
    (w1 : (Jvm.Cond.methodLink own ix y).before a0 Z = true) (w6 : (Jvm.Cond.instanceMethod y).before a0 Z = true) (P : Plain Z y.cls) (w7 : (Jvm.Cond.privateMethod y).before a0 Z = true) (w3 : (Jvm.Cond.code y bytes mx rt).before a0 Z = true) (w4 : (Jvm.Cond.initialized y.cls).before a0 Z = true) (hy : y.cls ≠ "java/lang/invoke/MethodHandle" ∧ y.cls ≠ "java/lang/invoke/VarHandle")
    (hM : Met l Z EL nw' y bytes mx rt [] rm as' h xs Q) (hnn : nw = true → nw' = true) (has : as' = (.ref a :: argsL).toArray) (E : Exa Z h a Cl) (hs : ∀ x ∈ xs, x < h.size ∧ Safe Z EL vm h x) (hf : rm.frames + 1 ≤ R.frames) (hl : W + (mx + 11) + rm.locals ≤ R.locals) (hk : k + rm.cells ≤ R.cells) (hn : n + rm.slots ≤ R.slots)
    (hlen : ∀ sig, parseMethodDescriptor y.desc = some sig → argsL.length = sig.parameters.length) (hst : st = argsL.reverse ++ .ref a :: rest) (hW : (rest.map fun v => v.category).sum ≤ W) (hsz : Ls.size = ml) (hd : decode bs pc = .ok (.invokevirtual ix, 3)) (hp : pc + 3 = pc')
    (K : ∀ vm' T' h' v, Core p l e R s m args below meth c bs ml ret nm own Z a0 EL nw vm' T' h' (k + rm.cells) (n + rm.slots) → CHr Z EL vm h vm' h' → (nw' = true → ∀ y, Bk Z EL vm' h' y → Bk Z EL vm h y) → Q v h' → Endw p e below T' (mkF m pc' Ls (v.toList ++ rest)) F) : Endw p e below T (mkF m pc Ls st) F := by
  subst hp has
  obtain ⟨-, ⟨L, X, N⟩, -⟩ := id C
  obtain ⟨cell, c1, c2⟩ := Exa.cell E
  obtain ⟨cP, kP, p1, p2, p3⟩ := P
  have w5 : (Jvm.Cond.selects y.cls y y).before a0 Z = true := selects_self_of_private p1 p2 p3 (Cond.privateMethod_at w7) w6 hy
  obtain ⟨v, vm₁, B, -, X', h2, -, ⟨L', ⟨q1, q2, q3⟩, e1, e2, e3, A, M⟩, st'⟩ := X.privateBackS C.hx (y := y) C.hown (mvT C.warm w1) (mvT C.warm w6) (mvT C.warm w5) (Cond.privateMethod_at (mvP (s := s.setVm vm) C.warm w7 (args := #[]))) (mvT C.warm w3) hy (backOwn (W := W) hM C.warm w3 w4 hf hl C.ew C.chv hs) (g := mkF m pc Ls st) rfl (hsz.trans C.mlq.symm) (Steps.refl _) (a := a) (by rw [C.heq]; exact c1) c2 (argsL := argsL) (rest := rest) hlen hst (by show 2 * 0 + _ ≤ _; omega) (C.dec hd) (fun _ _ => ⟨rfl, C.heq, hk, hn⟩)
  exact Endw.ste st' (K _ _ _ v (C.behind X' h2 N q2 q3 e1 e2 e3 A (fun z => M (hnn z))) A (fun z => (M z).2) q1)
/-- System.arraycopy between two primitive arrays of one kind -/
theorem Core.acopy (C : Core p l e R s m args below meth c bs ml ret nm own Z a0 EL nw vm T h k n) {ix : Nat} {a b : Addr} {k1 k2 : ClassId} {ty : FieldType} {z1 z2 sp dp nn : Int32} {vs vd vr : List Value} {d1 d2 : Value} {W : Nat}
    (w1 : (Jvm.Cond.methodLink own ix Jvm.Stand.acN).before a0 Z = true) (w2 : (Jvm.Cond.native Jvm.Stand.acN).before a0 Z = true) (w3 : (Jvm.Cond.static Jvm.Stand.acN).before a0 Z = true) (w4 : (Jvm.Cond.initialized "java/lang/System").before a0 Z = true)
    (A : Arv Z h a k1 ty z1 vs d1) (B : Arv Z h b k2 ty z2 vd d2) (hty : refKind ty = false) (h1 : ¬ sp < 0) (h2 : ¬ dp < 0) (h3 : ¬ nn < 0) (h4 : sp.toNatClampNeg + nn.toNatClampNeg ≤ z1.toNatClampNeg) (h5 : dp.toNatClampNeg + nn.toNatClampNeg ≤ z2.toNatClampNeg) (hl : dp.toNatClampNeg + nn.toNatClampNeg ≤ vd.length)
    (hr : vd.take dp.toNatClampNeg ++ ((List.range nn.toNatClampNeg).map fun i => vs.getD (sp.toNatClampNeg + i) d1) ++ vd.drop (dp.toNatClampNeg + nn.toNatClampNeg) = vr) (ge : Z.heap.size ≤ b) (sf : Safe Z EL vm h b) (hsz : Ls.size = ml) (hd : decode bs pc = .ok (.invokestatic ix, 3)) (hp : pc + 3 = pc')
    (hf : 1 ≤ R.frames) (hW : (rest.map fun v => v.category).sum ≤ W) (hlo : W + (nativeFrameWords "java/lang/System" "arraycopy" 5 + 11) ≤ R.locals)
    (K : ∀ T' h', Core p l e R s m args below meth c bs ml ret nm own Z a0 EL nw vm T' h' k n → Keep h h' [b] → CHr Z EL vm h vm h' → Arv Z h' b k2 ty z2 vr d2 → Endw p e below T' (mkF m pc' Ls rest) F) : Endw p e below T (mkF m pc Ls (.int nn :: .int dp :: .ref b :: .int sp :: .ref a :: rest)) F := by
  subst hp hr
  obtain ⟨-, ⟨L, X, N⟩, -⟩ := id C
  obtain ⟨T', h', L', X', e', N', Kp, V, st⟩ := RoadKit.cpA X C.hx C.warm C.hown w1 w2 w3 w4 C.heq A B (Or.inl ⟨rfl, hty⟩) h1 h2 h3 h4 h5 rfl hl N ge (g := mkF m pc Ls (.int nn :: .int dp :: .ref b :: .int sp :: .ref a :: rest)) rfl (hsz.trans C.mlq.symm) rfl (C.dec hd) hf (W := W) (by show 2 * 0 + _ ≤ _; omega) hlo
  exact Endw.st st (K T' h' (C.on (ws := [b]) X' N' e' Kp (allS ge all0) (sfS sf sf0)) Kp (CHr.keep Kp (sfS sf sf0) C.chv) V)
end Calls
end Jvm.Own
namespace Jvm.OwnF
open Jvm.FP Jvm.FP.Core
/-- 2.0 -/
def two : UInt64 := 4611686018427387904
theorem val_two : val64 two = .fin false (2 ^ 52) (-51) := by decide +kernel
theorem qm : b64.qmin = -1074 := by decide
theorem half_val {x : UInt64} {s : Bool} {c : Nat} {q : Int} (hx : val64 x = .fin s c q) (hq : c ≠ 0 → b64.qmin < q) : val64 (Core.ddiv x two) = .fin s c (if c = 0 then b64.qmin else q - 1) := by
  rw [val64_ddiv, hx, val_two]
  have e0 : quotient b64 (.fin s c q) (.fin false (2 ^ 52) (-51)) = roundRatio b64 (s != false) c (2 ^ 52) (q - (-51)) := by
    unfold quotient; exact if_neg (by decide)
  rw [e0]
  have hs : (s != false) = s := by cases s <;> rfl
  rw [hs]
  by_cases h0 : c = 0
  · subst h0; simp [roundRatio]
  · rw [if_neg h0]
    have F := val64_fits x
    rw [hx] at F
    obtain ⟨f1, f2, f3, f4⟩ := F
    have hq' := hq h0
    have f4' : b64.tails ≤ c := f4.resolve_left (by omega)
    refine roundRatio_exact good_b64 (by decide) ⟨f1, by omega, by omega, Or.inr f4'⟩ ?_
    rw [show (q - (-51) - (q - 1)).toNat = 52 by omega, show (q - 1 - (q - (-51))).toNat = 0 by omega]
    omega
theorem order_shift (t : Bool) (d : Nat) (r : Int) (s : Bool) (c : Nat) (q : Int) : order (.fin t d r) (.fin s c (q - 1)) = order (.fin t d (r + 1)) (.fin s c q) := by
  simp only [order, inUnits]
  rw [show min (r + 1) q = min r (q - 1) + 1 by omega, show r + 1 - (min r (q - 1) + 1) = r - min r (q - 1) by omega, show q - (min r (q - 1) + 1) = q - 1 - min r (q - 1) by omega]
theorem whole_shift {i : Int} {t : Bool} {d : Nat} {r : Int} (h : Whole i (.fin t d r)) : Whole (2 * i) (.fin t d (r + 1)) := by
  have h' : signed t (d * 2 ^ r.toNat) = i * ((2 ^ (-r).toNat : Nat) : Int) := h
  show signed t (d * 2 ^ (r + 1).toNat) = 2 * i * ((2 ^ (-(r + 1)).toNat : Nat) : Int)
  by_cases hr : 0 ≤ r
  · rw [show (r + 1).toNat = r.toNat + 1 by omega, show (-(r + 1)).toNat = 0 by omega, Nat.pow_succ, ← Nat.mul_assoc, signed_mul, h', show (-r).toNat = 0 by omega]
    simp; omega
  · rw [show (r + 1).toNat = 0 by omega]
    rw [show r.toNat = 0 by omega, show (-r).toNat = (-(r + 1)).toNat + 1 by omega, Nat.pow_succ] at h'
    rw [h']; push_cast; rw [Int.mul_comm 2 i, Int.mul_assoc, Int.mul_comm 2]
theorem whole_q {i : Int} {s : Bool} {c : Nat} {q : Int} (hw : Whole i (.fin s c q)) (hf : Core.fits b64 (.fin s c q)) (hc : c ≠ 0) : b64.qmin < q := by
  obtain ⟨f1, f2, f3, f4⟩ := hf
  rcases Int.lt_or_eq_of_le f2 with h | h
  · exact h
  · exfalso
    have h' : signed s (c * 2 ^ q.toNat) = i * ((2 ^ (-q).toNat : Nat) : Int) := hw
    rw [← h, qm] at h'
    have e1 : ((-1074 : Int)).toNat = 0 := by decide
    have e2 : (-(-1074 : Int)).toNat = 1074 := by decide
    rw [e1, e2, Nat.pow_zero, Nat.mul_one] at h'
    have h2 := congrArg Int.natAbs h'
    rw [natAbs_signed, Int.natAbs_mul, Int.natAbs_natCast] at h2
    have f1' : c < 2 ^ 53 := f1
    have hi : i.natAbs ≠ 0 := fun z => hc (by rw [h2, z, Nat.zero_mul])
    have h3 : 2 ^ 1074 ≤ i.natAbs * 2 ^ 1074 := Nat.le_mul_of_pos_left _ (Nat.pos_of_ne_zero hi)
    have h4 : (2 : Nat) ^ 53 ≤ 2 ^ 1074 := Nat.pow_le_pow_right (by decide) (by decide)
    omega
/-- a whole number against half a whole number -/
theorem cmp_half {x y : UInt64} {i j : Int} (hx : DInt i x) (hy : DInt j y) : Core.dcmp x (Core.ddiv y two) = some (compare (2 * i) j) := by
  show order (val64 x) (val64 (Core.ddiv y two)) = _
  have hx' : Whole i (val64 x) := hx
  have hy' : Whole j (val64 y) := hy
  cases ex : val64 x with
  | nan => rw [ex] at hx'; exact hx'.elim
  | inf => rw [ex] at hx'; exact hx'.elim
  | fin t d r =>
    cases ey : val64 y with
    | nan => rw [ey] at hy'; exact hy'.elim
    | inf => rw [ey] at hy'; exact hy'.elim
    | fin s c q =>
      rw [ex] at hx'; rw [ey] at hy'
      have hf := val64_fits y
      rw [ey] at hf
      rw [half_val ey (whole_q hy' hf)]
      by_cases h0 : c = 0
      · rw [if_pos h0]
        subst h0
        have hj : j = 0 := by
          have h' : signed s (0 * 2 ^ q.toNat) = j * ((2 ^ (-q).toNat : Nat) : Int) := hy'
          rw [Nat.zero_mul, signed_zero] at h'
          have p := Nat.two_pow_pos (-q).toNat
          rcases Int.mul_eq_zero.mp h'.symm with z | z
          · exact z
          · omega
        have w0 : Whole 0 (.fin s 0 b64.qmin) := by show signed s (0 * _) = 0 * _; rw [Nat.zero_mul, signed_zero, Int.zero_mul]
        rw [order_whole hx' w0, hj]
        congr 1
        simp only [compare, compareOfLessAndEq]
        by_cases z : i < 0
        · rw [if_pos z, if_pos (by omega)]
        · rw [if_neg z, if_neg (show ¬ 2 * i < 0 by omega)]
          by_cases z2 : i = 0
          · rw [if_pos z2, if_pos (by omega)]
          · rw [if_neg z2, if_neg (by omega)]
      · rw [if_neg h0, order_shift]
        exact order_whole (whole_shift hx') hy'
end Jvm.OwnF
namespace Jvm.Own
open Jvm Jvm.ClassFile Sem Op Lib Jvm.Free Jvm.Stand Jvm.LawKit Jvm.RoadKit Bundle Jvm.Free.Fl
section FltS
variable {p : Program} {l : Launch} {e : Env} {R : Room} {s : State} {m : MethodId} {args : Array Value} {below : List Frame} {meth : Method} {c : Code}
variable {bs : ByteArray} {ml : Nat} {ret : Option FieldType} {nm own : String} {Z : State} {a0 : Array Value} {EL : List (String × Nat)} {nw : Bool} {vm : Vm} {T T' : State} {h h' : Heap} {k n : Nat} {F : Outcome → State → Prop} {pc pc' : Nat} {Ls : Array Slot} {rest : List Value} {g : JFrame}
theorem own_ldc2D (C : Core p l e R s m args below meth c bs ml ret nm own Z a0 EL nw vm T h k n) {ix : Nat} {v : UInt64} {target : State} (w : (Jvm.Cond.constantDouble own ix v).before a0 Z = true) (hg : g.method = m) (hd : decode bs g.pc = .ok (.ldc2_w ix, 3)) (hr : Steps p.tables e below (T.setTop { g with pc := g.pc + 3, stack := .double v :: g.stack }) target) : Steps p.tables e below (T.setTop g) target := by
  obtain ⟨-, ⟨L, X, -⟩, -⟩ := id C
  exact X.ldc2DoubleC C.hx C.hown (mvT C.warm w) hg (C.dec hd) _ hr
theorem Core.daload (C : Core p l e R s m args below meth c bs ml ret nm own Z a0 EL nw vm T h k n) {a : Addr} {kA : ClassId} {z j : Int32} {vs : List Value} {dv v : Value} (A : Arv Z h a kA .double z vs dv) (hj : ¬ j < 0 ∧ j < z) (hv : vs.getD j.toNatClampNeg dv = v) (hd : decode bs pc = .ok (.daload, 1)) (hp : pc + 1 = pc')
    (K : Endw p e below T (mkF m pc' Ls (v :: rest)) F) : Endw p e below T (mkF m pc Ls (.int j :: .ref a :: rest)) F := by
  subst hp
  obtain ⟨-, ⟨L, X, N⟩, -⟩ := id C
  obtain ⟨cl, Ar, -, S, hz, H, -⟩ := A
  exact Endw.st (fun t r => X.daload C.hx (by rw [C.heq]; exact Ar.1) (State.isArrayOf_alike C.warm.alike Ar.2.1) Ar.2.2 (inb_of S hj) (H.at (inb_of S hj) hv) (g := mkF m pc Ls (.int j :: .ref a :: rest)) rfl rfl (C.dec hd) t r) K
theorem Core.dastore (C : Core p l e R s m args below meth c bs ml ret nm own Z a0 EL nw vm T h k n) {a : Addr} {kA : ClassId} {z j : Int32} {x : UInt64} {vs vs' : List Value} {dv : Value} (A : Arv Z h a kA .double z vs dv) (hj : ¬ j < 0 ∧ j < z) (i : Nat) (hi : j.toNatClampNeg = i) (hl : i < vs.length) (ge : Z.heap.size ≤ a) (hvs : vs.set i (.double x) = vs') (hd : decode bs pc = .ok (.dastore, 1)) (hp : pc + 1 = pc')
    (K : ∀ T' h', Core p l e R s m args below meth c bs ml ret nm own Z a0 EL nw vm T' h' k n → Keep h h' [a] → CHr Z EL vm h vm h' → Arv Z h' a kA .double z vs' dv → Endw p e below T' (mkF m pc' Ls rest) F) : Endw p e below T (mkF m pc Ls (.double x :: .int j :: .ref a :: rest)) F := by
  subst hp hvs
  obtain ⟨-, ⟨L, X, N⟩, -⟩ := id C
  have sf : Safe Z EL vm h a := Safe.arv C.warm.alike A (by decide)
  obtain ⟨cl, Ar, q1, S, hz, H, G⟩ := A
  obtain ⟨T', h', X', e', W, st⟩ := RoadKit.stD X C.hx C.warm C.heq Ar (inb_of S hj) (g := mkF m pc Ls (.double x :: .int j :: .ref a :: rest)) rfl rfl (C.dec hd)
  exact Endw.st st (K T' h' (C.on (ws := [a]) X' (N.app fun y hy => by cases List.mem_singleton.mp hy; exact ge) e' (Keep.of_wr W) (allS ge all0) (sfS sf sf0)) (Keep.of_wr W) (CHr.keep (Keep.of_wr W) (sfS sf sf0) C.chv) (Arv.set Ar q1 S hz H G rfl W i hi hl))
theorem Core.minD (C : Core p l e R s m args below meth c bs ml ret nm own Z a0 EL nw vm T h k n) {ix W : Nat} {a b r : UInt64} (w1 : (Jvm.Cond.methodLink own ix Abs.minDN).before a0 Z = true) (w2 : (Jvm.Cond.static Abs.minDN).before a0 Z = true) (w3 : (Jvm.Cond.initialized "java/lang/Math").before a0 Z = true) (w4 : (Jvm.Cond.code Abs.minDN Abs.minDCode 4 (some .double)).before a0 Z = true)
    (ha : NoNaN64 a) (hb : NoNaN64 b) (hr : Native.java_lang_Math.nans.pick64 false a b = r) (hfr : 1 ≤ R.frames) (hlo : W + 15 ≤ R.locals) (hk : k ≤ R.cells) (hn : n ≤ R.slots) (hW : (rest.map fun v => v.category).sum ≤ W) (hsz : Ls.size = ml) (hd : decode bs pc = .ok (.invokestatic ix, 3)) (hp : pc + 3 = pc')
    (K : ∀ T', Core p l e R s m args below meth c bs ml ret nm own Z a0 EL nw vm T' h k n → Endw p e below T' (mkF m pc' Ls (.double r :: rest)) F) : Endw p e below T (mkF m pc Ls (.double b :: .double a :: rest)) F := by
  subst hp
  obtain ⟨-, ⟨L, X, N⟩, -⟩ := id C
  obtain ⟨T', X', e', st⟩ := RoadKit.natS X C.hx C.warm C.hown w1 w2 w3 w4 (by decide) C.heq (W := W) (fun w => Abs.minD_pays a b w hfr hlo) (g := mkF m pc Ls (.double b :: .double a :: rest)) rfl (hsz.trans C.mlq.symm) (argsL := [.double a, .double b]) (rest := rest) (lenOf (by decide +kernel : parseMethodDescriptor "(DD)D" = some ⟨[.double, .double], some .double⟩) rfl) rfl (by show 2 * 0 + _ ≤ _; omega) (C.dec hd) hk hn ⟨rfl, ha, hb⟩ (val' := .double r) (by rw [hr])
  exact Endw.st st (K T' (C.same X' N e'))
theorem Core.maxD (C : Core p l e R s m args below meth c bs ml ret nm own Z a0 EL nw vm T h k n) {ix W : Nat} {a b r : UInt64} (w1 : (Jvm.Cond.methodLink own ix Abs.maxDN).before a0 Z = true) (w2 : (Jvm.Cond.static Abs.maxDN).before a0 Z = true) (w3 : (Jvm.Cond.initialized "java/lang/Math").before a0 Z = true) (w4 : (Jvm.Cond.code Abs.maxDN Abs.maxDCode 4 (some .double)).before a0 Z = true)
    (ha : NoNaN64 a) (hb : NoNaN64 b) (hr : Native.java_lang_Math.nans.pick64 true a b = r) (hfr : 1 ≤ R.frames) (hlo : W + 15 ≤ R.locals) (hk : k ≤ R.cells) (hn : n ≤ R.slots) (hW : (rest.map fun v => v.category).sum ≤ W) (hsz : Ls.size = ml) (hd : decode bs pc = .ok (.invokestatic ix, 3)) (hp : pc + 3 = pc')
    (K : ∀ T', Core p l e R s m args below meth c bs ml ret nm own Z a0 EL nw vm T' h k n → Endw p e below T' (mkF m pc' Ls (.double r :: rest)) F) : Endw p e below T (mkF m pc Ls (.double b :: .double a :: rest)) F := by
  subst hp
  obtain ⟨-, ⟨L, X, N⟩, -⟩ := id C
  obtain ⟨T', X', e', st⟩ := RoadKit.natS X C.hx C.warm C.hown w1 w2 w3 w4 (by decide) C.heq (W := W) (fun w => Abs.maxD_pays a b w hfr hlo) (g := mkF m pc Ls (.double b :: .double a :: rest)) rfl (hsz.trans C.mlq.symm) (argsL := [.double a, .double b]) (rest := rest) (lenOf (by decide +kernel : parseMethodDescriptor "(DD)D" = some ⟨[.double, .double], some .double⟩) rfl) rfl (by show 2 * 0 + _ ≤ _; omega) (C.dec hd) hk hn ⟨rfl, ha, hb⟩ (val' := .double r) (by rw [hr])
  exact Endw.st st (K T' (C.same X' N e'))
theorem Core.retD (C : Core p l e R s m args below meth c bs ml ret nm own Z a0 EL nw vm T h k n) {Q : Option Value → Heap → Prop} {K N : Nat} {x : UInt64} (hr : ret = some .double) (hd : decode bs pc = .ok (.dreturn, 1)) (hk : k ≤ K) (hn : n ≤ N) (q : Q (some (.double x)) h) : Endw p e below T (mkF m pc Ls (.double x :: rest)) (Fin s Z EL nw Q K N) :=
  C.retX hr rfl (Or.inr (Or.inr (Or.inl ⟨rfl, rfl, _, rfl⟩))) hd hk hn q
/-! whole doubles -/
theorem own_b32 (x : Int32) : B53 x.toInt64 := by
  have h1 := x.toInt_lt; have h2 := x.le_toInt
  constructor <;> rw [Int32.toInt_toInt64] <;> omega
theorem own_nnI (x : Int32) : NoNaN64 (FP.i2d x) := (i2d_fin x).noNaN
theorem own_lt64 {x y : Int32} : x.toInt64 < y.toInt64 ↔ x < y := by rw [Int64.lt_iff_toInt_lt, Int32.lt_iff_toInt_lt, Int32.toInt_toInt64, Int32.toInt_toInt64]
theorem own_minW (x y : Int32) : Native.java_lang_Math.nans.pick64 false (FP.i2d x) (FP.i2d y) = FP.i2d (if y < x then y else x) := by
  by_cases q : x < y
  · have q' : ¬ y < x := by rw [Int32.lt_iff_toInt_lt] at q ⊢; omega
    rw [if_neg q', i2d_w, i2d_w]; exact min_l (own_b32 x) (own_b32 y) (own_lt64.mpr q)
  · have e := min_g (own_b32 x) (own_b32 y) (fun z => q (own_lt64.mp z))
    rw [i2d_w x, i2d_w y]
    by_cases q' : y < x
    · rw [if_pos q', i2d_w y]; exact e
    · have : y = x := by apply Int32.toInt_inj.mp; rw [Int32.lt_iff_toInt_lt] at q q'; omega
      subst this; rw [if_neg q', i2d_w y]; exact e
theorem own_maxW (x y : Int32) : Native.java_lang_Math.nans.pick64 true (FP.i2d x) (FP.i2d y) = FP.i2d (if x < y then y else x) := by
  by_cases q : x < y
  · rw [if_pos q, i2d_w, i2d_w]; exact max_l (own_b32 x) (own_b32 y) (own_lt64.mpr q)
  · rw [if_neg q, i2d_w, i2d_w]; exact max_g (own_b32 x) (own_b32 y) (fun z => q (own_lt64.mp z))
theorem own_pinfMin (x : Int32) : Native.java_lang_Math.nans.pick64 false 9218868437227405312 (FP.i2d x) = FP.i2d x := by
  have q : FP.dcmp 9218868437227405312 (FP.i2d x) = some .gt := (FP.Core.fin_lt_inf (fin64_core.mp (i2d_fin x))).2.2.1
  simp [Native.java_lang_Math.nans.pick64, q]
theorem own_ninfMax (x : Int32) : Native.java_lang_Math.nans.pick64 true 18442240474082181120 (FP.i2d x) = FP.i2d x := by
  have q : FP.dcmp 18442240474082181120 (FP.i2d x) = some .lt := (FP.Core.fin_lt_inf (fin64_core.mp (i2d_fin x))).2.2.2
  simp [Native.java_lang_Math.nans.pick64, q]
theorem own_nnP : NoNaN64 9218868437227405312 := by unfold NoNaN64; decide
theorem own_nnM : NoNaN64 18442240474082181120 := by unfold NoNaN64; decide
/-- the two's sum, in either order -/
theorem own_sumW (x y : Int32) : FP.dadd (FP.i2d (if y < x then y else x)) (FP.i2d (if x < y then y else x)) = FP.l2d (x.toInt64 + y.toInt64) := by
  rw [i2d_w, i2d_w, dadd_w (own_b32 _) (own_b32 _)]
  congr 1
  by_cases q : y < x
  · have q' : ¬ x < y := by rw [Int32.lt_iff_toInt_lt] at q ⊢; omega
    rw [if_pos q, if_neg q', Int64.add_comm]
  · rw [if_neg q]
    by_cases q' : x < y
    · rw [if_pos q']
    · have : y = x := by apply Int32.toInt_inj.mp; rw [Int32.lt_iff_toInt_lt] at q q'; omega
      subst this; rw [if_neg q]
theorem own_nnL (z : Int64) : NoNaN64 (FP.l2d z) := (l2d_fin z).noNaN
theorem own_nnSum (x y : Int32) : NoNaN64 (FP.dadd (FP.i2d (if y < x then y else x)) (FP.i2d (if x < y then y else x))) := by rw [own_sumW]; exact own_nnL _
theorem own_nnHalf (z : Int64) : NoNaN64 (FP.ddiv (FP.l2d z) 4611686018427387904) := ddiv_out (own_nnL z) (by unfold Fin64; decide) (by unfold Nz64; decide)
theorem own_cmpI (a b : Int) : cmpValue (some (compare a b)) .g = if a < b then -1 else if a = b then 0 else 1 := by
  by_cases q : a < b
  · rw [if_pos q, Int.compare_eq_lt.mpr q]; rfl
  · rw [if_neg q]
    by_cases r : a = b
    · rw [if_pos r, Int.compare_eq_eq.mpr r]; rfl
    · rw [if_neg r, Int.compare_eq_gt.mpr (by omega)]; rfl
theorem own_dintI (x : Int32) : FP.Core.DInt x.toInt (FP.i2d x) := by
  have h1 := x.toInt_lt; have h2 := x.le_toInt
  have q := FP.Core.l2d_int (a := x.toInt64) (by rw [Int32.toInt_toInt64]; omega)
  rw [Int32.toInt_toInt64] at q; rw [i2d_w]; exact q
theorem own_dintS (x y : Int32) : FP.Core.DInt (x.toInt + y.toInt) (FP.l2d (x.toInt64 + y.toInt64)) := by
  have h1 := x.toInt_lt; have h2 := x.le_toInt; have h3 := y.toInt_lt; have h4 := y.le_toInt
  have e := add64 (own_b32 x) (own_b32 y)
  rw [Int32.toInt_toInt64, Int32.toInt_toInt64] at e
  have q := FP.Core.l2d_int (a := x.toInt64 + y.toInt64) (by rw [e]; omega)
  rw [e] at q; exact q
theorem own_cmpHalf (w x y : Int32) : cmpValue (FP.dcmp (FP.i2d w) (FP.ddiv (FP.l2d (x.toInt64 + y.toInt64)) 4611686018427387904)) .g = if 2 * w.toInt < x.toInt + y.toInt then -1 else if 2 * w.toInt = x.toInt + y.toInt then 0 else 1 := by
  have q : FP.dcmp (FP.i2d w) (FP.ddiv (FP.l2d (x.toInt64 + y.toInt64)) 4611686018427387904) = some (compare (2 * w.toInt) (x.toInt + y.toInt)) := Jvm.OwnF.cmp_half (own_dintI w) (own_dintS x y)
  rw [q, own_cmpI]
theorem own_sgn {a b : Int} : (0 : Int32) < (if a < b then -1 else if a = b then 0 else 1) ↔ b < a := by
  by_cases q : a < b
  · rw [if_pos q]; constructor
    · intro z; exact absurd z (by decide)
    · intro z; omega
  · rw [if_neg q]
    by_cases r : a = b
    · rw [if_pos r]; constructor
      · intro z; exact absurd z (by decide)
      · intro z; omega
    · rw [if_neg r]; constructor
      · intro _; omega
      · intro _; decide
theorem own_minIn (x y : Int32) : ¬ (0 : Int32) < cmpValue (FP.dcmp (FP.i2d (if y < x then y else x)) (FP.ddiv (FP.l2d (x.toInt64 + y.toInt64)) 4611686018427387904)) .g := by
  rw [own_cmpHalf, own_sgn]
  by_cases q : y < x
  · rw [if_pos q]; rw [Int32.lt_iff_toInt_lt] at q; omega
  · rw [if_neg q]; rw [Int32.lt_iff_toInt_lt] at q; omega
theorem own_maxEq (x y : Int32) (hxy : x = y) : ¬ (0 : Int32) < cmpValue (FP.dcmp (FP.i2d (if x < y then y else x)) (FP.ddiv (FP.l2d (x.toInt64 + y.toInt64)) 4611686018427387904)) .g := by
  rw [own_cmpHalf, own_sgn]; subst hxy
  by_cases q : x < x
  · rw [if_pos q]; omega
  · rw [if_neg q]; omega
theorem own_maxNe (x y : Int32) (hxy : ¬ x = y) : (0 : Int32) < cmpValue (FP.dcmp (FP.i2d (if x < y then y else x)) (FP.ddiv (FP.l2d (x.toInt64 + y.toInt64)) 4611686018427387904)) .g := by
  rw [own_cmpHalf, own_sgn]
  have r : ¬ x.toInt = y.toInt := fun z => hxy (Int32.toInt_inj.mp z)
  by_cases q : x < y
  · rw [if_pos q]; rw [Int32.lt_iff_toInt_lt] at q; omega
  · rw [if_neg q]; rw [Int32.lt_iff_toInt_lt] at q; omega
theorem own_dirIff (x y : Int32) : (0 : Int32) < cmpValue (FP.dcmp (FP.i2d x) (FP.i2d y)) .g ↔ y < x := by
  have q : FP.dcmp (FP.i2d x) (FP.i2d y) = some (if x.toInt64.toInt < y.toInt64.toInt then .lt else if x.toInt64.toInt = y.toInt64.toInt then .eq else .gt) := by rw [i2d_w, i2d_w]; exact dcmp_ws (own_b32 x) (own_b32 y)
  rw [q, Int32.toInt_toInt64, Int32.toInt_toInt64, show y < x ↔ y.toInt < x.toInt from Int32.lt_iff_toInt_lt]
  by_cases h1 : x.toInt < y.toInt
  · rw [if_pos h1]; constructor
    · intro z; exact absurd z (by decide)
    · intro z; omega
  · rw [if_neg h1]
    by_cases h2 : x.toInt = y.toInt
    · rw [if_pos h2]; constructor
      · intro z; exact absurd z (by decide)
      · intro z; omega
    · rw [if_neg h2]; constructor
      · intro _; omega
      · intro _; decide
end FltS
end Jvm.Own
namespace Jvm.Own
open Jvm Jvm.ClassFile Sem Op Lib Jvm.Free Jvm.Stand Jvm.LawKit Jvm.RoadKit Bundle Jvm.Free.Fl
section FltM
variable {p : Program} {l : Launch} {e : Env} {R : Room} {s : State} {m : MethodId} {args : Array Value} {below : List Frame} {meth : Method} {c : Code}
variable {bs : ByteArray} {ml : Nat} {ret : Option FieldType} {nm own : String} {Z : State} {a0 : Array Value} {EL : List (String × Nat)} {nw : Bool} {vm : Vm} {T T' : State} {h h' : Heap} {k n : Nat} {F : Outcome → State → Prop} {pc pc' : Nat} {Ls : Array Slot} {rest : List Value} {g : JFrame}
theorem Core.newAE (C : Core p l e R s m args below meth c bs ml ret nm own Z a0 EL nw vm T h k n) {aty : ArrayType} {z : Int32} {cap : Nat} {vs : List Value} {ad : String} (had : "[" ++ (newarray.typeOf aty).toString = ad) (w : (Jvm.Cond.arrayClass (newarray.typeOf aty)).before a0 Z = true) (hd : decode bs pc = .ok (.newarray aty, 2)) (hp : pc + 2 = pc') (hz : ¬ z < 0) (hcap : z.toNatClampNeg ≤ cap) (hb : cap * 8 ≤ 536870912) (hk : k + 1 ≤ R.cells) (hn : n + cap ≤ R.slots) (hvs : vs = List.replicate vs.length (defaultValue (newarray.typeOf aty)))
    (K : ∀ T' h' x kA, Core p l e R s m args below meth c bs ml ret nm own Z a0 EL nw vm T' h' (k + 1) (n + cap) → Keep h h' [] → CHr Z EL vm h vm h' → h.size ≤ x → Z.heap.size ≤ x → Arv Z h' x kA (newarray.typeOf aty) z vs (defaultValue (newarray.typeOf aty)) → Safe Z EL vm h' x → Exa Z h' x ad → Endw p e below T' (mkF m pc' Ls (.ref x :: rest)) F) : Endw p e below T (mkF m pc Ls (.int z :: rest)) F := by
  subst hp
  obtain ⟨-, ⟨L, X, N⟩, -⟩ := id C
  obtain ⟨T', h', cA, X', e', E, A, Ex, st⟩ := RoadKit.newPE X C.hx C.warm w C.heq (g := mkF m pc Ls (.int z :: rest)) rfl (C.dec hd) rfl hz hcap hb hk hn had
  have q := (Arv.new A hz).pad (vs' := [] ++ List.replicate vs.length (defaultValue (newarray.typeOf aty))) (pad_rep _ _ _)
  rw [List.nil_append, ← hvs] at q
  exact Endw.st st (K T' h' h.size cA (C.on (ws := []) X' N e' (keep_of_ext E) all0 sf0) (keep_of_ext E) (CHr.keep (keep_of_ext E) sf0 C.chv) (Nat.le_refl _) C.le q (Safe.ext E C.chv (Safe.new (Nat.le_refl _))) Ex)
theorem Core.clone (C : Core p l e R s m args below meth c bs ml ret nm own Z a0 EL nw vm T h k n) {ad : String} {ix : Nat} (w1 : (Jvm.Cond.methodLink own ix ⟨ad, "clone", "()Ljava/lang/Object;"⟩).before a0 Z = true) (w2 : (Jvm.Cond.sameMethod ad "java/lang/Object" "clone" "()Ljava/lang/Object;").before a0 Z = true) (w3 : (Jvm.Cond.native ⟨"java/lang/Object", "clone", "()Ljava/lang/Object;"⟩).before a0 Z = true)
    (w4 : (Jvm.Cond.instanceMethod ⟨"java/lang/Object", "clone", "()Ljava/lang/Object;"⟩).before a0 Z = true) (w5 : (Jvm.Cond.selects ad ⟨ad, "clone", "()Ljava/lang/Object;"⟩ ⟨"java/lang/Object", "clone", "()Ljava/lang/Object;"⟩).before a0 Z = true) (w6 : (Jvm.Cond.castable ad "java/lang/Cloneable").before a0 Z = true)
    {a : Addr} {kA : ClassId} {ty : FieldType} {z : Int32} {vs : List Value} {dv : Value} (A : Arv Z h a kA ty z vs dv) (E : Exa Z h a ad) {W cap : Nat} (hf : 1 ≤ R.frames) (hW : (rest.map fun v => v.category).sum ≤ W) (hl : W + 14 ≤ R.locals) (hcap : z.toNatClampNeg ≤ cap) (hk : k + 1 ≤ R.cells) (hn : n + cap ≤ R.slots) (hsz : Ls.size = ml) (hd : decode bs pc = .ok (.invokevirtual ix, 3)) (hp : pc + 3 = pc')
    (K : ∀ T' h' x, Core p l e R s m args below meth c bs ml ret nm own Z a0 EL nw vm T' h' (k + 1) (n + cap) → Keep h h' [] → CHr Z EL vm h vm h' → h.size ≤ x → Z.heap.size ≤ x → Arv Z h' x kA ty z vs dv → Safe Z EL vm h' x → Exa Z h' x ad → Endw p e below T' (mkF m pc' Ls (.ref x :: rest)) F) : Endw p e below T (mkF m pc Ls (.ref a :: rest)) F := by
  subst hp
  obtain ⟨-, ⟨L, X, N⟩, -⟩ := id C
  obtain ⟨cl, Ar, q1, S, q3, H, G⟩ := A
  have FC : FitC Z cl := fitC_of Ar fun i hi v hv => by rw [H i hi] at hv; cases hv; exact G i hi
  obtain ⟨T', h', X', e', ex, A', E', st⟩ := RoadKit.cloneA X C.hx C.warm C.hown w1 w2 w3 w4 w5 w6 C.heq Ar E FC (g := mkF m pc Ls (.ref a :: rest)) rfl (hsz.trans C.mlq.symm) rfl (C.dec hd) hf (W := W) (by show 2 * 0 + _ ≤ _; omega) hl (by rw [S]; exact hcap) hk hn
  exact Endw.st st (K T' h' h.size (C.on (ws := []) X' N e' (keep_of_ext ex) all0 sf0) (keep_of_ext ex) (CHr.keep (keep_of_ext ex) sf0 C.chv) (Nat.le_refl _) C.le ⟨cloneOf cl, A', q1, S, q3, H, G⟩ (Safe.ext ex C.chv (Safe.new (Nat.le_refl _))) E')
def own_up (b : Int32) : UInt64 := if b = 31 then 9218868437227405312 else FP.i2d b
def own_ov (a b t : Int32) : Int32 := if b = 31 then 0 else if t < 2 * (a - b) then 1 else 0
def Sm (x : Int32) : Prop := 0 ≤ x.toInt ∧ x.toInt ≤ 31
theorem own_sm31 (x : Int32) : Sm (x &&& 31) := by
  have q : ∀ b : BitVec 32, 0 ≤ (b &&& 31#32).toInt ∧ (b &&& 31#32).toInt ≤ 31 := by
    intro b
    have h1 : (b &&& 31#32).toNat ≤ 31 := by rw [BitVec.toNat_and]; exact Nat.and_le_right
    rw [BitVec.toInt_eq_toNat_of_lt (by omega)]; omega
  exact q x.toBitVec
theorem own_t64 (x : Int32) : -64 < (x % 64).toInt ∧ (x % 64).toInt < 64 := by
  rw [Int32.toInt_mod]
  have e : (64 : Int32).toInt = 64 := by decide
  rw [e]
  have h1 := Int.tmod_lt_of_pos x.toInt (show (0 : Int) < 64 by decide)
  have h2 := Int.lt_tmod_of_pos x.toInt (show (0 : Int) < 64 by decide)
  omega
theorem own_nnUp (b : Int32) : NoNaN64 (own_up b) := by
  unfold own_up; by_cases q : b = 31
  · rw [if_pos q]; exact own_nnP
  · rw [if_neg q]; exact own_nnI b
theorem own_nnDs (a b : Int32) : NoNaN64 (FP.dsub (FP.i2d a) (own_up b)) := dsub_out' (i2d_fin a) (own_nnUp b)
theorem own_nnHalfI (t : Int32) : NoNaN64 (FP.ddiv (FP.i2d t) 4611686018427387904) := by rw [i2d_w]; exact own_nnHalf _
theorem own_i2d0 : FP.i2d 0 = 0 := by rw [i2d_w]; exact l2d_zero
theorem own_ge0 {x : Int32} (hx : Sm x) : ¬ cmpValue (FP.dcmp (FP.i2d x) 0) .l < (0 : Int32) := by
  have q : FP.dcmp (FP.i2d x) 0 = some (if x.toInt64.toInt < (0 : Int32).toInt64.toInt then .lt else if x.toInt64.toInt = (0 : Int32).toInt64.toInt then .eq else .gt) := by
    have r := dcmp_ws (own_b32 x) (own_b32 0)
    rw [← i2d_w, ← i2d_w, own_i2d0] at r; exact r
  rw [q, Int32.toInt_toInt64, Int32.toInt_toInt64, show (0 : Int32).toInt = 0 from rfl, if_neg (by have := hx.1; omega)]
  by_cases h2 : x.toInt = 0
  · rw [if_pos h2]; decide
  · rw [if_neg h2]; decide
theorem own_geUp {x : Int32} (hx : Sm x) : ¬ cmpValue (FP.dcmp (own_up x) 0) .l < (0 : Int32) := by
  unfold own_up; by_cases q : x = 31
  · rw [if_pos q, dcmp_pinf' (by unfold Fin64; decide)]; decide
  · rw [if_neg q]; exact own_ge0 hx
theorem own_ltP (x : Int32) : cmpValue (FP.dcmp (FP.i2d x) 9218868437227405312) .g = -1 := dcmp_pinf (i2d_fin x) .g
theorem own_cmpL (a b : Int) : (0 : Int32) < cmpValue (some (compare a b)) .l ↔ b < a := by
  by_cases q : a < b
  · rw [Int.compare_eq_lt.mpr q]; constructor
    · intro z; exact absurd z (by decide)
    · intro z; omega
  · by_cases r : a = b
    · rw [Int.compare_eq_eq.mpr r]; constructor
      · intro z; exact absurd z (by decide)
      · intro z; omega
    · rw [Int.compare_eq_gt.mpr (by omega)]; constructor
      · intro _; omega
      · intro _; decide
theorem own_infLt (a t : Int32) : FP.dcmp (FP.dsub (FP.i2d a) 9218868437227405312) (FP.ddiv (FP.i2d t) 4611686018427387904) = some .lt := by
  show FP.Core.order (FP.Core.val64 (FP.Core.dsub (FP.Core.i2d a) 9218868437227405312)) (FP.Core.val64 (FP.Core.ddiv (FP.Core.i2d t) Jvm.OwnF.two)) = _
  have ha : FP.Core.Whole a.toInt (FP.Core.val64 (FP.Core.i2d a)) := own_dintI a
  have ht : FP.Core.Whole t.toInt (FP.Core.val64 (FP.Core.i2d t)) := own_dintI t
  have hp : FP.Core.val64 9218868437227405312 = .inf false := by decide +kernel
  rw [FP.Core.val64_dsub, hp]
  cases ex : FP.Core.val64 (FP.Core.i2d a) with
  | nan => rw [ex] at ha; exact ha.elim
  | inf => rw [ex] at ha; exact ha.elim
  | fin u d r =>
    cases ey : FP.Core.val64 (FP.Core.i2d t) with
    | nan => rw [ey] at ht; exact ht.elim
    | inf => rw [ey] at ht; exact ht.elim
    | fin w c q =>
      rw [ey] at ht
      have hf := FP.Core.val64_fits (FP.Core.i2d t)
      rw [ey] at hf
      rw [Jvm.OwnF.half_val ey (Jvm.OwnF.whole_q ht hf)]
      rfl
theorem own_ovIff {a b t : Int32} (ha : Sm a) (hb : Sm b) (ht : -64 < t.toInt ∧ t.toInt < 64) : (0 : Int32) < cmpValue (FP.dcmp (FP.dsub (FP.i2d a) (own_up b)) (FP.ddiv (FP.i2d t) 4611686018427387904)) .l ↔ ¬ own_ov a b t = 0 := by
  by_cases q : b = 31
  · have e : own_up b = 9218868437227405312 := if_pos q
    have e2 : own_ov a b t = 0 := if_pos q
    rw [e, e2, own_infLt]; constructor
    · intro z; exact absurd z (by decide)
    · intro z; exact absurd rfl z
  · have e : own_up b = FP.i2d b := if_neg q
    have e2 : own_ov a b t = if t < 2 * (a - b) then 1 else 0 := if_neg q
    obtain ⟨a1, a2⟩ := ha; obtain ⟨b1, b2⟩ := hb; obtain ⟨t1, t2⟩ := ht
    have s1 := sub64 (own_b32 a) (own_b32 b)
    rw [Int32.toInt_toInt64, Int32.toInt_toInt64] at s1
    have d1 : FP.Core.DInt (a.toInt - b.toInt) (FP.dsub (FP.i2d a) (FP.i2d b)) := by
      have r := FP.Core.l2d_int (a := a.toInt64 - b.toInt64) (by rw [s1]; omega)
      rw [s1] at r
      have r2 : FP.dsub (FP.i2d a) (FP.i2d b) = FP.l2d (a.toInt64 - b.toInt64) := by rw [i2d_w, i2d_w]; exact dsub_w (own_b32 a) (own_b32 b)
      rw [r2]; exact r
    have d2 : FP.dcmp (FP.dsub (FP.i2d a) (FP.i2d b)) (FP.ddiv (FP.i2d t) 4611686018427387904) = some (compare (2 * (a.toInt - b.toInt)) t.toInt) := Jvm.OwnF.cmp_half d1 (own_dintI t)
    rw [e, e2, d2, own_cmpL]
    have m1 : (2 * (a - b)).toInt = 2 * (a.toInt - b.toInt) := by
      rw [Int32.toInt_mul, Int32.toInt_sub, show (2 : Int32).toInt = 2 from rfl]
      rw [Int.bmod_eq_of_le (n := a.toInt - b.toInt) (by omega) (by omega), Int.bmod_eq_of_le (by omega) (by omega)]
    have m2 : t < 2 * (a - b) ↔ t.toInt < 2 * (a.toInt - b.toInt) := by rw [← m1]; exact Int32.lt_iff_toInt_lt
    by_cases r : t < 2 * (a - b)
    · rw [if_pos r]; exact ⟨fun _ => by decide, fun _ => m2.mp r⟩
    · rw [if_neg r]; exact ⟨fun z => absurd (m2.mpr z) r, fun z => absurd rfl z⟩
theorem own_and3 (x : Int32) : x &&& 3 = 0 ∨ x &&& 3 = 1 ∨ x &&& 3 = 2 ∨ x &&& 3 = 3 := by
  have h1 : (x &&& 3).toBitVec.toNat ≤ 3 := by
    show (x.toBitVec &&& 3#32).toNat ≤ 3
    rw [BitVec.toNat_and]; exact Nat.and_le_right
  have q : ∀ k, (x &&& 3).toBitVec.toNat = k → k < 2 ^ 32 → x &&& 3 = Int32.ofBitVec (BitVec.ofNat 32 k) := by
    intro k e hk
    apply Int32.toBitVec_inj.mp
    show _ = BitVec.ofNat 32 k
    apply BitVec.eq_of_toNat_eq; rw [e, BitVec.toNat_ofNat, Nat.mod_eq_of_lt hk]
  have h2 : (x &&& 3).toBitVec.toNat = 0 ∨ (x &&& 3).toBitVec.toNat = 1 ∨ (x &&& 3).toBitVec.toNat = 2 ∨ (x &&& 3).toBitVec.toNat = 3 := by omega
  rcases h2 with e | e | e | e
  · exact Or.inl (q _ e (by decide))
  · exact Or.inr (Or.inl (q _ e (by decide)))
  · exact Or.inr (Or.inr (Or.inl (q _ e (by decide))))
  · exact Or.inr (Or.inr (Or.inr (q _ e (by decide))))
end FltM
end Jvm.Own
namespace Jvm.Pilot.@@N@@
open Jvm Jvm.ClassFile Sem Op Lib Jvm.Free Jvm.Stand Jvm.LawKit Jvm.RoadKit Bundle Jvm.Own Jvm.Pilot.@@N@@.Jvm.D
theorem d0_0 : decode method_5_code 0 = .ok (.iload_n 0, 1) := by decide +kernel
theorem d0_1 : decode method_5_code 1 = .ok (.ifCond .ne 7, 3) := by decide +kernel
theorem d0_4 : decode method_5_code 4 = .ok (.iconst 0, 1) := by decide +kernel
theorem d0_5 : decode method_5_code 5 = .ok (.newarray .double, 2) := by decide +kernel
theorem W5 {Z : State} {a0 : Array Value} (hw : ∀ d ∈ tables_1, d.before a0 Z = true) : (Jvm.Cond.arrayClass Jvm.ClassFile.FieldType.double).before a0 Z = true := hw _ (List.mem_of_getElem? (i := 5) rfl)
theorem d0_7 : decode method_5_code 7 = .ok (.areturn, 1) := by decide +kernel
theorem pn_50696e4c6177_1 : plainName "com/example/cohabit/cohabit/FlowBoundsCrossedPinLaw" = true := by first | (simp [plainName, overriddenIn]; done) | decide +kernel
theorem d0_8 : decode method_5_code 8 = .ok (.iload_n 0, 1) := by decide +kernel
theorem d0_9 : decode method_5_code 9 = .ok (.iconst 1, 1) := by decide +kernel
theorem d0_10 : decode method_5_code 10 = .ok (.if_icmp .ne 11, 3) := by decide +kernel
theorem d0_13 : decode method_5_code 13 = .ok (.iconst 1, 1) := by decide +kernel
theorem d0_14 : decode method_5_code 14 = .ok (.newarray .double, 2) := by decide +kernel
theorem d0_16 : decode method_5_code 16 = .ok (.dup, 1) := by decide +kernel
theorem d0_17 : decode method_5_code 17 = .ok (.iconst 0, 1) := by decide +kernel
theorem d0_18 : decode method_5_code 18 = .ok (.dload_n 1, 1) := by decide +kernel
theorem d0_19 : decode method_5_code 19 = .ok (.dastore, 1) := by decide +kernel
theorem d0_20 : decode method_5_code 20 = .ok (.areturn, 1) := by decide +kernel
theorem d0_21 : decode method_5_code 21 = .ok (.iload_n 0, 1) := by decide +kernel
theorem d0_22 : decode method_5_code 22 = .ok (.iconst 2, 1) := by decide +kernel
theorem d0_23 : decode method_5_code 23 = .ok (.if_icmp .ne 15, 3) := by decide +kernel
theorem d0_26 : decode method_5_code 26 = .ok (.iconst 2, 1) := by decide +kernel
theorem d0_27 : decode method_5_code 27 = .ok (.newarray .double, 2) := by decide +kernel
theorem d0_29 : decode method_5_code 29 = .ok (.dup, 1) := by decide +kernel
theorem d0_30 : decode method_5_code 30 = .ok (.iconst 0, 1) := by decide +kernel
theorem d0_31 : decode method_5_code 31 = .ok (.dload_n 1, 1) := by decide +kernel
theorem d0_32 : decode method_5_code 32 = .ok (.dastore, 1) := by decide +kernel
theorem d0_33 : decode method_5_code 33 = .ok (.dup, 1) := by decide +kernel
theorem d0_34 : decode method_5_code 34 = .ok (.iconst 1, 1) := by decide +kernel
theorem d0_35 : decode method_5_code 35 = .ok (.dload_n 3, 1) := by decide +kernel
theorem d0_36 : decode method_5_code 36 = .ok (.dastore, 1) := by decide +kernel
theorem d0_37 : decode method_5_code 37 = .ok (.areturn, 1) := by decide +kernel
theorem d0_38 : decode method_5_code 38 = .ok (.iconst 3, 1) := by decide +kernel
theorem d0_39 : decode method_5_code 39 = .ok (.newarray .double, 2) := by decide +kernel
theorem d0_41 : decode method_5_code 41 = .ok (.dup, 1) := by decide +kernel
theorem d0_42 : decode method_5_code 42 = .ok (.iconst 0, 1) := by decide +kernel
theorem d0_43 : decode method_5_code 43 = .ok (.dload_n 1, 1) := by decide +kernel
theorem d0_44 : decode method_5_code 44 = .ok (.dastore, 1) := by decide +kernel
theorem d0_45 : decode method_5_code 45 = .ok (.dup, 1) := by decide +kernel
theorem d0_46 : decode method_5_code 46 = .ok (.iconst 1, 1) := by decide +kernel
theorem d0_47 : decode method_5_code 47 = .ok (.dload_n 3, 1) := by decide +kernel
theorem d0_48 : decode method_5_code 48 = .ok (.dastore, 1) := by decide +kernel
theorem d0_49 : decode method_5_code 49 = .ok (.dup, 1) := by decide +kernel
theorem d0_50 : decode method_5_code 50 = .ok (.iconst 2, 1) := by decide +kernel
theorem d0_51 : decode method_5_code 51 = .ok (.dload 5, 2) := by decide +kernel
theorem d0_53 : decode method_5_code 53 = .ok (.dastore, 1) := by decide +kernel
theorem d0_54 : decode method_5_code 54 = .ok (.areturn, 1) := by decide +kernel
theorem d1_0 : decode method_3_code 0 = .ok (.iload_n 0, 1) := by decide +kernel
theorem d1_1 : decode method_3_code 1 = .ok (.bipush 31, 2) := by decide +kernel
theorem d1_3 : decode method_3_code 3 = .ok (.if_icmp .ne 7, 3) := by decide +kernel
theorem d1_6 : decode method_3_code 6 = .ok (.ldc2_w 34, 3) := by decide +kernel
theorem W40 {Z : State} {a0 : Array Value} (hw : ∀ d ∈ tables_1, d.before a0 Z = true) : (Jvm.Cond.constantDouble "com/example/cohabit/cohabit/FlowBoundsCrossedPinLaw" (34 : Nat) (9218868437227405312 : UInt64)).before a0 Z = true := hw _ (List.mem_of_getElem? (i := 40) rfl)
theorem d1_9 : decode method_3_code 9 = .ok (.dreturn, 1) := by decide +kernel
theorem d1_10 : decode method_3_code 10 = .ok (.iload_n 0, 1) := by decide +kernel
theorem d1_11 : decode method_3_code 11 = .ok (.i2d, 1) := by decide +kernel
theorem d1_12 : decode method_3_code 12 = .ok (.dreturn, 1) := by decide +kernel
theorem d2_0 : decode method_4_code 0 = .ok (.iload_n 1, 1) := by decide +kernel
theorem d2_1 : decode method_4_code 1 = .ok (.bipush 31, 2) := by decide +kernel
theorem d2_3 : decode method_4_code 3 = .ok (.if_icmp .ne 5, 3) := by decide +kernel
theorem d2_6 : decode method_4_code 6 = .ok (.iconst 0, 1) := by decide +kernel
theorem d2_7 : decode method_4_code 7 = .ok (.ireturn, 1) := by decide +kernel
theorem d2_8 : decode method_4_code 8 = .ok (.iconst 2, 1) := by decide +kernel
theorem d2_9 : decode method_4_code 9 = .ok (.iload_n 0, 1) := by decide +kernel
theorem d2_10 : decode method_4_code 10 = .ok (.iload_n 1, 1) := by decide +kernel
theorem d2_11 : decode method_4_code 11 = .ok (.isub, 1) := by decide +kernel
theorem d2_12 : decode method_4_code 12 = .ok (.imul, 1) := by decide +kernel
theorem d2_13 : decode method_4_code 13 = .ok (.iload_n 2, 1) := by decide +kernel
theorem d2_14 : decode method_4_code 14 = .ok (.if_icmp .le 7, 3) := by decide +kernel
theorem d2_17 : decode method_4_code 17 = .ok (.iconst 1, 1) := by decide +kernel
theorem d2_18 : decode method_4_code 18 = .ok (.goto 4, 3) := by decide +kernel
theorem d2_22 : decode method_4_code 22 = .ok (.ireturn, 1) := by decide +kernel
theorem d2_21 : decode method_4_code 21 = .ok (.iconst 0, 1) := by decide +kernel
theorem d3_0 : decode prog_10_method_1_code 0 = .ok (.aload_n 0, 1) := by decide +kernel
theorem d3_1 : decode prog_10_method_1_code 1 = .ok (.invokespecial 1, 3) := by decide +kernel
theorem W15 {Z : State} {a0 : Array Value} (hw : ∀ d ∈ tables_1, d.before a0 Z = true) : (Jvm.Cond.methodLink "com/example/cohabit/cohabit/FlowBounds" (1 : Nat) ({ cls := "java/lang/Object", name := "<init>", desc := "()V" } : Jvm.MethodName)).before a0 Z = true := hw _ (List.mem_of_getElem? (i := 15) rfl)
theorem W16 {Z : State} {a0 : Array Value} (hw : ∀ d ∈ tables_1, d.before a0 Z = true) : (Jvm.Cond.instanceMethod ({ cls := "java/lang/Object", name := "<init>", desc := "()V" } : Jvm.MethodName)).before a0 Z = true := hw _ (List.mem_of_getElem? (i := 16) rfl)
theorem W17 {Z : State} {a0 : Array Value} (hw : ∀ d ∈ tables_1, d.before a0 Z = true) : (Jvm.Cond.code ({ cls := "java/lang/Object", name := "<init>", desc := "()V" } : Jvm.MethodName) object_method_1_code (1 : Nat) (Option.none : Option Jvm.ClassFile.FieldType)).before a0 Z = true := hw _ (List.mem_of_getElem? (i := 17) rfl)
theorem d3_4 : decode prog_10_method_1_code 4 = .ok (.aload_n 1, 1) := by decide +kernel
theorem d3_5 : decode prog_10_method_1_code 5 = .ok (.arraylength, 1) := by decide +kernel
theorem d3_6 : decode prog_10_method_1_code 6 = .ok (.aload_n 2, 1) := by decide +kernel
theorem d3_7 : decode prog_10_method_1_code 7 = .ok (.arraylength, 1) := by decide +kernel
theorem d3_8 : decode prog_10_method_1_code 8 = .ok (.if_icmp .eq 20, 3) := by decide +kernel
theorem d3_28 : decode prog_10_method_1_code 28 = .ok (.iconst 0, 1) := by decide +kernel
theorem d3_29 : decode prog_10_method_1_code 29 = .ok (.istore_n 3, 1) := by decide +kernel
theorem d3_30 : decode prog_10_method_1_code 30 = .ok (.iload_n 3, 1) := by decide +kernel
theorem d3_31 : decode prog_10_method_1_code 31 = .ok (.aload_n 1, 1) := by decide +kernel
theorem d3_32 : decode prog_10_method_1_code 32 = .ok (.arraylength, 1) := by decide +kernel
theorem d3_33 : decode prog_10_method_1_code 33 = .ok (.if_icmp .ge 55, 3) := by decide +kernel
theorem d3_88 : decode prog_10_method_1_code 88 = .ok (.aload_n 0, 1) := by decide +kernel
theorem d3_89 : decode prog_10_method_1_code 89 = .ok (.aload_n 1, 1) := by decide +kernel
theorem d3_90 : decode prog_10_method_1_code 90 = .ok (.invokevirtual 23, 3) := by decide +kernel
theorem W19 {Z : State} {a0 : Array Value} (hw : ∀ d ∈ tables_1, d.before a0 Z = true) : (Jvm.Cond.methodLink "com/example/cohabit/cohabit/FlowBounds" (23 : Nat) ({ cls := "[D", name := "clone", desc := "()Ljava/lang/Object;" } : Jvm.MethodName)).before a0 Z = true := hw _ (List.mem_of_getElem? (i := 19) rfl)
theorem W20 {Z : State} {a0 : Array Value} (hw : ∀ d ∈ tables_1, d.before a0 Z = true) : (Jvm.Cond.sameMethod "[D" "java/lang/Object" "clone" "()Ljava/lang/Object;").before a0 Z = true := hw _ (List.mem_of_getElem? (i := 20) rfl)
theorem W24 {Z : State} {a0 : Array Value} (hw : ∀ d ∈ tables_1, d.before a0 Z = true) : (Jvm.Cond.native ({ cls := "java/lang/Object", name := "clone", desc := "()Ljava/lang/Object;" } : Jvm.MethodName)).before a0 Z = true := hw _ (List.mem_of_getElem? (i := 24) rfl)
theorem W22 {Z : State} {a0 : Array Value} (hw : ∀ d ∈ tables_1, d.before a0 Z = true) : (Jvm.Cond.instanceMethod ({ cls := "java/lang/Object", name := "clone", desc := "()Ljava/lang/Object;" } : Jvm.MethodName)).before a0 Z = true := hw _ (List.mem_of_getElem? (i := 22) rfl)
theorem W23 {Z : State} {a0 : Array Value} (hw : ∀ d ∈ tables_1, d.before a0 Z = true) : (Jvm.Cond.selects "[D" ({ cls := "[D", name := "clone", desc := "()Ljava/lang/Object;" } : Jvm.MethodName) ({ cls := "java/lang/Object", name := "clone", desc := "()Ljava/lang/Object;" } : Jvm.MethodName)).before a0 Z = true := hw _ (List.mem_of_getElem? (i := 23) rfl)
theorem W25 {Z : State} {a0 : Array Value} (hw : ∀ d ∈ tables_1, d.before a0 Z = true) : (Jvm.Cond.castable "[D" "java/lang/Cloneable").before a0 Z = true := hw _ (List.mem_of_getElem? (i := 25) rfl)
theorem d3_93 : decode prog_10_method_1_code 93 = .ok (.checkcast 24, 3) := by decide +kernel
theorem W26 {Z : State} {a0 : Array Value} (hw : ∀ d ∈ tables_1, d.before a0 Z = true) : (Jvm.Cond.classLink "com/example/cohabit/cohabit/FlowBounds" (24 : Nat) "[D").before a0 Z = true := hw _ (List.mem_of_getElem? (i := 26) rfl)
theorem W27 {Z : State} {a0 : Array Value} (hw : ∀ d ∈ tables_1, d.before a0 Z = true) : (Jvm.Cond.castable "[D" "[D").before a0 Z = true := hw _ (List.mem_of_getElem? (i := 27) rfl)
theorem d3_96 : decode prog_10_method_1_code 96 = .ok (.putfield 29, 3) := by decide +kernel
theorem W28 {Z : State} {a0 : Array Value} (hw : ∀ d ∈ tables_1, d.before a0 Z = true) : (Jvm.Cond.fieldLink "com/example/cohabit/cohabit/FlowBounds" (29 : Nat) "com/example/cohabit/cohabit/FlowBounds" "lower" "[D").before a0 Z = true := hw _ (List.mem_of_getElem? (i := 28) rfl)
theorem W29 {Z : State} {a0 : Array Value} (hw : ∀ d ∈ tables_1, d.before a0 Z = true) : (Jvm.Cond.laysFinal "com/example/cohabit/cohabit/FlowBounds" "com/example/cohabit/cohabit/FlowBounds" "lower" "[D").before a0 Z = true := hw _ (List.mem_of_getElem? (i := 29) rfl)
theorem W10 {Z : State} {a0 : Array Value} (hw : ∀ d ∈ tables_1, d.before a0 Z = true) : (Jvm.Cond.instantiable "com/example/cohabit/cohabit/FlowBounds" (2 : Nat)).before a0 Z = true := hw _ (List.mem_of_getElem? (i := 10) rfl)
theorem W31 {Z : State} {a0 : Array Value} (hw : ∀ d ∈ tables_1, d.before a0 Z = true) : (Jvm.Cond.laysFinal "com/example/cohabit/cohabit/FlowBounds" "com/example/cohabit/cohabit/FlowBounds" "upper" "[D").before a0 Z = true := hw _ (List.mem_of_getElem? (i := 31) rfl)
theorem d3_99 : decode prog_10_method_1_code 99 = .ok (.aload_n 0, 1) := by decide +kernel
theorem d3_100 : decode prog_10_method_1_code 100 = .ok (.aload_n 2, 1) := by decide +kernel
theorem d3_101 : decode prog_10_method_1_code 101 = .ok (.invokevirtual 23, 3) := by decide +kernel
theorem d3_104 : decode prog_10_method_1_code 104 = .ok (.checkcast 24, 3) := by decide +kernel
theorem d3_107 : decode prog_10_method_1_code 107 = .ok (.putfield 34, 3) := by decide +kernel
theorem W30 {Z : State} {a0 : Array Value} (hw : ∀ d ∈ tables_1, d.before a0 Z = true) : (Jvm.Cond.fieldLink "com/example/cohabit/cohabit/FlowBounds" (34 : Nat) "com/example/cohabit/cohabit/FlowBounds" "upper" "[D").before a0 Z = true := hw _ (List.mem_of_getElem? (i := 30) rfl)
theorem d3_110 : decode prog_10_method_1_code 110 = .ok (.return_, 1) := by decide +kernel
theorem pn_426f756e6473_0 : plainName "com/example/cohabit/cohabit/FlowBounds" = true := by first | (simp [plainName, overriddenIn]; done) | decide +kernel
theorem d3_36 : decode prog_10_method_1_code 36 = .ok (.aload_n 1, 1) := by decide +kernel
theorem d3_37 : decode prog_10_method_1_code 37 = .ok (.iload_n 3, 1) := by decide +kernel
theorem d3_38 : decode prog_10_method_1_code 38 = .ok (.daload, 1) := by decide +kernel
theorem d3_39 : decode prog_10_method_1_code 39 = .ok (.dconst 0, 1) := by decide +kernel
theorem d3_40 : decode prog_10_method_1_code 40 = .ok (.dcmp .l, 1) := by decide +kernel
theorem d3_41 : decode prog_10_method_1_code 41 = .ok (.ifCond .lt 21, 3) := by decide +kernel
theorem d3_44 : decode prog_10_method_1_code 44 = .ok (.aload_n 1, 1) := by decide +kernel
theorem d3_45 : decode prog_10_method_1_code 45 = .ok (.iload_n 3, 1) := by decide +kernel
theorem d3_46 : decode prog_10_method_1_code 46 = .ok (.daload, 1) := by decide +kernel
theorem d3_47 : decode prog_10_method_1_code 47 = .ok (.ldc2_w 18, 3) := by decide +kernel
theorem W18 {Z : State} {a0 : Array Value} (hw : ∀ d ∈ tables_1, d.before a0 Z = true) : (Jvm.Cond.constantDouble "com/example/cohabit/cohabit/FlowBounds" (18 : Nat) (9218868437227405312 : UInt64)).before a0 Z = true := hw _ (List.mem_of_getElem? (i := 18) rfl)
theorem d3_50 : decode prog_10_method_1_code 50 = .ok (.dcmp .g, 1) := by decide +kernel
theorem d3_51 : decode prog_10_method_1_code 51 = .ok (.ifCond .ge 11, 3) := by decide +kernel
theorem d3_54 : decode prog_10_method_1_code 54 = .ok (.aload_n 2, 1) := by decide +kernel
theorem d3_55 : decode prog_10_method_1_code 55 = .ok (.iload_n 3, 1) := by decide +kernel
theorem d3_56 : decode prog_10_method_1_code 56 = .ok (.daload, 1) := by decide +kernel
theorem d3_57 : decode prog_10_method_1_code 57 = .ok (.dconst 0, 1) := by decide +kernel
theorem d3_58 : decode prog_10_method_1_code 58 = .ok (.dcmp .l, 1) := by decide +kernel
theorem d3_59 : decode prog_10_method_1_code 59 = .ok (.ifCond .ge 23, 3) := by decide +kernel
theorem d3_82 : decode prog_10_method_1_code 82 = .ok (.iinc 3 1, 3) := by decide +kernel
theorem d3_85 : decode prog_10_method_1_code 85 = .ok (.goto (-55), 3) := by decide +kernel
theorem d4_0 : decode prog_10_method_11_code 0 = .ok (.iconst 0, 1) := by decide +kernel
theorem d4_1 : decode prog_10_method_11_code 1 = .ok (.istore_n 3, 1) := by decide +kernel
theorem d4_2 : decode prog_10_method_11_code 2 = .ok (.iload_n 3, 1) := by decide +kernel
theorem d4_3 : decode prog_10_method_11_code 3 = .ok (.aload_n 0, 1) := by decide +kernel
theorem d4_4 : decode prog_10_method_11_code 4 = .ok (.getfield 29, 3) := by decide +kernel
theorem d4_7 : decode prog_10_method_11_code 7 = .ok (.arraylength, 1) := by decide +kernel
theorem d4_8 : decode prog_10_method_11_code 8 = .ok (.if_icmp .ge 29, 3) := by decide +kernel
theorem d4_37 : decode prog_10_method_11_code 37 = .ok (.iconst 0, 1) := by decide +kernel
theorem d4_38 : decode prog_10_method_11_code 38 = .ok (.ireturn, 1) := by decide +kernel
theorem d4_11 : decode prog_10_method_11_code 11 = .ok (.aload_n 0, 1) := by decide +kernel
theorem d4_12 : decode prog_10_method_11_code 12 = .ok (.getfield 29, 3) := by decide +kernel
theorem d4_15 : decode prog_10_method_11_code 15 = .ok (.iload_n 3, 1) := by decide +kernel
theorem d4_16 : decode prog_10_method_11_code 16 = .ok (.daload, 1) := by decide +kernel
theorem d4_17 : decode prog_10_method_11_code 17 = .ok (.aload_n 0, 1) := by decide +kernel
theorem d4_18 : decode prog_10_method_11_code 18 = .ok (.getfield 34, 3) := by decide +kernel
theorem d4_21 : decode prog_10_method_11_code 21 = .ok (.iload_n 3, 1) := by decide +kernel
theorem d4_22 : decode prog_10_method_11_code 22 = .ok (.daload, 1) := by decide +kernel
theorem d4_23 : decode prog_10_method_11_code 23 = .ok (.dsub, 1) := by decide +kernel
theorem d4_24 : decode prog_10_method_11_code 24 = .ok (.dload_n 1, 1) := by decide +kernel
theorem d4_25 : decode prog_10_method_11_code 25 = .ok (.dcmp .l, 1) := by decide +kernel
theorem d4_26 : decode prog_10_method_11_code 26 = .ok (.ifCond .le 5, 3) := by decide +kernel
theorem d4_29 : decode prog_10_method_11_code 29 = .ok (.iconst 1, 1) := by decide +kernel
theorem d4_30 : decode prog_10_method_11_code 30 = .ok (.ireturn, 1) := by decide +kernel
theorem d4_31 : decode prog_10_method_11_code 31 = .ok (.iinc 3 1, 3) := by decide +kernel
theorem d4_34 : decode prog_10_method_11_code 34 = .ok (.goto (-32), 3) := by decide +kernel
theorem W0 {Z : State} {a0 : Array Value} (hw : ∀ d ∈ tables_1, d.before a0 Z = true) : (Jvm.Cond.constantDouble "com/example/cohabit/cohabit/FlowBoundsCrossedPinLaw" (7 : Nat) (4611686018427387904 : UInt64)).before a0 Z = true := hw _ (List.mem_of_getElem? (i := 0) rfl)
theorem W1 {Z : State} {a0 : Array Value} (hw : ∀ d ∈ tables_1, d.before a0 Z = true) : (Jvm.Cond.methodLink "com/example/cohabit/cohabit/FlowBoundsCrossedPinLaw" (9 : Nat) ({ cls := "com/example/cohabit/cohabit/FlowBoundsCrossedPinLaw", name := "take", desc := "(IDDD)[D" } : Jvm.MethodName)).before a0 Z = true := hw _ (List.mem_of_getElem? (i := 1) rfl)
theorem pd_2849444444295b44 : parseMethodDescriptor "(IDDD)[D" = some ⟨[.int, .double, .double, .double], (some (.array .double))⟩ := by decide +kernel
theorem W2 {Z : State} {a0 : Array Value} (hw : ∀ d ∈ tables_1, d.before a0 Z = true) : (Jvm.Cond.static ({ cls := "com/example/cohabit/cohabit/FlowBoundsCrossedPinLaw", name := "take", desc := "(IDDD)[D" } : Jvm.MethodName)).before a0 Z = true := hw _ (List.mem_of_getElem? (i := 2) rfl)
theorem W4 {Z : State} {a0 : Array Value} (hw : ∀ d ∈ tables_1, d.before a0 Z = true) : (Jvm.Cond.code ({ cls := "com/example/cohabit/cohabit/FlowBoundsCrossedPinLaw", name := "take", desc := "(IDDD)[D" } : Jvm.MethodName) method_5_code (7 : Nat) (Option.some (Jvm.ClassFile.FieldType.array Jvm.ClassFile.FieldType.double))).before a0 Z = true := hw _ (List.mem_of_getElem? (i := 4) rfl)
theorem W3 {Z : State} {a0 : Array Value} (hw : ∀ d ∈ tables_1, d.before a0 Z = true) : (Jvm.Cond.initialized "com/example/cohabit/cohabit/FlowBoundsCrossedPinLaw").before a0 Z = true := hw _ (List.mem_of_getElem? (i := 3) rfl)
theorem W6 {Z : State} {a0 : Array Value} (hw : ∀ d ∈ tables_1, d.before a0 Z = true) : (Jvm.Cond.methodLink "com/example/cohabit/cohabit/FlowBoundsCrossedPinLaw" (15 : Nat) ({ cls := "com/example/cohabit/cohabit/FlowBoundsCrossedPinLaw", name := "up", desc := "(I)D" } : Jvm.MethodName)).before a0 Z = true := hw _ (List.mem_of_getElem? (i := 6) rfl)
theorem pd_28492944 : parseMethodDescriptor "(I)D" = some ⟨[.int], (some .double)⟩ := by decide +kernel
theorem W7 {Z : State} {a0 : Array Value} (hw : ∀ d ∈ tables_1, d.before a0 Z = true) : (Jvm.Cond.static ({ cls := "com/example/cohabit/cohabit/FlowBoundsCrossedPinLaw", name := "up", desc := "(I)D" } : Jvm.MethodName)).before a0 Z = true := hw _ (List.mem_of_getElem? (i := 7) rfl)
theorem W8 {Z : State} {a0 : Array Value} (hw : ∀ d ∈ tables_1, d.before a0 Z = true) : (Jvm.Cond.code ({ cls := "com/example/cohabit/cohabit/FlowBoundsCrossedPinLaw", name := "up", desc := "(I)D" } : Jvm.MethodName) method_3_code (1 : Nat) (Option.some Jvm.ClassFile.FieldType.double)).before a0 Z = true := hw _ (List.mem_of_getElem? (i := 8) rfl)
theorem W9 {Z : State} {a0 : Array Value} (hw : ∀ d ∈ tables_1, d.before a0 Z = true) : (Jvm.Cond.classLink "com/example/cohabit/cohabit/FlowBoundsCrossedPinLaw" (19 : Nat) "com/example/cohabit/cohabit/FlowBounds").before a0 Z = true := hw _ (List.mem_of_getElem? (i := 9) rfl)
theorem W11 {Z : State} {a0 : Array Value} (hw : ∀ d ∈ tables_1, d.before a0 Z = true) : (Jvm.Cond.initialized "com/example/cohabit/cohabit/FlowBounds").before a0 Z = true := hw _ (List.mem_of_getElem? (i := 11) rfl)
theorem W12 {Z : State} {a0 : Array Value} (hw : ∀ d ∈ tables_1, d.before a0 Z = true) : (Jvm.Cond.methodLink "com/example/cohabit/cohabit/FlowBoundsCrossedPinLaw" (21 : Nat) ({ cls := "com/example/cohabit/cohabit/FlowBounds", name := "<init>", desc := "([D[D)V" } : Jvm.MethodName)).before a0 Z = true := hw _ (List.mem_of_getElem? (i := 12) rfl)
theorem pd_285b445b442956 : parseMethodDescriptor "([D[D)V" = some ⟨[(.array .double), (.array .double)], none⟩ := by decide +kernel
theorem W13 {Z : State} {a0 : Array Value} (hw : ∀ d ∈ tables_1, d.before a0 Z = true) : (Jvm.Cond.instanceMethod ({ cls := "com/example/cohabit/cohabit/FlowBounds", name := "<init>", desc := "([D[D)V" } : Jvm.MethodName)).before a0 Z = true := hw _ (List.mem_of_getElem? (i := 13) rfl)
theorem W14 {Z : State} {a0 : Array Value} (hw : ∀ d ∈ tables_1, d.before a0 Z = true) : (Jvm.Cond.code ({ cls := "com/example/cohabit/cohabit/FlowBounds", name := "<init>", desc := "([D[D)V" } : Jvm.MethodName) prog_10_method_1_code (4 : Nat) (Option.none : Option Jvm.ClassFile.FieldType)).before a0 Z = true := hw _ (List.mem_of_getElem? (i := 14) rfl)
theorem W35 {Z : State} {a0 : Array Value} (hw : ∀ d ∈ tables_1, d.before a0 Z = true) : (Jvm.Cond.methodLink "com/example/cohabit/cohabit/FlowBoundsCrossedPinLaw" (28 : Nat) ({ cls := "com/example/cohabit/cohabit/FlowBounds", name := "crossed", desc := "(D)Z" } : Jvm.MethodName)).before a0 Z = true := hw _ (List.mem_of_getElem? (i := 35) rfl)
theorem pd_2844295a : parseMethodDescriptor "(D)Z" = some ⟨[.double], (some .boolean)⟩ := by decide +kernel
theorem W36 {Z : State} {a0 : Array Value} (hw : ∀ d ∈ tables_1, d.before a0 Z = true) : (Jvm.Cond.declares ({ cls := "com/example/cohabit/cohabit/FlowBounds", name := "crossed", desc := "(D)Z" } : Jvm.MethodName)).before a0 Z = true := hw _ (List.mem_of_getElem? (i := 36) rfl)
theorem W38 {Z : State} {a0 : Array Value} (hw : ∀ d ∈ tables_1, d.before a0 Z = true) : (Jvm.Cond.selects "com/example/cohabit/cohabit/FlowBounds" ({ cls := "com/example/cohabit/cohabit/FlowBounds", name := "crossed", desc := "(D)Z" } : Jvm.MethodName) ({ cls := "com/example/cohabit/cohabit/FlowBounds", name := "crossed", desc := "(D)Z" } : Jvm.MethodName)).before a0 Z = true := hw _ (List.mem_of_getElem? (i := 38) rfl)
theorem W37 {Z : State} {a0 : Array Value} (hw : ∀ d ∈ tables_1, d.before a0 Z = true) : (Jvm.Cond.instanceMethod ({ cls := "com/example/cohabit/cohabit/FlowBounds", name := "crossed", desc := "(D)Z" } : Jvm.MethodName)).before a0 Z = true := hw _ (List.mem_of_getElem? (i := 37) rfl)
theorem W39 {Z : State} {a0 : Array Value} (hw : ∀ d ∈ tables_1, d.before a0 Z = true) : (Jvm.Cond.code ({ cls := "com/example/cohabit/cohabit/FlowBounds", name := "crossed", desc := "(D)Z" } : Jvm.MethodName) prog_10_method_11_code (4 : Nat) (Option.some Jvm.ClassFile.FieldType.boolean)).before a0 Z = true := hw _ (List.mem_of_getElem? (i := 39) rfl)
theorem W32 {Z : State} {a0 : Array Value} (hw : ∀ d ∈ tables_1, d.before a0 Z = true) : (Jvm.Cond.methodLink "com/example/cohabit/cohabit/FlowBoundsCrossedPinLaw" (24 : Nat) ({ cls := "com/example/cohabit/cohabit/FlowBoundsCrossedPinLaw", name := "over", desc := "(III)Z" } : Jvm.MethodName)).before a0 Z = true := hw _ (List.mem_of_getElem? (i := 32) rfl)
theorem pd_28494949295a : parseMethodDescriptor "(III)Z" = some ⟨[.int, .int, .int], (some .boolean)⟩ := by decide +kernel
theorem W33 {Z : State} {a0 : Array Value} (hw : ∀ d ∈ tables_1, d.before a0 Z = true) : (Jvm.Cond.static ({ cls := "com/example/cohabit/cohabit/FlowBoundsCrossedPinLaw", name := "over", desc := "(III)Z" } : Jvm.MethodName)).before a0 Z = true := hw _ (List.mem_of_getElem? (i := 33) rfl)
theorem W34 {Z : State} {a0 : Array Value} (hw : ∀ d ∈ tables_1, d.before a0 Z = true) : (Jvm.Cond.code ({ cls := "com/example/cohabit/cohabit/FlowBoundsCrossedPinLaw", name := "over", desc := "(III)Z" } : Jvm.MethodName) method_4_code (3 : Nat) (Option.some Jvm.ClassFile.FieldType.boolean)).before a0 Z = true := hw _ (List.mem_of_getElem? (i := 34) rfl)
def Glob (Z : State) (a0 : Array Value) (EL : List (String × Nat)) : Prop :=
  (∀ d ∈ tables_1, d.before a0 Z = true) ∧ EW Z a0 EL ∧ EL = []
theorem Glob.hw {Z : State} {a0 : Array Value} {EL : List (String × Nat)} (G : Glob Z a0 EL) : ∀ d ∈ tables_1, d.before a0 Z = true := G.1
theorem Glob.ew {Z : State} {a0 : Array Value} {EL : List (String × Nat)} (G : Glob Z a0 EL) : EW Z a0 EL := G.2.1
theorem Glob.el {Z : State} {a0 : Array Value} {EL : List (String × Nat)} (G : Glob Z a0 EL) : EL = [] := G.2.2
set_option maxRecDepth 65536 in
set_option maxHeartbeats 40000000 in
theorem rm_take0 (l : Launch) (Z : State) (a0 : Array Value) (EL : List (String × Nat)) (G : Glob Z a0 EL) (x0 x1 x2 : UInt64) (h : Heap) (O : Ext Z.heap h)  :
    Met l Z EL true (⟨"com/example/cohabit/cohabit/FlowBoundsCrossedPinLaw", "take", "(IDDD)[D"⟩ : MethodName) method_5_code 7 (some (.array .double)) [] ({ frames := 0, cells := 1, slots := 0, locals := 0 } : Room) #[(.int (0 : Int32)), (.double x0), (.double x1), (.double x2)] h [] (fun r h' => ∃ (d : Addr) (kd : ClassId), r = some (.ref d) ∧ Keep h h' [] ∧ h.size ≤ d ∧ Z.heap.size ≤ d ∧ Arv Z h' d kd .double (0 : Int32) [] (.double 0) ∧ Exa Z h' d "[D") := by
  have hw := G.hw
  refine Met.of (plainFor_of_name pn_50696e4c6177_1) G.ew O ?_
  intro p e s m below meth c T0 C0 S0
  refine Endw.eq (g' := mkF m 0 #[.val (.int (0 : Int32)), .val (.double x0), .second, .val (.double x1), .second, .val (.double x2), .second] []) (by first | rfl | (simp [entryFrame, mkF, argsToLocals, own_cI, own_cR, own_cN, own_cJ, own_cD, maxLocals]; done)) ?_
  refine Endw.st (T' := T0) (g' := (mkF m 5 #[.val (.int (0 : Int32)), .val (.double x0), .second, .val (.double x1), .second, .val (.double x2), .second] [(.int (0 : Int32))])) (fun tt_ kk_ => XS.iloadN C0.here C0.hx rfl (C0.dec d0_0) rfl (XS.ifNo C0.here C0.hx rfl (C0.dec d0_1) rfl (XT.i0_ne_f (by decide)) (XS.iconst C0.here C0.hx rfl (C0.dec d0_4) kk_))) ?_
  refine C0.newAE (aty := .double) (z := (0 : Int32)) (cap := 0) (vs := []) (ad := "[D") (by decide +kernel) (W5 hw) d0_5 (pc' := 7) rfl (by decide) (by decide) (by decide) (by decide) (by decide) rfl ?_
  intro T1 h1 a1 kA1 C1 K1 A1 ge1 zg1 V1 S1 E1
  show Endw p e below T1 (mkF m 7 #[.val (.int (0 : Int32)), .val (.double x0), .second, .val (.double x1), .second, .val (.double x2), .second] [(.ref a1)]) _
  exact C1.retA (t := (.array .double)) rfl rfl rfl rfl d0_7 (by decide) (by decide) ⟨a1, kA1, rfl, (Keep.trans (Keep.refl h []) K1 all0), ge1, zg1, V1, E1⟩
set_option maxRecDepth 65536 in
set_option maxHeartbeats 40000000 in
theorem rm_take1 (l : Launch) (Z : State) (a0 : Array Value) (EL : List (String × Nat)) (G : Glob Z a0 EL) (x0 x1 x2 : UInt64) (h : Heap) (O : Ext Z.heap h)  :
    Met l Z EL true (⟨"com/example/cohabit/cohabit/FlowBoundsCrossedPinLaw", "take", "(IDDD)[D"⟩ : MethodName) method_5_code 7 (some (.array .double)) [] ({ frames := 0, cells := 1, slots := 1, locals := 0 } : Room) #[(.int (1 : Int32)), (.double x0), (.double x1), (.double x2)] h [] (fun r h' => ∃ (d : Addr) (kd : ClassId), r = some (.ref d) ∧ Keep h h' [] ∧ h.size ≤ d ∧ Z.heap.size ≤ d ∧ Arv Z h' d kd .double (1 : Int32) [(.double x0)] (.double 0) ∧ Exa Z h' d "[D") := by
  have hw := G.hw
  refine Met.of (plainFor_of_name pn_50696e4c6177_1) G.ew O ?_
  intro p e s m below meth c T0 C0 S0
  refine Endw.eq (g' := mkF m 0 #[.val (.int (1 : Int32)), .val (.double x0), .second, .val (.double x1), .second, .val (.double x2), .second] []) (by first | rfl | (simp [entryFrame, mkF, argsToLocals, own_cI, own_cR, own_cN, own_cJ, own_cD, maxLocals]; done)) ?_
  refine Endw.st (T' := T0) (g' := (mkF m 14 #[.val (.int (1 : Int32)), .val (.double x0), .second, .val (.double x1), .second, .val (.double x2), .second] [(.int (1 : Int32))])) (fun tt_ kk_ => XS.iloadN C0.here C0.hx rfl (C0.dec d0_0) rfl (XS.ifYes C0.here C0.hx rfl (pc0 := 1) rfl (C0.dec d0_1) rfl (XT.i0_ne_t (by decide)) (by decide) rfl (XS.iloadN C0.here C0.hx rfl (C0.dec d0_8) rfl (XS.iconst C0.here C0.hx rfl (C0.dec d0_9) (XS.icmpNo C0.here C0.hx rfl (C0.dec d0_10) rfl (XT.ii_ne_f (by decide)) (XS.iconst C0.here C0.hx rfl (C0.dec d0_13) kk_)))))) ?_
  refine C0.newAE (aty := .double) (z := (1 : Int32)) (cap := 1) (vs := [(.double 0)]) (ad := "[D") (by decide +kernel) (W5 hw) d0_14 (pc' := 16) rfl (by decide) (by decide) (by decide) (by decide) (by decide) rfl ?_
  intro T1 h1 a1 kA1 C1 K1 A1 ge1 zg1 V1 S1 E1
  show Endw p e below T1 (mkF m 16 #[.val (.int (1 : Int32)), .val (.double x0), .second, .val (.double x1), .second, .val (.double x2), .second] [(.ref a1)]) _
  refine Endw.st (T' := T1) (g' := (mkF m 19 #[.val (.int (1 : Int32)), .val (.double x0), .second, .val (.double x1), .second, .val (.double x2), .second] [(.double x0), (.int (0 : Int32)), (.ref a1), (.ref a1)])) (fun tt_ kk_ => XS.dup C1.here C1.hx rfl (C1.dec d0_16) rfl rfl (XS.iconst C1.here C1.hx rfl (C1.dec d0_17) (XS.dloadN C1.here C1.hx rfl (C1.dec d0_18) rfl kk_))) ?_
  refine C1.dastore V1 ⟨by decide, by decide⟩ 0 (by decide) (Nat.le_of_ble_eq_true rfl) zg1 (vs' := [(.double x0)]) rfl d0_19 (pc' := 20) rfl ?_
  intro T2 h2 C2 K2 A2 V2
  show Endw p e below T2 (mkF m 20 #[.val (.int (1 : Int32)), .val (.double x0), .second, .val (.double x1), .second, .val (.double x2), .second] [(.ref a1)]) _
  have f3 := (E1.keep K2)
  exact C2.retA (t := (.array .double)) rfl rfl rfl rfl d0_20 (by decide) (by decide) ⟨a1, kA1, rfl, (Keep.trans (Keep.trans (Keep.refl h []) K1 all0) K2 (allS (Or.inr ge1) all0)), ge1, zg1, V2, f3⟩
set_option maxRecDepth 65536 in
set_option maxHeartbeats 40000000 in
theorem rm_take2 (l : Launch) (Z : State) (a0 : Array Value) (EL : List (String × Nat)) (G : Glob Z a0 EL) (x0 x1 x2 : UInt64) (h : Heap) (O : Ext Z.heap h)  :
    Met l Z EL true (⟨"com/example/cohabit/cohabit/FlowBoundsCrossedPinLaw", "take", "(IDDD)[D"⟩ : MethodName) method_5_code 7 (some (.array .double)) [] ({ frames := 0, cells := 1, slots := 2, locals := 0 } : Room) #[(.int (2 : Int32)), (.double x0), (.double x1), (.double x2)] h [] (fun r h' => ∃ (d : Addr) (kd : ClassId), r = some (.ref d) ∧ Keep h h' [] ∧ h.size ≤ d ∧ Z.heap.size ≤ d ∧ Arv Z h' d kd .double (2 : Int32) [(.double x0), (.double x1)] (.double 0) ∧ Exa Z h' d "[D") := by
  have hw := G.hw
  refine Met.of (plainFor_of_name pn_50696e4c6177_1) G.ew O ?_
  intro p e s m below meth c T0 C0 S0
  refine Endw.eq (g' := mkF m 0 #[.val (.int (2 : Int32)), .val (.double x0), .second, .val (.double x1), .second, .val (.double x2), .second] []) (by first | rfl | (simp [entryFrame, mkF, argsToLocals, own_cI, own_cR, own_cN, own_cJ, own_cD, maxLocals]; done)) ?_
  refine Endw.st (T' := T0) (g' := (mkF m 26 #[.val (.int (2 : Int32)), .val (.double x0), .second, .val (.double x1), .second, .val (.double x2), .second] [])) (fun tt_ kk_ => XS.iloadN C0.here C0.hx rfl (C0.dec d0_0) rfl (XS.ifYes C0.here C0.hx rfl (pc0 := 1) rfl (C0.dec d0_1) rfl (XT.i0_ne_t (by decide)) (by decide) rfl (XS.iloadN C0.here C0.hx rfl (C0.dec d0_8) rfl (XS.iconst C0.here C0.hx rfl (C0.dec d0_9) (XS.icmpYes C0.here C0.hx rfl (pc0 := 10) rfl (C0.dec d0_10) rfl (XT.ii_ne_t (by decide)) (by decide) rfl (XS.iloadN C0.here C0.hx rfl (C0.dec d0_21) rfl (XS.iconst C0.here C0.hx rfl (C0.dec d0_22) (XS.icmpNo C0.here C0.hx rfl (C0.dec d0_23) rfl (XT.ii_ne_f (by decide)) kk_)))))))) ?_
  refine Endw.st (T' := T0) (g' := (mkF m 27 #[.val (.int (2 : Int32)), .val (.double x0), .second, .val (.double x1), .second, .val (.double x2), .second] [(.int (2 : Int32))])) (fun tt_ kk_ => XS.iconst C0.here C0.hx rfl (C0.dec d0_26) kk_) ?_
  refine C0.newAE (aty := .double) (z := (2 : Int32)) (cap := 2) (vs := [(.double 0), (.double 0)]) (ad := "[D") (by decide +kernel) (W5 hw) d0_27 (pc' := 29) rfl (by decide) (by decide) (by decide) (by decide) (by decide) rfl ?_
  intro T1 h1 a1 kA1 C1 K1 A1 ge1 zg1 V1 S1 E1
  show Endw p e below T1 (mkF m 29 #[.val (.int (2 : Int32)), .val (.double x0), .second, .val (.double x1), .second, .val (.double x2), .second] [(.ref a1)]) _
  refine Endw.st (T' := T1) (g' := (mkF m 32 #[.val (.int (2 : Int32)), .val (.double x0), .second, .val (.double x1), .second, .val (.double x2), .second] [(.double x0), (.int (0 : Int32)), (.ref a1), (.ref a1)])) (fun tt_ kk_ => XS.dup C1.here C1.hx rfl (C1.dec d0_29) rfl rfl (XS.iconst C1.here C1.hx rfl (C1.dec d0_30) (XS.dloadN C1.here C1.hx rfl (C1.dec d0_31) rfl kk_))) ?_
  refine C1.dastore V1 ⟨by decide, by decide⟩ 0 (by decide) (Nat.le_of_ble_eq_true rfl) zg1 (vs' := [(.double x0), (.double 0)]) rfl d0_32 (pc' := 33) rfl ?_
  intro T2 h2 C2 K2 A2 V2
  show Endw p e below T2 (mkF m 33 #[.val (.int (2 : Int32)), .val (.double x0), .second, .val (.double x1), .second, .val (.double x2), .second] [(.ref a1)]) _
  refine Endw.st (T' := T2) (g' := (mkF m 36 #[.val (.int (2 : Int32)), .val (.double x0), .second, .val (.double x1), .second, .val (.double x2), .second] [(.double x1), (.int (1 : Int32)), (.ref a1), (.ref a1)])) (fun tt_ kk_ => XS.dup C2.here C2.hx rfl (C2.dec d0_33) rfl rfl (XS.iconst C2.here C2.hx rfl (C2.dec d0_34) (XS.dloadN C2.here C2.hx rfl (C2.dec d0_35) rfl kk_))) ?_
  refine C2.dastore V2 ⟨by decide, by decide⟩ 1 (by decide) (Nat.le_of_ble_eq_true rfl) zg1 (vs' := [(.double x0), (.double x1)]) rfl d0_36 (pc' := 37) rfl ?_
  intro T3 h3 C3 K3 A3 V3
  show Endw p e below T3 (mkF m 37 #[.val (.int (2 : Int32)), .val (.double x0), .second, .val (.double x1), .second, .val (.double x2), .second] [(.ref a1)]) _
  have f4 := ((E1.keep K2).keep K3)
  exact C3.retA (t := (.array .double)) rfl rfl rfl rfl d0_37 (by decide) (by decide) ⟨a1, kA1, rfl, (Keep.trans (Keep.trans (Keep.trans (Keep.refl h []) K1 all0) K2 (allS (Or.inr ge1) all0)) K3 (allS (Or.inr ge1) all0)), ge1, zg1, V3, f4⟩
set_option maxRecDepth 65536 in
set_option maxHeartbeats 40000000 in
theorem rm_take3 (l : Launch) (Z : State) (a0 : Array Value) (EL : List (String × Nat)) (G : Glob Z a0 EL) (x0 x1 x2 : UInt64) (h : Heap) (O : Ext Z.heap h)  :
    Met l Z EL true (⟨"com/example/cohabit/cohabit/FlowBoundsCrossedPinLaw", "take", "(IDDD)[D"⟩ : MethodName) method_5_code 7 (some (.array .double)) [] ({ frames := 0, cells := 1, slots := 3, locals := 0 } : Room) #[(.int (3 : Int32)), (.double x0), (.double x1), (.double x2)] h [] (fun r h' => ∃ (d : Addr) (kd : ClassId), r = some (.ref d) ∧ Keep h h' [] ∧ h.size ≤ d ∧ Z.heap.size ≤ d ∧ Arv Z h' d kd .double (3 : Int32) [(.double x0), (.double x1), (.double x2)] (.double 0) ∧ Exa Z h' d "[D") := by
  have hw := G.hw
  refine Met.of (plainFor_of_name pn_50696e4c6177_1) G.ew O ?_
  intro p e s m below meth c T0 C0 S0
  refine Endw.eq (g' := mkF m 0 #[.val (.int (3 : Int32)), .val (.double x0), .second, .val (.double x1), .second, .val (.double x2), .second] []) (by first | rfl | (simp [entryFrame, mkF, argsToLocals, own_cI, own_cR, own_cN, own_cJ, own_cD, maxLocals]; done)) ?_
  refine Endw.st (T' := T0) (g' := (mkF m 38 #[.val (.int (3 : Int32)), .val (.double x0), .second, .val (.double x1), .second, .val (.double x2), .second] [])) (fun tt_ kk_ => XS.iloadN C0.here C0.hx rfl (C0.dec d0_0) rfl (XS.ifYes C0.here C0.hx rfl (pc0 := 1) rfl (C0.dec d0_1) rfl (XT.i0_ne_t (by decide)) (by decide) rfl (XS.iloadN C0.here C0.hx rfl (C0.dec d0_8) rfl (XS.iconst C0.here C0.hx rfl (C0.dec d0_9) (XS.icmpYes C0.here C0.hx rfl (pc0 := 10) rfl (C0.dec d0_10) rfl (XT.ii_ne_t (by decide)) (by decide) rfl (XS.iloadN C0.here C0.hx rfl (C0.dec d0_21) rfl (XS.iconst C0.here C0.hx rfl (C0.dec d0_22) (XS.icmpYes C0.here C0.hx rfl (pc0 := 23) rfl (C0.dec d0_23) rfl (XT.ii_ne_t (by decide)) (by decide) rfl kk_)))))))) ?_
  refine Endw.st (T' := T0) (g' := (mkF m 39 #[.val (.int (3 : Int32)), .val (.double x0), .second, .val (.double x1), .second, .val (.double x2), .second] [(.int (3 : Int32))])) (fun tt_ kk_ => XS.iconst C0.here C0.hx rfl (C0.dec d0_38) kk_) ?_
  refine C0.newAE (aty := .double) (z := (3 : Int32)) (cap := 3) (vs := [(.double 0), (.double 0), (.double 0)]) (ad := "[D") (by decide +kernel) (W5 hw) d0_39 (pc' := 41) rfl (by decide) (by decide) (by decide) (by decide) (by decide) rfl ?_
  intro T1 h1 a1 kA1 C1 K1 A1 ge1 zg1 V1 S1 E1
  show Endw p e below T1 (mkF m 41 #[.val (.int (3 : Int32)), .val (.double x0), .second, .val (.double x1), .second, .val (.double x2), .second] [(.ref a1)]) _
  refine Endw.st (T' := T1) (g' := (mkF m 44 #[.val (.int (3 : Int32)), .val (.double x0), .second, .val (.double x1), .second, .val (.double x2), .second] [(.double x0), (.int (0 : Int32)), (.ref a1), (.ref a1)])) (fun tt_ kk_ => XS.dup C1.here C1.hx rfl (C1.dec d0_41) rfl rfl (XS.iconst C1.here C1.hx rfl (C1.dec d0_42) (XS.dloadN C1.here C1.hx rfl (C1.dec d0_43) rfl kk_))) ?_
  refine C1.dastore V1 ⟨by decide, by decide⟩ 0 (by decide) (Nat.le_of_ble_eq_true rfl) zg1 (vs' := [(.double x0), (.double 0), (.double 0)]) rfl d0_44 (pc' := 45) rfl ?_
  intro T2 h2 C2 K2 A2 V2
  show Endw p e below T2 (mkF m 45 #[.val (.int (3 : Int32)), .val (.double x0), .second, .val (.double x1), .second, .val (.double x2), .second] [(.ref a1)]) _
  refine Endw.st (T' := T2) (g' := (mkF m 48 #[.val (.int (3 : Int32)), .val (.double x0), .second, .val (.double x1), .second, .val (.double x2), .second] [(.double x1), (.int (1 : Int32)), (.ref a1), (.ref a1)])) (fun tt_ kk_ => XS.dup C2.here C2.hx rfl (C2.dec d0_45) rfl rfl (XS.iconst C2.here C2.hx rfl (C2.dec d0_46) (XS.dloadN C2.here C2.hx rfl (C2.dec d0_47) rfl kk_))) ?_
  refine C2.dastore V2 ⟨by decide, by decide⟩ 1 (by decide) (Nat.le_of_ble_eq_true rfl) zg1 (vs' := [(.double x0), (.double x1), (.double 0)]) rfl d0_48 (pc' := 49) rfl ?_
  intro T3 h3 C3 K3 A3 V3
  show Endw p e below T3 (mkF m 49 #[.val (.int (3 : Int32)), .val (.double x0), .second, .val (.double x1), .second, .val (.double x2), .second] [(.ref a1)]) _
  refine Endw.st (T' := T3) (g' := (mkF m 53 #[.val (.int (3 : Int32)), .val (.double x0), .second, .val (.double x1), .second, .val (.double x2), .second] [(.double x2), (.int (2 : Int32)), (.ref a1), (.ref a1)])) (fun tt_ kk_ => XS.dup C3.here C3.hx rfl (C3.dec d0_49) rfl rfl (XS.iconst C3.here C3.hx rfl (C3.dec d0_50) (XS.dload C3.here C3.hx rfl (C3.dec d0_51) rfl kk_))) ?_
  refine C3.dastore V3 ⟨by decide, by decide⟩ 2 (by decide) (Nat.le_of_ble_eq_true rfl) zg1 (vs' := [(.double x0), (.double x1), (.double x2)]) rfl d0_53 (pc' := 54) rfl ?_
  intro T4 h4 C4 K4 A4 V4
  show Endw p e below T4 (mkF m 54 #[.val (.int (3 : Int32)), .val (.double x0), .second, .val (.double x1), .second, .val (.double x2), .second] [(.ref a1)]) _
  have f5 := (((E1.keep K2).keep K3).keep K4)
  exact C4.retA (t := (.array .double)) rfl rfl rfl rfl d0_54 (by decide) (by decide) ⟨a1, kA1, rfl, (Keep.trans (Keep.trans (Keep.trans (Keep.trans (Keep.refl h []) K1 all0) K2 (allS (Or.inr ge1) all0)) K3 (allS (Or.inr ge1) all0)) K4 (allS (Or.inr ge1) all0)), ge1, zg1, V4, f5⟩
set_option maxRecDepth 65536 in
set_option maxHeartbeats 40000000 in
theorem rm_up (l : Launch) (Z : State) (a0 : Array Value) (EL : List (String × Nat)) (G : Glob Z a0 EL) (b : Int32) (h : Heap) (O : Ext Z.heap h)  :
    Met l Z EL true (⟨"com/example/cohabit/cohabit/FlowBoundsCrossedPinLaw", "up", "(I)D"⟩ : MethodName) method_3_code 1 (some .double) [] ({ frames := 0, cells := 0, slots := 0, locals := 0 } : Room) #[(.int b)] h [] (fun r h' => r = some (.double (own_up b)) ∧ h = h') := by
  have hw := G.hw
  refine Met.of (plainFor_of_name pn_50696e4c6177_1) G.ew O ?_
  intro p e s m below meth c T0 C0 S0
  refine Endw.eq (g' := mkF m 0 #[.val (.int b)] []) (by first | rfl | (simp [entryFrame, mkF, argsToLocals, own_cI, own_cR, own_cN, own_cJ, own_cD, maxLocals]; done)) ?_
  refine Endw.st (T' := T0) (g' := (mkF m 3 #[.val (.int b)] [(.int (31 : Int32)), (.int b)])) (fun tt_ kk_ => XS.iloadN C0.here C0.hx rfl (C0.dec d1_0) rfl (XS.bipush C0.here C0.hx rfl (C0.dec d1_1) kk_)) ?_
  by_cases c1 : b = (31 : Int32)
  · refine Endw.st (T' := T0) (g' := (mkF m 9 #[.val (.int b)] [(.double (9218868437227405312 : UInt64))])) (fun tt_ kk_ => XS.icmpNo C0.here C0.hx rfl (C0.dec d1_3) rfl (XT.ii_ne_f c1) (own_ldc2D C0 (W40 hw) rfl d1_6 kk_)) ?_
    exact C0.retD rfl d1_9 (by decide) (by decide) ⟨by rw [own_up, if_pos c1], rfl⟩
  · refine Endw.st (T' := T0) (g' := (mkF m 12 #[.val (.int b)] [(.double (FP.i2d b))])) (fun tt_ kk_ => XS.icmpYes C0.here C0.hx rfl (pc0 := 3) rfl (C0.dec d1_3) rfl (XT.ii_ne_t c1) (by decide) rfl (XS.iloadN C0.here C0.hx rfl (C0.dec d1_10) rfl (XS.i2dS C0.here C0.hx rfl (C0.dec d1_11) rfl rfl kk_))) ?_
    exact C0.retD rfl d1_12 (by decide) (by decide) ⟨by rw [own_up, if_neg c1], rfl⟩
set_option maxRecDepth 65536 in
set_option maxHeartbeats 40000000 in
theorem rm_over (l : Launch) (Z : State) (a0 : Array Value) (EL : List (String × Nat)) (G : Glob Z a0 EL) (a b t : Int32) (h : Heap) (O : Ext Z.heap h)  :
    Met l Z EL true (⟨"com/example/cohabit/cohabit/FlowBoundsCrossedPinLaw", "over", "(III)Z"⟩ : MethodName) method_4_code 3 (some .boolean) [] ({ frames := 0, cells := 0, slots := 0, locals := 0 } : Room) #[(.int a), (.int b), (.int t)] h [] (fun r h' => r = some (.int (own_ov a b t)) ∧ h = h') := by
  have hw := G.hw
  refine Met.of (plainFor_of_name pn_50696e4c6177_1) G.ew O ?_
  intro p e s m below meth c T0 C0 S0
  refine Endw.eq (g' := mkF m 0 #[.val (.int a), .val (.int b), .val (.int t)] []) (by first | rfl | (simp [entryFrame, mkF, argsToLocals, own_cI, own_cR, own_cN, own_cJ, own_cD, maxLocals]; done)) ?_
  refine Endw.st (T' := T0) (g' := (mkF m 3 #[.val (.int a), .val (.int b), .val (.int t)] [(.int (31 : Int32)), (.int b)])) (fun tt_ kk_ => XS.iloadN C0.here C0.hx rfl (C0.dec d2_0) rfl (XS.bipush C0.here C0.hx rfl (C0.dec d2_1) kk_)) ?_
  by_cases c1 : b = (31 : Int32)
  · refine Endw.st (T' := T0) (g' := (mkF m 7 #[.val (.int a), .val (.int b), .val (.int t)] [(.int (0 : Int32))])) (fun tt_ kk_ => XS.icmpNo C0.here C0.hx rfl (C0.dec d2_3) rfl (XT.ii_ne_f c1) (XS.iconst C0.here C0.hx rfl (C0.dec d2_6) kk_)) ?_
    exact C0.retI (t := .boolean) rfl (by simp) rfl d2_7 (by decide) (by decide) ⟨by rw [own_ov, if_pos c1], rfl⟩
  · refine Endw.st (T' := T0) (g' := (mkF m 14 #[.val (.int a), .val (.int b), .val (.int t)] [(.int t), (.int ((2 : Int32) * (a - b)))])) (fun tt_ kk_ => XS.icmpYes C0.here C0.hx rfl (pc0 := 3) rfl (C0.dec d2_3) rfl (XT.ii_ne_t c1) (by decide) rfl (XS.iconst C0.here C0.hx rfl (C0.dec d2_8) (XS.iloadN C0.here C0.hx rfl (C0.dec d2_9) rfl (XS.iloadN C0.here C0.hx rfl (C0.dec d2_10) rfl (XS.isub C0.here C0.hx rfl (C0.dec d2_11) rfl (XS.imul C0.here C0.hx rfl (C0.dec d2_12) rfl (XS.iloadN C0.here C0.hx rfl (C0.dec d2_13) rfl kk_))))))) ?_
    by_cases c2 : t < ((2 : Int32) * (a - b))
    · refine Endw.st (T' := T0) (g' := (mkF m 22 #[.val (.int a), .val (.int b), .val (.int t)] [(.int (1 : Int32))])) (fun tt_ kk_ => XS.icmpNo C0.here C0.hx rfl (C0.dec d2_14) rfl (XT.ii_le_f c2) (XS.iconst C0.here C0.hx rfl (C0.dec d2_17) (XS.goto C0.here C0.hx rfl (pc0 := 18) rfl (C0.dec d2_18) (by decide) rfl kk_))) ?_
      exact C0.retI (t := .boolean) rfl (by simp) rfl d2_22 (by decide) (by decide) ⟨by rw [own_ov, if_neg c1, if_pos c2], rfl⟩
    · refine Endw.st (T' := T0) (g' := (mkF m 22 #[.val (.int a), .val (.int b), .val (.int t)] [(.int (0 : Int32))])) (fun tt_ kk_ => XS.icmpYes C0.here C0.hx rfl (pc0 := 14) rfl (C0.dec d2_14) rfl (XT.ii_le_t c2) (by decide) rfl (XS.iconst C0.here C0.hx rfl (C0.dec d2_21) kk_)) ?_
      exact C0.retI (t := .boolean) rfl (by simp) rfl d2_22 (by decide) (by decide) ⟨by rw [own_ov, if_neg c1, if_neg c2], rfl⟩
set_option maxRecDepth 65536 in
set_option maxHeartbeats 40000000 in
theorem rm_init0 (l : Launch) (Z : State) (a0 : Array Value) (EL : List (String × Nat)) (G : Glob Z a0 EL) (a b cc : Addr) (kb kc : ClassId) (h : Heap) (O : Ext Z.heap h) (E0 : Exa Z h a "com/example/cohabit/cohabit/FlowBounds") (F0 : Fld Z h a "com/example/cohabit/cohabit/FlowBounds" "lower" "[D" .null) (F1 : Fld Z h a "com/example/cohabit/cohabit/FlowBounds" "upper" "[D" .null) (za : Z.heap.size ≤ a) (V : Arv Z h b kb .double (0 : Int32) [] (.double 0)) (EV : Exa Z h b "[D") (U : Arv Z h cc kc .double (0 : Int32) [] (.double 0)) (EU : Exa Z h cc "[D")  :
    Met l Z EL true (⟨"com/example/cohabit/cohabit/FlowBounds", "<init>", "([D[D)V"⟩ : MethodName) prog_10_method_1_code 4 none [] ({ frames := 1, cells := 2, slots := 0, locals := 15 } : Room) #[(.ref a), (.ref b), (.ref cc)] h [a] (fun r h' => r = none ∧ ∃ (d e : Addr), Keep h h' [a] ∧ h.size ≤ d ∧ h.size ≤ e ∧ Exa Z h' a "com/example/cohabit/cohabit/FlowBounds" ∧ Fld Z h' a "com/example/cohabit/cohabit/FlowBounds" "lower" "[D" (.ref d) ∧ Fld Z h' a "com/example/cohabit/cohabit/FlowBounds" "upper" "[D" (.ref e) ∧ Arv Z h' d kb .double (0 : Int32) [] (.double 0) ∧ Arv Z h' e kc .double (0 : Int32) [] (.double 0)) := by
  have hw := G.hw
  refine Met.of (plainFor_of_name pn_426f756e6473_0) G.ew O ?_
  intro p e s m below meth c T0 C0 S0
  refine Endw.eq (g' := mkF m 0 #[.val (.ref a), .val (.ref b), .val (.ref cc), .unset] []) (by first | rfl | (simp [entryFrame, mkF, argsToLocals, own_cI, own_cR, own_cN, own_cJ, own_cD, maxLocals]; done)) ?_
  refine Endw.st (T' := T0) (g' := (mkF m 1 #[.val (.ref a), .val (.ref b), .val (.ref cc), .unset] [(.ref a)])) (fun tt_ kk_ => XS.aloadN C0.here C0.hx rfl (C0.dec d3_0) rfl rfl kk_) ?_
  refine C0.initO (W15 hw) (W16 hw) (W17 hw) rfl d3_1 (pc' := 4) rfl (by decide) (W := 0) (Nat.le_of_ble_eq_true rfl) (by decide) ?_
  intro T1 C1
  show Endw p e below T1 (mkF m 4 #[.val (.ref a), .val (.ref b), .val (.ref cc), .unset] []) _
  refine Endw.st (T' := T1) (g' := (mkF m 5 #[.val (.ref a), .val (.ref b), .val (.ref cc), .unset] [(.ref b)])) (fun tt_ kk_ => XS.aloadN C1.here C1.hx rfl (C1.dec d3_4) rfl rfl kk_) ?_
  refine C1.len V d3_5 (pc' := 6) rfl ?_
  show Endw p e below T1 (mkF m 6 #[.val (.ref a), .val (.ref b), .val (.ref cc), .unset] [(.int (0 : Int32))]) _
  refine Endw.st (T' := T1) (g' := (mkF m 7 #[.val (.ref a), .val (.ref b), .val (.ref cc), .unset] [(.ref cc), (.int (0 : Int32))])) (fun tt_ kk_ => XS.aloadN C1.here C1.hx rfl (C1.dec d3_6) rfl rfl kk_) ?_
  refine C1.len U d3_7 (pc' := 8) rfl ?_
  show Endw p e below T1 (mkF m 8 #[.val (.ref a), .val (.ref b), .val (.ref cc), .unset] [(.int (0 : Int32)), (.int (0 : Int32))]) _
  refine Endw.st (T' := T1) (g' := (mkF m 32 #[.val (.ref a), .val (.ref b), .val (.ref cc), .val (.int (0 : Int32))] [(.ref b), (.int (0 : Int32))])) (fun tt_ kk_ => XS.icmpYes C1.here C1.hx rfl (pc0 := 8) rfl (C1.dec d3_8) rfl (XT.ii_eq_t (by decide)) (by decide) rfl (XS.iconst C1.here C1.hx rfl (C1.dec d3_28) (XS.istoreN C1.here C1.hx rfl (C1.dec d3_29) rfl (l' := #[.val (.ref a), .val (.ref b), .val (.ref cc), .val (.int (0 : Int32))]) rfl (XS.iloadN C1.here C1.hx rfl (C1.dec d3_30) rfl (XS.aloadN C1.here C1.hx rfl (C1.dec d3_31) rfl rfl kk_))))) ?_
  refine C1.len V d3_32 (pc' := 33) rfl ?_
  show Endw p e below T1 (mkF m 33 #[.val (.ref a), .val (.ref b), .val (.ref cc), .val (.int (0 : Int32))] [(.int (0 : Int32)), (.int (0 : Int32))]) _
  refine Endw.st (T' := T1) (g' := (mkF m 90 #[.val (.ref a), .val (.ref b), .val (.ref cc), .val (.int (0 : Int32))] [(.ref b), (.ref a)])) (fun tt_ kk_ => XS.icmpYes C1.here C1.hx rfl (pc0 := 33) rfl (C1.dec d3_33) rfl (XT.ii_ge_t (by decide)) (by decide) rfl (XS.aloadN C1.here C1.hx rfl (C1.dec d3_88) rfl rfl (XS.aloadN C1.here C1.hx rfl (C1.dec d3_89) rfl rfl kk_))) ?_
  refine C1.clone (ad := "[D") (W := 1) (cap := 0) (a := b) (rest := [(.ref a)]) (W19 hw) (W20 hw) (W24 hw) (W22 hw) (W23 hw) (W25 hw) V EV (by decide) (Nat.le_of_ble_eq_true rfl) (by decide) (by decide) (by decide) (by decide) rfl d3_90 (pc' := 93) rfl ?_
  intro T2 h2 a2 C2 K2 A2 ge2 zg2 V2 S2 E2
  show Endw p e below T2 (mkF m 93 #[.val (.ref a), .val (.ref b), .val (.ref cc), .val (.int (0 : Int32))] [(.ref a2), (.ref a)]) _
  refine C2.castY (W26 hw) (Ins.of_exa E2 (W27 hw)) d3_93 (pc' := 96) rfl ?_
  intro T3 C3
  show Endw p e below T3 (mkF m 96 #[.val (.ref a), .val (.ref b), .val (.ref cc), .val (.int (0 : Int32))] [(.ref a2), (.ref a)]) _
  have f4 := (E0.keep K2)
  have f5 := (F0.keep K2 nin0)
  have f7 := (F1.keep K2 nin0)
  have f8 := (A2.safe E0.lt (S0 a (by simp)))
  refine C3.putF (v := (.ref a2)) (W28 hw) f5 f4 (Or.inr ⟨(W29 hw), rfl, rfl⟩) (W10 hw) (ty := (.array .double)) (by decide) rfl rfl za f8 d3_96 (pc' := 99) rfl ?_
  intro T6 h6 C6 K6 A6 Wr6
  have f9 := f5.same Wr6
  have f10 := f7.other Wr6 (Or.inr (slot_ne (Or.inr (W31 hw)) (Or.inr (W29 hw)) (by decide) (t := (.array .double)) (t' := (.array .double)) (by decide) (by decide)))
  show Endw p e below T6 (mkF m 99 #[.val (.ref a), .val (.ref b), .val (.ref cc), .val (.int (0 : Int32))] []) _
  refine Endw.st (T' := T6) (g' := (mkF m 101 #[.val (.ref a), .val (.ref b), .val (.ref cc), .val (.int (0 : Int32))] [(.ref cc), (.ref a)])) (fun tt_ kk_ => XS.aloadN C6.here C6.hx rfl (C6.dec d3_99) rfl rfl (XS.aloadN C6.here C6.hx rfl (C6.dec d3_100) rfl rfl kk_)) ?_
  have f11 := ((U.keep K2 nin0).keep K6 (ninS (RoadKit.Exa.ne EU E0 (by decide)) nin0))
  have f12 := ((EU.keep K2).keep K6)
  refine C6.clone (ad := "[D") (W := 1) (cap := 0) (a := cc) (rest := [(.ref a)]) (W19 hw) (W20 hw) (W24 hw) (W22 hw) (W23 hw) (W25 hw) f11 f12 (by decide) (Nat.le_of_ble_eq_true rfl) (by decide) (by decide) (by decide) (by decide) rfl d3_101 (pc' := 104) rfl ?_
  intro T13 h13 a13 C13 K13 A13 ge13 zg13 V13 S13 E13
  show Endw p e below T13 (mkF m 104 #[.val (.ref a), .val (.ref b), .val (.ref cc), .val (.int (0 : Int32))] [(.ref a13), (.ref a)]) _
  refine C13.castY (W26 hw) (Ins.of_exa E13 (W27 hw)) d3_104 (pc' := 107) rfl ?_
  intro T14 C14
  show Endw p e below T14 (mkF m 107 #[.val (.ref a), .val (.ref b), .val (.ref cc), .val (.int (0 : Int32))] [(.ref a13), (.ref a)]) _
  have f15 := ((f4.keep K6).keep K13)
  have f16 := (f10.keep K13 nin0)
  have f18 := (f9.keep K13 nin0)
  have f19 := (A13.safe (Nat.lt_of_lt_of_le E0.lt (Nat.le_trans K2.1 K6.1)) (A6.safe (Nat.lt_of_lt_of_le E0.lt K2.1) f8))
  refine C14.putF (v := (.ref a13)) (W30 hw) f16 f15 (Or.inr ⟨(W31 hw), rfl, rfl⟩) (W10 hw) (ty := (.array .double)) (by decide) rfl rfl za f19 d3_107 (pc' := 110) rfl ?_
  intro T17 h17 C17 K17 A17 Wr17
  have f20 := f16.same Wr17
  have f21 := f18.other Wr17 (Or.inr (slot_ne (Or.inr (W29 hw)) (Or.inr (W31 hw)) (by decide) (t := (.array .double)) (t' := (.array .double)) (by decide) (by decide)))
  show Endw p e below T17 (mkF m 110 #[.val (.ref a), .val (.ref b), .val (.ref cc), .val (.int (0 : Int32))] []) _
  have f22 := (f15.keep K17)
  have f23 := (((V2.keep K6 (ninS (Ne.symm (Nat.ne_of_lt (Nat.lt_of_lt_of_le E0.lt ge2))) nin0)).keep K13 nin0).keep K17 (ninS (Ne.symm (Nat.ne_of_lt (Nat.lt_of_lt_of_le E0.lt ge2))) nin0))
  have f24 := (V13.keep K17 (ninS (Ne.symm (Nat.ne_of_lt (Nat.lt_of_lt_of_le (Nat.lt_of_lt_of_le E0.lt (Nat.le_trans K2.1 K6.1)) ge13))) nin0))
  exact C17.retV d3_110 (by decide) (by decide) ⟨rfl, a2, a13, (Keep.trans (Keep.trans (Keep.trans (Keep.trans (Keep.refl h [a]) K2 all0) K6 (allS (Or.inl (by simp)) all0)) K13 all0) K17 (allS (Or.inl (by simp)) all0)), ge2, (Nat.le_trans (Nat.le_trans K2.1 K6.1) ge13), f22, f21, f20, f23, f24⟩
set_option maxRecDepth 65536 in
set_option maxHeartbeats 40000000 in
theorem rm_init1 (l : Launch) (Z : State) (a0 : Array Value) (EL : List (String × Nat)) (G : Glob Z a0 EL) (a b cc : Addr) (kb kc : ClassId) (x0 y0 : Int32) (h : Heap) (O : Ext Z.heap h) (E0 : Exa Z h a "com/example/cohabit/cohabit/FlowBounds") (F0 : Fld Z h a "com/example/cohabit/cohabit/FlowBounds" "lower" "[D" .null) (F1 : Fld Z h a "com/example/cohabit/cohabit/FlowBounds" "upper" "[D" .null) (za : Z.heap.size ≤ a) (V : Arv Z h b kb .double (1 : Int32) [(.double (FP.i2d x0))] (.double 0)) (EV : Exa Z h b "[D") (U : Arv Z h cc kc .double (1 : Int32) [(.double (own_up y0))] (.double 0)) (EU : Exa Z h cc "[D") (p0 : Sm x0) (q0 : Sm y0) :
    Met l Z EL true (⟨"com/example/cohabit/cohabit/FlowBounds", "<init>", "([D[D)V"⟩ : MethodName) prog_10_method_1_code 4 none [] ({ frames := 1, cells := 2, slots := 2, locals := 15 } : Room) #[(.ref a), (.ref b), (.ref cc)] h [a] (fun r h' => r = none ∧ ∃ (d e : Addr), Keep h h' [a] ∧ h.size ≤ d ∧ h.size ≤ e ∧ Exa Z h' a "com/example/cohabit/cohabit/FlowBounds" ∧ Fld Z h' a "com/example/cohabit/cohabit/FlowBounds" "lower" "[D" (.ref d) ∧ Fld Z h' a "com/example/cohabit/cohabit/FlowBounds" "upper" "[D" (.ref e) ∧ Arv Z h' d kb .double (1 : Int32) [(.double (FP.i2d x0))] (.double 0) ∧ Arv Z h' e kc .double (1 : Int32) [(.double (own_up y0))] (.double 0)) := by
  have hw := G.hw
  refine Met.of (plainFor_of_name pn_426f756e6473_0) G.ew O ?_
  intro p e s m below meth c T0 C0 S0
  refine Endw.eq (g' := mkF m 0 #[.val (.ref a), .val (.ref b), .val (.ref cc), .unset] []) (by first | rfl | (simp [entryFrame, mkF, argsToLocals, own_cI, own_cR, own_cN, own_cJ, own_cD, maxLocals]; done)) ?_
  refine Endw.st (T' := T0) (g' := (mkF m 1 #[.val (.ref a), .val (.ref b), .val (.ref cc), .unset] [(.ref a)])) (fun tt_ kk_ => XS.aloadN C0.here C0.hx rfl (C0.dec d3_0) rfl rfl kk_) ?_
  refine C0.initO (W15 hw) (W16 hw) (W17 hw) rfl d3_1 (pc' := 4) rfl (by decide) (W := 0) (Nat.le_of_ble_eq_true rfl) (by decide) ?_
  intro T1 C1
  show Endw p e below T1 (mkF m 4 #[.val (.ref a), .val (.ref b), .val (.ref cc), .unset] []) _
  refine Endw.st (T' := T1) (g' := (mkF m 5 #[.val (.ref a), .val (.ref b), .val (.ref cc), .unset] [(.ref b)])) (fun tt_ kk_ => XS.aloadN C1.here C1.hx rfl (C1.dec d3_4) rfl rfl kk_) ?_
  refine C1.len V d3_5 (pc' := 6) rfl ?_
  show Endw p e below T1 (mkF m 6 #[.val (.ref a), .val (.ref b), .val (.ref cc), .unset] [(.int (1 : Int32))]) _
  refine Endw.st (T' := T1) (g' := (mkF m 7 #[.val (.ref a), .val (.ref b), .val (.ref cc), .unset] [(.ref cc), (.int (1 : Int32))])) (fun tt_ kk_ => XS.aloadN C1.here C1.hx rfl (C1.dec d3_6) rfl rfl kk_) ?_
  refine C1.len U d3_7 (pc' := 8) rfl ?_
  show Endw p e below T1 (mkF m 8 #[.val (.ref a), .val (.ref b), .val (.ref cc), .unset] [(.int (1 : Int32)), (.int (1 : Int32))]) _
  refine Endw.st (T' := T1) (g' := (mkF m 32 #[.val (.ref a), .val (.ref b), .val (.ref cc), .val (.int (0 : Int32))] [(.ref b), (.int (0 : Int32))])) (fun tt_ kk_ => XS.icmpYes C1.here C1.hx rfl (pc0 := 8) rfl (C1.dec d3_8) rfl (XT.ii_eq_t (by decide)) (by decide) rfl (XS.iconst C1.here C1.hx rfl (C1.dec d3_28) (XS.istoreN C1.here C1.hx rfl (C1.dec d3_29) rfl (l' := #[.val (.ref a), .val (.ref b), .val (.ref cc), .val (.int (0 : Int32))]) rfl (XS.iloadN C1.here C1.hx rfl (C1.dec d3_30) rfl (XS.aloadN C1.here C1.hx rfl (C1.dec d3_31) rfl rfl kk_))))) ?_
  refine C1.len V d3_32 (pc' := 33) rfl ?_
  show Endw p e below T1 (mkF m 33 #[.val (.ref a), .val (.ref b), .val (.ref cc), .val (.int (0 : Int32))] [(.int (1 : Int32)), (.int (0 : Int32))]) _
  refine Endw.st (T' := T1) (g' := (mkF m 38 #[.val (.ref a), .val (.ref b), .val (.ref cc), .val (.int (0 : Int32))] [(.int (0 : Int32)), (.ref b)])) (fun tt_ kk_ => XS.icmpNo C1.here C1.hx rfl (C1.dec d3_33) rfl (XT.ii_ge_f (by decide)) (XS.aloadN C1.here C1.hx rfl (C1.dec d3_36) rfl rfl (XS.iloadN C1.here C1.hx rfl (C1.dec d3_37) rfl kk_))) ?_
  refine C1.daload V ⟨by decide, by decide⟩ (v := (.double (FP.i2d x0))) rfl d3_38 (pc' := 39) rfl ?_
  show Endw p e below T1 (mkF m 39 #[.val (.ref a), .val (.ref b), .val (.ref cc), .val (.int (0 : Int32))] [(.double (FP.i2d x0))]) _
  refine Endw.st (T' := T1) (g' := (mkF m 46 #[.val (.ref a), .val (.ref b), .val (.ref cc), .val (.int (0 : Int32))] [(.int (0 : Int32)), (.ref b)])) (fun tt_ kk_ => XS.dconst0 C1.here C1.hx rfl (C1.dec d3_39) rfl (XS.dcmpS C1.here C1.hx rfl (C1.dec d3_40) rfl rfl (XS.ifNo C1.here C1.hx rfl (C1.dec d3_41) rfl (XT.i0_lt_f (own_ge0 p0)) (XS.aloadN C1.here C1.hx rfl (C1.dec d3_44) rfl rfl (XS.iloadN C1.here C1.hx rfl (C1.dec d3_45) rfl kk_))))) ?_
  refine C1.daload V ⟨by decide, by decide⟩ (v := (.double (FP.i2d x0))) rfl d3_46 (pc' := 47) rfl ?_
  show Endw p e below T1 (mkF m 47 #[.val (.ref a), .val (.ref b), .val (.ref cc), .val (.int (0 : Int32))] [(.double (FP.i2d x0))]) _
  refine Endw.st (T' := T1) (g' := (mkF m 56 #[.val (.ref a), .val (.ref b), .val (.ref cc), .val (.int (0 : Int32))] [(.int (0 : Int32)), (.ref cc)])) (fun tt_ kk_ => own_ldc2D C1 (W18 hw) rfl d3_47 (XS.dcmpS C1.here C1.hx rfl (C1.dec d3_50) rfl (own_ltP _) (XS.ifNo C1.here C1.hx rfl (C1.dec d3_51) rfl (XT.i0_ge_f (by decide)) (XS.aloadN C1.here C1.hx rfl (C1.dec d3_54) rfl rfl (XS.iloadN C1.here C1.hx rfl (C1.dec d3_55) rfl kk_))))) ?_
  refine C1.daload U ⟨by decide, by decide⟩ (v := (.double (own_up y0))) rfl d3_56 (pc' := 57) rfl ?_
  show Endw p e below T1 (mkF m 57 #[.val (.ref a), .val (.ref b), .val (.ref cc), .val (.int (0 : Int32))] [(.double (own_up y0))]) _
  refine Endw.st (T' := T1) (g' := (mkF m 32 #[.val (.ref a), .val (.ref b), .val (.ref cc), .val (.int (1 : Int32))] [(.ref b), (.int (1 : Int32))])) (fun tt_ kk_ => XS.dconst0 C1.here C1.hx rfl (C1.dec d3_57) rfl (XS.dcmpS C1.here C1.hx rfl (C1.dec d3_58) rfl rfl (XS.ifYes C1.here C1.hx rfl (pc0 := 59) rfl (C1.dec d3_59) rfl (XT.i0_ge_t (own_geUp q0)) (by decide) rfl (XS.iinc C1.here C1.hx rfl (C1.dec d3_82) rfl (l' := #[.val (.ref a), .val (.ref b), .val (.ref cc), .val (.int (1 : Int32))]) rfl (XS.goto C1.here C1.hx rfl (pc0 := 85) rfl (C1.dec d3_85) (by decide) rfl (XS.iloadN C1.here C1.hx rfl (C1.dec d3_30) rfl (XS.aloadN C1.here C1.hx rfl (C1.dec d3_31) rfl rfl kk_))))))) ?_
  refine C1.len V d3_32 (pc' := 33) rfl ?_
  show Endw p e below T1 (mkF m 33 #[.val (.ref a), .val (.ref b), .val (.ref cc), .val (.int (1 : Int32))] [(.int (1 : Int32)), (.int (1 : Int32))]) _
  refine Endw.st (T' := T1) (g' := (mkF m 90 #[.val (.ref a), .val (.ref b), .val (.ref cc), .val (.int (1 : Int32))] [(.ref b), (.ref a)])) (fun tt_ kk_ => XS.icmpYes C1.here C1.hx rfl (pc0 := 33) rfl (C1.dec d3_33) rfl (XT.ii_ge_t (by decide)) (by decide) rfl (XS.aloadN C1.here C1.hx rfl (C1.dec d3_88) rfl rfl (XS.aloadN C1.here C1.hx rfl (C1.dec d3_89) rfl rfl kk_))) ?_
  refine C1.clone (ad := "[D") (W := 1) (cap := 1) (a := b) (rest := [(.ref a)]) (W19 hw) (W20 hw) (W24 hw) (W22 hw) (W23 hw) (W25 hw) V EV (by decide) (Nat.le_of_ble_eq_true rfl) (by decide) (by decide) (by decide) (by decide) rfl d3_90 (pc' := 93) rfl ?_
  intro T2 h2 a2 C2 K2 A2 ge2 zg2 V2 S2 E2
  show Endw p e below T2 (mkF m 93 #[.val (.ref a), .val (.ref b), .val (.ref cc), .val (.int (1 : Int32))] [(.ref a2), (.ref a)]) _
  refine C2.castY (W26 hw) (Ins.of_exa E2 (W27 hw)) d3_93 (pc' := 96) rfl ?_
  intro T3 C3
  show Endw p e below T3 (mkF m 96 #[.val (.ref a), .val (.ref b), .val (.ref cc), .val (.int (1 : Int32))] [(.ref a2), (.ref a)]) _
  have f4 := (E0.keep K2)
  have f5 := (F0.keep K2 nin0)
  have f7 := (F1.keep K2 nin0)
  have f8 := (A2.safe E0.lt (S0 a (by simp)))
  refine C3.putF (v := (.ref a2)) (W28 hw) f5 f4 (Or.inr ⟨(W29 hw), rfl, rfl⟩) (W10 hw) (ty := (.array .double)) (by decide) rfl rfl za f8 d3_96 (pc' := 99) rfl ?_
  intro T6 h6 C6 K6 A6 Wr6
  have f9 := f5.same Wr6
  have f10 := f7.other Wr6 (Or.inr (slot_ne (Or.inr (W31 hw)) (Or.inr (W29 hw)) (by decide) (t := (.array .double)) (t' := (.array .double)) (by decide) (by decide)))
  show Endw p e below T6 (mkF m 99 #[.val (.ref a), .val (.ref b), .val (.ref cc), .val (.int (1 : Int32))] []) _
  refine Endw.st (T' := T6) (g' := (mkF m 101 #[.val (.ref a), .val (.ref b), .val (.ref cc), .val (.int (1 : Int32))] [(.ref cc), (.ref a)])) (fun tt_ kk_ => XS.aloadN C6.here C6.hx rfl (C6.dec d3_99) rfl rfl (XS.aloadN C6.here C6.hx rfl (C6.dec d3_100) rfl rfl kk_)) ?_
  have f11 := ((U.keep K2 nin0).keep K6 (ninS (RoadKit.Exa.ne EU E0 (by decide)) nin0))
  have f12 := ((EU.keep K2).keep K6)
  refine C6.clone (ad := "[D") (W := 1) (cap := 1) (a := cc) (rest := [(.ref a)]) (W19 hw) (W20 hw) (W24 hw) (W22 hw) (W23 hw) (W25 hw) f11 f12 (by decide) (Nat.le_of_ble_eq_true rfl) (by decide) (by decide) (by decide) (by decide) rfl d3_101 (pc' := 104) rfl ?_
  intro T13 h13 a13 C13 K13 A13 ge13 zg13 V13 S13 E13
  show Endw p e below T13 (mkF m 104 #[.val (.ref a), .val (.ref b), .val (.ref cc), .val (.int (1 : Int32))] [(.ref a13), (.ref a)]) _
  refine C13.castY (W26 hw) (Ins.of_exa E13 (W27 hw)) d3_104 (pc' := 107) rfl ?_
  intro T14 C14
  show Endw p e below T14 (mkF m 107 #[.val (.ref a), .val (.ref b), .val (.ref cc), .val (.int (1 : Int32))] [(.ref a13), (.ref a)]) _
  have f15 := ((f4.keep K6).keep K13)
  have f16 := (f10.keep K13 nin0)
  have f18 := (f9.keep K13 nin0)
  have f19 := (A13.safe (Nat.lt_of_lt_of_le E0.lt (Nat.le_trans K2.1 K6.1)) (A6.safe (Nat.lt_of_lt_of_le E0.lt K2.1) f8))
  refine C14.putF (v := (.ref a13)) (W30 hw) f16 f15 (Or.inr ⟨(W31 hw), rfl, rfl⟩) (W10 hw) (ty := (.array .double)) (by decide) rfl rfl za f19 d3_107 (pc' := 110) rfl ?_
  intro T17 h17 C17 K17 A17 Wr17
  have f20 := f16.same Wr17
  have f21 := f18.other Wr17 (Or.inr (slot_ne (Or.inr (W29 hw)) (Or.inr (W31 hw)) (by decide) (t := (.array .double)) (t' := (.array .double)) (by decide) (by decide)))
  show Endw p e below T17 (mkF m 110 #[.val (.ref a), .val (.ref b), .val (.ref cc), .val (.int (1 : Int32))] []) _
  have f22 := (f15.keep K17)
  have f23 := (((V2.keep K6 (ninS (Ne.symm (Nat.ne_of_lt (Nat.lt_of_lt_of_le E0.lt ge2))) nin0)).keep K13 nin0).keep K17 (ninS (Ne.symm (Nat.ne_of_lt (Nat.lt_of_lt_of_le E0.lt ge2))) nin0))
  have f24 := (V13.keep K17 (ninS (Ne.symm (Nat.ne_of_lt (Nat.lt_of_lt_of_le (Nat.lt_of_lt_of_le E0.lt (Nat.le_trans K2.1 K6.1)) ge13))) nin0))
  exact C17.retV d3_110 (by decide) (by decide) ⟨rfl, a2, a13, (Keep.trans (Keep.trans (Keep.trans (Keep.trans (Keep.refl h [a]) K2 all0) K6 (allS (Or.inl (by simp)) all0)) K13 all0) K17 (allS (Or.inl (by simp)) all0)), ge2, (Nat.le_trans (Nat.le_trans K2.1 K6.1) ge13), f22, f21, f20, f23, f24⟩
set_option maxRecDepth 65536 in
set_option maxHeartbeats 40000000 in
theorem rm_init2 (l : Launch) (Z : State) (a0 : Array Value) (EL : List (String × Nat)) (G : Glob Z a0 EL) (a b cc : Addr) (kb kc : ClassId) (x0 y0 : Int32) (x1 y1 : Int32) (h : Heap) (O : Ext Z.heap h) (E0 : Exa Z h a "com/example/cohabit/cohabit/FlowBounds") (F0 : Fld Z h a "com/example/cohabit/cohabit/FlowBounds" "lower" "[D" .null) (F1 : Fld Z h a "com/example/cohabit/cohabit/FlowBounds" "upper" "[D" .null) (za : Z.heap.size ≤ a) (V : Arv Z h b kb .double (2 : Int32) [(.double (FP.i2d x0)), (.double (FP.i2d x1))] (.double 0)) (EV : Exa Z h b "[D") (U : Arv Z h cc kc .double (2 : Int32) [(.double (own_up y0)), (.double (own_up y1))] (.double 0)) (EU : Exa Z h cc "[D") (p0 : Sm x0) (q0 : Sm y0) (p1 : Sm x1) (q1 : Sm y1) :
    Met l Z EL true (⟨"com/example/cohabit/cohabit/FlowBounds", "<init>", "([D[D)V"⟩ : MethodName) prog_10_method_1_code 4 none [] ({ frames := 1, cells := 2, slots := 4, locals := 15 } : Room) #[(.ref a), (.ref b), (.ref cc)] h [a] (fun r h' => r = none ∧ ∃ (d e : Addr), Keep h h' [a] ∧ h.size ≤ d ∧ h.size ≤ e ∧ Exa Z h' a "com/example/cohabit/cohabit/FlowBounds" ∧ Fld Z h' a "com/example/cohabit/cohabit/FlowBounds" "lower" "[D" (.ref d) ∧ Fld Z h' a "com/example/cohabit/cohabit/FlowBounds" "upper" "[D" (.ref e) ∧ Arv Z h' d kb .double (2 : Int32) [(.double (FP.i2d x0)), (.double (FP.i2d x1))] (.double 0) ∧ Arv Z h' e kc .double (2 : Int32) [(.double (own_up y0)), (.double (own_up y1))] (.double 0)) := by
  have hw := G.hw
  refine Met.of (plainFor_of_name pn_426f756e6473_0) G.ew O ?_
  intro p e s m below meth c T0 C0 S0
  refine Endw.eq (g' := mkF m 0 #[.val (.ref a), .val (.ref b), .val (.ref cc), .unset] []) (by first | rfl | (simp [entryFrame, mkF, argsToLocals, own_cI, own_cR, own_cN, own_cJ, own_cD, maxLocals]; done)) ?_
  refine Endw.st (T' := T0) (g' := (mkF m 1 #[.val (.ref a), .val (.ref b), .val (.ref cc), .unset] [(.ref a)])) (fun tt_ kk_ => XS.aloadN C0.here C0.hx rfl (C0.dec d3_0) rfl rfl kk_) ?_
  refine C0.initO (W15 hw) (W16 hw) (W17 hw) rfl d3_1 (pc' := 4) rfl (by decide) (W := 0) (Nat.le_of_ble_eq_true rfl) (by decide) ?_
  intro T1 C1
  show Endw p e below T1 (mkF m 4 #[.val (.ref a), .val (.ref b), .val (.ref cc), .unset] []) _
  refine Endw.st (T' := T1) (g' := (mkF m 5 #[.val (.ref a), .val (.ref b), .val (.ref cc), .unset] [(.ref b)])) (fun tt_ kk_ => XS.aloadN C1.here C1.hx rfl (C1.dec d3_4) rfl rfl kk_) ?_
  refine C1.len V d3_5 (pc' := 6) rfl ?_
  show Endw p e below T1 (mkF m 6 #[.val (.ref a), .val (.ref b), .val (.ref cc), .unset] [(.int (2 : Int32))]) _
  refine Endw.st (T' := T1) (g' := (mkF m 7 #[.val (.ref a), .val (.ref b), .val (.ref cc), .unset] [(.ref cc), (.int (2 : Int32))])) (fun tt_ kk_ => XS.aloadN C1.here C1.hx rfl (C1.dec d3_6) rfl rfl kk_) ?_
  refine C1.len U d3_7 (pc' := 8) rfl ?_
  show Endw p e below T1 (mkF m 8 #[.val (.ref a), .val (.ref b), .val (.ref cc), .unset] [(.int (2 : Int32)), (.int (2 : Int32))]) _
  refine Endw.st (T' := T1) (g' := (mkF m 32 #[.val (.ref a), .val (.ref b), .val (.ref cc), .val (.int (0 : Int32))] [(.ref b), (.int (0 : Int32))])) (fun tt_ kk_ => XS.icmpYes C1.here C1.hx rfl (pc0 := 8) rfl (C1.dec d3_8) rfl (XT.ii_eq_t (by decide)) (by decide) rfl (XS.iconst C1.here C1.hx rfl (C1.dec d3_28) (XS.istoreN C1.here C1.hx rfl (C1.dec d3_29) rfl (l' := #[.val (.ref a), .val (.ref b), .val (.ref cc), .val (.int (0 : Int32))]) rfl (XS.iloadN C1.here C1.hx rfl (C1.dec d3_30) rfl (XS.aloadN C1.here C1.hx rfl (C1.dec d3_31) rfl rfl kk_))))) ?_
  refine C1.len V d3_32 (pc' := 33) rfl ?_
  show Endw p e below T1 (mkF m 33 #[.val (.ref a), .val (.ref b), .val (.ref cc), .val (.int (0 : Int32))] [(.int (2 : Int32)), (.int (0 : Int32))]) _
  refine Endw.st (T' := T1) (g' := (mkF m 38 #[.val (.ref a), .val (.ref b), .val (.ref cc), .val (.int (0 : Int32))] [(.int (0 : Int32)), (.ref b)])) (fun tt_ kk_ => XS.icmpNo C1.here C1.hx rfl (C1.dec d3_33) rfl (XT.ii_ge_f (by decide)) (XS.aloadN C1.here C1.hx rfl (C1.dec d3_36) rfl rfl (XS.iloadN C1.here C1.hx rfl (C1.dec d3_37) rfl kk_))) ?_
  refine C1.daload V ⟨by decide, by decide⟩ (v := (.double (FP.i2d x0))) rfl d3_38 (pc' := 39) rfl ?_
  show Endw p e below T1 (mkF m 39 #[.val (.ref a), .val (.ref b), .val (.ref cc), .val (.int (0 : Int32))] [(.double (FP.i2d x0))]) _
  refine Endw.st (T' := T1) (g' := (mkF m 46 #[.val (.ref a), .val (.ref b), .val (.ref cc), .val (.int (0 : Int32))] [(.int (0 : Int32)), (.ref b)])) (fun tt_ kk_ => XS.dconst0 C1.here C1.hx rfl (C1.dec d3_39) rfl (XS.dcmpS C1.here C1.hx rfl (C1.dec d3_40) rfl rfl (XS.ifNo C1.here C1.hx rfl (C1.dec d3_41) rfl (XT.i0_lt_f (own_ge0 p0)) (XS.aloadN C1.here C1.hx rfl (C1.dec d3_44) rfl rfl (XS.iloadN C1.here C1.hx rfl (C1.dec d3_45) rfl kk_))))) ?_
  refine C1.daload V ⟨by decide, by decide⟩ (v := (.double (FP.i2d x0))) rfl d3_46 (pc' := 47) rfl ?_
  show Endw p e below T1 (mkF m 47 #[.val (.ref a), .val (.ref b), .val (.ref cc), .val (.int (0 : Int32))] [(.double (FP.i2d x0))]) _
  refine Endw.st (T' := T1) (g' := (mkF m 56 #[.val (.ref a), .val (.ref b), .val (.ref cc), .val (.int (0 : Int32))] [(.int (0 : Int32)), (.ref cc)])) (fun tt_ kk_ => own_ldc2D C1 (W18 hw) rfl d3_47 (XS.dcmpS C1.here C1.hx rfl (C1.dec d3_50) rfl (own_ltP _) (XS.ifNo C1.here C1.hx rfl (C1.dec d3_51) rfl (XT.i0_ge_f (by decide)) (XS.aloadN C1.here C1.hx rfl (C1.dec d3_54) rfl rfl (XS.iloadN C1.here C1.hx rfl (C1.dec d3_55) rfl kk_))))) ?_
  refine C1.daload U ⟨by decide, by decide⟩ (v := (.double (own_up y0))) rfl d3_56 (pc' := 57) rfl ?_
  show Endw p e below T1 (mkF m 57 #[.val (.ref a), .val (.ref b), .val (.ref cc), .val (.int (0 : Int32))] [(.double (own_up y0))]) _
  refine Endw.st (T' := T1) (g' := (mkF m 32 #[.val (.ref a), .val (.ref b), .val (.ref cc), .val (.int (1 : Int32))] [(.ref b), (.int (1 : Int32))])) (fun tt_ kk_ => XS.dconst0 C1.here C1.hx rfl (C1.dec d3_57) rfl (XS.dcmpS C1.here C1.hx rfl (C1.dec d3_58) rfl rfl (XS.ifYes C1.here C1.hx rfl (pc0 := 59) rfl (C1.dec d3_59) rfl (XT.i0_ge_t (own_geUp q0)) (by decide) rfl (XS.iinc C1.here C1.hx rfl (C1.dec d3_82) rfl (l' := #[.val (.ref a), .val (.ref b), .val (.ref cc), .val (.int (1 : Int32))]) rfl (XS.goto C1.here C1.hx rfl (pc0 := 85) rfl (C1.dec d3_85) (by decide) rfl (XS.iloadN C1.here C1.hx rfl (C1.dec d3_30) rfl (XS.aloadN C1.here C1.hx rfl (C1.dec d3_31) rfl rfl kk_))))))) ?_
  refine C1.len V d3_32 (pc' := 33) rfl ?_
  show Endw p e below T1 (mkF m 33 #[.val (.ref a), .val (.ref b), .val (.ref cc), .val (.int (1 : Int32))] [(.int (2 : Int32)), (.int (1 : Int32))]) _
  refine Endw.st (T' := T1) (g' := (mkF m 38 #[.val (.ref a), .val (.ref b), .val (.ref cc), .val (.int (1 : Int32))] [(.int (1 : Int32)), (.ref b)])) (fun tt_ kk_ => XS.icmpNo C1.here C1.hx rfl (C1.dec d3_33) rfl (XT.ii_ge_f (by decide)) (XS.aloadN C1.here C1.hx rfl (C1.dec d3_36) rfl rfl (XS.iloadN C1.here C1.hx rfl (C1.dec d3_37) rfl kk_))) ?_
  refine C1.daload V ⟨by decide, by decide⟩ (v := (.double (FP.i2d x1))) rfl d3_38 (pc' := 39) rfl ?_
  show Endw p e below T1 (mkF m 39 #[.val (.ref a), .val (.ref b), .val (.ref cc), .val (.int (1 : Int32))] [(.double (FP.i2d x1))]) _
  refine Endw.st (T' := T1) (g' := (mkF m 46 #[.val (.ref a), .val (.ref b), .val (.ref cc), .val (.int (1 : Int32))] [(.int (1 : Int32)), (.ref b)])) (fun tt_ kk_ => XS.dconst0 C1.here C1.hx rfl (C1.dec d3_39) rfl (XS.dcmpS C1.here C1.hx rfl (C1.dec d3_40) rfl rfl (XS.ifNo C1.here C1.hx rfl (C1.dec d3_41) rfl (XT.i0_lt_f (own_ge0 p1)) (XS.aloadN C1.here C1.hx rfl (C1.dec d3_44) rfl rfl (XS.iloadN C1.here C1.hx rfl (C1.dec d3_45) rfl kk_))))) ?_
  refine C1.daload V ⟨by decide, by decide⟩ (v := (.double (FP.i2d x1))) rfl d3_46 (pc' := 47) rfl ?_
  show Endw p e below T1 (mkF m 47 #[.val (.ref a), .val (.ref b), .val (.ref cc), .val (.int (1 : Int32))] [(.double (FP.i2d x1))]) _
  refine Endw.st (T' := T1) (g' := (mkF m 56 #[.val (.ref a), .val (.ref b), .val (.ref cc), .val (.int (1 : Int32))] [(.int (1 : Int32)), (.ref cc)])) (fun tt_ kk_ => own_ldc2D C1 (W18 hw) rfl d3_47 (XS.dcmpS C1.here C1.hx rfl (C1.dec d3_50) rfl (own_ltP _) (XS.ifNo C1.here C1.hx rfl (C1.dec d3_51) rfl (XT.i0_ge_f (by decide)) (XS.aloadN C1.here C1.hx rfl (C1.dec d3_54) rfl rfl (XS.iloadN C1.here C1.hx rfl (C1.dec d3_55) rfl kk_))))) ?_
  refine C1.daload U ⟨by decide, by decide⟩ (v := (.double (own_up y1))) rfl d3_56 (pc' := 57) rfl ?_
  show Endw p e below T1 (mkF m 57 #[.val (.ref a), .val (.ref b), .val (.ref cc), .val (.int (1 : Int32))] [(.double (own_up y1))]) _
  refine Endw.st (T' := T1) (g' := (mkF m 32 #[.val (.ref a), .val (.ref b), .val (.ref cc), .val (.int (2 : Int32))] [(.ref b), (.int (2 : Int32))])) (fun tt_ kk_ => XS.dconst0 C1.here C1.hx rfl (C1.dec d3_57) rfl (XS.dcmpS C1.here C1.hx rfl (C1.dec d3_58) rfl rfl (XS.ifYes C1.here C1.hx rfl (pc0 := 59) rfl (C1.dec d3_59) rfl (XT.i0_ge_t (own_geUp q1)) (by decide) rfl (XS.iinc C1.here C1.hx rfl (C1.dec d3_82) rfl (l' := #[.val (.ref a), .val (.ref b), .val (.ref cc), .val (.int (2 : Int32))]) rfl (XS.goto C1.here C1.hx rfl (pc0 := 85) rfl (C1.dec d3_85) (by decide) rfl (XS.iloadN C1.here C1.hx rfl (C1.dec d3_30) rfl (XS.aloadN C1.here C1.hx rfl (C1.dec d3_31) rfl rfl kk_))))))) ?_
  refine C1.len V d3_32 (pc' := 33) rfl ?_
  show Endw p e below T1 (mkF m 33 #[.val (.ref a), .val (.ref b), .val (.ref cc), .val (.int (2 : Int32))] [(.int (2 : Int32)), (.int (2 : Int32))]) _
  refine Endw.st (T' := T1) (g' := (mkF m 90 #[.val (.ref a), .val (.ref b), .val (.ref cc), .val (.int (2 : Int32))] [(.ref b), (.ref a)])) (fun tt_ kk_ => XS.icmpYes C1.here C1.hx rfl (pc0 := 33) rfl (C1.dec d3_33) rfl (XT.ii_ge_t (by decide)) (by decide) rfl (XS.aloadN C1.here C1.hx rfl (C1.dec d3_88) rfl rfl (XS.aloadN C1.here C1.hx rfl (C1.dec d3_89) rfl rfl kk_))) ?_
  refine C1.clone (ad := "[D") (W := 1) (cap := 2) (a := b) (rest := [(.ref a)]) (W19 hw) (W20 hw) (W24 hw) (W22 hw) (W23 hw) (W25 hw) V EV (by decide) (Nat.le_of_ble_eq_true rfl) (by decide) (by decide) (by decide) (by decide) rfl d3_90 (pc' := 93) rfl ?_
  intro T2 h2 a2 C2 K2 A2 ge2 zg2 V2 S2 E2
  show Endw p e below T2 (mkF m 93 #[.val (.ref a), .val (.ref b), .val (.ref cc), .val (.int (2 : Int32))] [(.ref a2), (.ref a)]) _
  refine C2.castY (W26 hw) (Ins.of_exa E2 (W27 hw)) d3_93 (pc' := 96) rfl ?_
  intro T3 C3
  show Endw p e below T3 (mkF m 96 #[.val (.ref a), .val (.ref b), .val (.ref cc), .val (.int (2 : Int32))] [(.ref a2), (.ref a)]) _
  have f4 := (E0.keep K2)
  have f5 := (F0.keep K2 nin0)
  have f7 := (F1.keep K2 nin0)
  have f8 := (A2.safe E0.lt (S0 a (by simp)))
  refine C3.putF (v := (.ref a2)) (W28 hw) f5 f4 (Or.inr ⟨(W29 hw), rfl, rfl⟩) (W10 hw) (ty := (.array .double)) (by decide) rfl rfl za f8 d3_96 (pc' := 99) rfl ?_
  intro T6 h6 C6 K6 A6 Wr6
  have f9 := f5.same Wr6
  have f10 := f7.other Wr6 (Or.inr (slot_ne (Or.inr (W31 hw)) (Or.inr (W29 hw)) (by decide) (t := (.array .double)) (t' := (.array .double)) (by decide) (by decide)))
  show Endw p e below T6 (mkF m 99 #[.val (.ref a), .val (.ref b), .val (.ref cc), .val (.int (2 : Int32))] []) _
  refine Endw.st (T' := T6) (g' := (mkF m 101 #[.val (.ref a), .val (.ref b), .val (.ref cc), .val (.int (2 : Int32))] [(.ref cc), (.ref a)])) (fun tt_ kk_ => XS.aloadN C6.here C6.hx rfl (C6.dec d3_99) rfl rfl (XS.aloadN C6.here C6.hx rfl (C6.dec d3_100) rfl rfl kk_)) ?_
  have f11 := ((U.keep K2 nin0).keep K6 (ninS (RoadKit.Exa.ne EU E0 (by decide)) nin0))
  have f12 := ((EU.keep K2).keep K6)
  refine C6.clone (ad := "[D") (W := 1) (cap := 2) (a := cc) (rest := [(.ref a)]) (W19 hw) (W20 hw) (W24 hw) (W22 hw) (W23 hw) (W25 hw) f11 f12 (by decide) (Nat.le_of_ble_eq_true rfl) (by decide) (by decide) (by decide) (by decide) rfl d3_101 (pc' := 104) rfl ?_
  intro T13 h13 a13 C13 K13 A13 ge13 zg13 V13 S13 E13
  show Endw p e below T13 (mkF m 104 #[.val (.ref a), .val (.ref b), .val (.ref cc), .val (.int (2 : Int32))] [(.ref a13), (.ref a)]) _
  refine C13.castY (W26 hw) (Ins.of_exa E13 (W27 hw)) d3_104 (pc' := 107) rfl ?_
  intro T14 C14
  show Endw p e below T14 (mkF m 107 #[.val (.ref a), .val (.ref b), .val (.ref cc), .val (.int (2 : Int32))] [(.ref a13), (.ref a)]) _
  have f15 := ((f4.keep K6).keep K13)
  have f16 := (f10.keep K13 nin0)
  have f18 := (f9.keep K13 nin0)
  have f19 := (A13.safe (Nat.lt_of_lt_of_le E0.lt (Nat.le_trans K2.1 K6.1)) (A6.safe (Nat.lt_of_lt_of_le E0.lt K2.1) f8))
  refine C14.putF (v := (.ref a13)) (W30 hw) f16 f15 (Or.inr ⟨(W31 hw), rfl, rfl⟩) (W10 hw) (ty := (.array .double)) (by decide) rfl rfl za f19 d3_107 (pc' := 110) rfl ?_
  intro T17 h17 C17 K17 A17 Wr17
  have f20 := f16.same Wr17
  have f21 := f18.other Wr17 (Or.inr (slot_ne (Or.inr (W29 hw)) (Or.inr (W31 hw)) (by decide) (t := (.array .double)) (t' := (.array .double)) (by decide) (by decide)))
  show Endw p e below T17 (mkF m 110 #[.val (.ref a), .val (.ref b), .val (.ref cc), .val (.int (2 : Int32))] []) _
  have f22 := (f15.keep K17)
  have f23 := (((V2.keep K6 (ninS (Ne.symm (Nat.ne_of_lt (Nat.lt_of_lt_of_le E0.lt ge2))) nin0)).keep K13 nin0).keep K17 (ninS (Ne.symm (Nat.ne_of_lt (Nat.lt_of_lt_of_le E0.lt ge2))) nin0))
  have f24 := (V13.keep K17 (ninS (Ne.symm (Nat.ne_of_lt (Nat.lt_of_lt_of_le (Nat.lt_of_lt_of_le E0.lt (Nat.le_trans K2.1 K6.1)) ge13))) nin0))
  exact C17.retV d3_110 (by decide) (by decide) ⟨rfl, a2, a13, (Keep.trans (Keep.trans (Keep.trans (Keep.trans (Keep.refl h [a]) K2 all0) K6 (allS (Or.inl (by simp)) all0)) K13 all0) K17 (allS (Or.inl (by simp)) all0)), ge2, (Nat.le_trans (Nat.le_trans K2.1 K6.1) ge13), f22, f21, f20, f23, f24⟩
set_option maxRecDepth 65536 in
set_option maxHeartbeats 40000000 in
theorem rm_init3 (l : Launch) (Z : State) (a0 : Array Value) (EL : List (String × Nat)) (G : Glob Z a0 EL) (a b cc : Addr) (kb kc : ClassId) (x0 y0 : Int32) (x1 y1 : Int32) (x2 y2 : Int32) (h : Heap) (O : Ext Z.heap h) (E0 : Exa Z h a "com/example/cohabit/cohabit/FlowBounds") (F0 : Fld Z h a "com/example/cohabit/cohabit/FlowBounds" "lower" "[D" .null) (F1 : Fld Z h a "com/example/cohabit/cohabit/FlowBounds" "upper" "[D" .null) (za : Z.heap.size ≤ a) (V : Arv Z h b kb .double (3 : Int32) [(.double (FP.i2d x0)), (.double (FP.i2d x1)), (.double (FP.i2d x2))] (.double 0)) (EV : Exa Z h b "[D") (U : Arv Z h cc kc .double (3 : Int32) [(.double (own_up y0)), (.double (own_up y1)), (.double (own_up y2))] (.double 0)) (EU : Exa Z h cc "[D") (p0 : Sm x0) (q0 : Sm y0) (p1 : Sm x1) (q1 : Sm y1) (p2 : Sm x2) (q2 : Sm y2) :
    Met l Z EL true (⟨"com/example/cohabit/cohabit/FlowBounds", "<init>", "([D[D)V"⟩ : MethodName) prog_10_method_1_code 4 none [] ({ frames := 1, cells := 2, slots := 6, locals := 15 } : Room) #[(.ref a), (.ref b), (.ref cc)] h [a] (fun r h' => r = none ∧ ∃ (d e : Addr), Keep h h' [a] ∧ h.size ≤ d ∧ h.size ≤ e ∧ Exa Z h' a "com/example/cohabit/cohabit/FlowBounds" ∧ Fld Z h' a "com/example/cohabit/cohabit/FlowBounds" "lower" "[D" (.ref d) ∧ Fld Z h' a "com/example/cohabit/cohabit/FlowBounds" "upper" "[D" (.ref e) ∧ Arv Z h' d kb .double (3 : Int32) [(.double (FP.i2d x0)), (.double (FP.i2d x1)), (.double (FP.i2d x2))] (.double 0) ∧ Arv Z h' e kc .double (3 : Int32) [(.double (own_up y0)), (.double (own_up y1)), (.double (own_up y2))] (.double 0)) := by
  have hw := G.hw
  refine Met.of (plainFor_of_name pn_426f756e6473_0) G.ew O ?_
  intro p e s m below meth c T0 C0 S0
  refine Endw.eq (g' := mkF m 0 #[.val (.ref a), .val (.ref b), .val (.ref cc), .unset] []) (by first | rfl | (simp [entryFrame, mkF, argsToLocals, own_cI, own_cR, own_cN, own_cJ, own_cD, maxLocals]; done)) ?_
  refine Endw.st (T' := T0) (g' := (mkF m 1 #[.val (.ref a), .val (.ref b), .val (.ref cc), .unset] [(.ref a)])) (fun tt_ kk_ => XS.aloadN C0.here C0.hx rfl (C0.dec d3_0) rfl rfl kk_) ?_
  refine C0.initO (W15 hw) (W16 hw) (W17 hw) rfl d3_1 (pc' := 4) rfl (by decide) (W := 0) (Nat.le_of_ble_eq_true rfl) (by decide) ?_
  intro T1 C1
  show Endw p e below T1 (mkF m 4 #[.val (.ref a), .val (.ref b), .val (.ref cc), .unset] []) _
  refine Endw.st (T' := T1) (g' := (mkF m 5 #[.val (.ref a), .val (.ref b), .val (.ref cc), .unset] [(.ref b)])) (fun tt_ kk_ => XS.aloadN C1.here C1.hx rfl (C1.dec d3_4) rfl rfl kk_) ?_
  refine C1.len V d3_5 (pc' := 6) rfl ?_
  show Endw p e below T1 (mkF m 6 #[.val (.ref a), .val (.ref b), .val (.ref cc), .unset] [(.int (3 : Int32))]) _
  refine Endw.st (T' := T1) (g' := (mkF m 7 #[.val (.ref a), .val (.ref b), .val (.ref cc), .unset] [(.ref cc), (.int (3 : Int32))])) (fun tt_ kk_ => XS.aloadN C1.here C1.hx rfl (C1.dec d3_6) rfl rfl kk_) ?_
  refine C1.len U d3_7 (pc' := 8) rfl ?_
  show Endw p e below T1 (mkF m 8 #[.val (.ref a), .val (.ref b), .val (.ref cc), .unset] [(.int (3 : Int32)), (.int (3 : Int32))]) _
  refine Endw.st (T' := T1) (g' := (mkF m 32 #[.val (.ref a), .val (.ref b), .val (.ref cc), .val (.int (0 : Int32))] [(.ref b), (.int (0 : Int32))])) (fun tt_ kk_ => XS.icmpYes C1.here C1.hx rfl (pc0 := 8) rfl (C1.dec d3_8) rfl (XT.ii_eq_t (by decide)) (by decide) rfl (XS.iconst C1.here C1.hx rfl (C1.dec d3_28) (XS.istoreN C1.here C1.hx rfl (C1.dec d3_29) rfl (l' := #[.val (.ref a), .val (.ref b), .val (.ref cc), .val (.int (0 : Int32))]) rfl (XS.iloadN C1.here C1.hx rfl (C1.dec d3_30) rfl (XS.aloadN C1.here C1.hx rfl (C1.dec d3_31) rfl rfl kk_))))) ?_
  refine C1.len V d3_32 (pc' := 33) rfl ?_
  show Endw p e below T1 (mkF m 33 #[.val (.ref a), .val (.ref b), .val (.ref cc), .val (.int (0 : Int32))] [(.int (3 : Int32)), (.int (0 : Int32))]) _
  refine Endw.st (T' := T1) (g' := (mkF m 38 #[.val (.ref a), .val (.ref b), .val (.ref cc), .val (.int (0 : Int32))] [(.int (0 : Int32)), (.ref b)])) (fun tt_ kk_ => XS.icmpNo C1.here C1.hx rfl (C1.dec d3_33) rfl (XT.ii_ge_f (by decide)) (XS.aloadN C1.here C1.hx rfl (C1.dec d3_36) rfl rfl (XS.iloadN C1.here C1.hx rfl (C1.dec d3_37) rfl kk_))) ?_
  refine C1.daload V ⟨by decide, by decide⟩ (v := (.double (FP.i2d x0))) rfl d3_38 (pc' := 39) rfl ?_
  show Endw p e below T1 (mkF m 39 #[.val (.ref a), .val (.ref b), .val (.ref cc), .val (.int (0 : Int32))] [(.double (FP.i2d x0))]) _
  refine Endw.st (T' := T1) (g' := (mkF m 46 #[.val (.ref a), .val (.ref b), .val (.ref cc), .val (.int (0 : Int32))] [(.int (0 : Int32)), (.ref b)])) (fun tt_ kk_ => XS.dconst0 C1.here C1.hx rfl (C1.dec d3_39) rfl (XS.dcmpS C1.here C1.hx rfl (C1.dec d3_40) rfl rfl (XS.ifNo C1.here C1.hx rfl (C1.dec d3_41) rfl (XT.i0_lt_f (own_ge0 p0)) (XS.aloadN C1.here C1.hx rfl (C1.dec d3_44) rfl rfl (XS.iloadN C1.here C1.hx rfl (C1.dec d3_45) rfl kk_))))) ?_
  refine C1.daload V ⟨by decide, by decide⟩ (v := (.double (FP.i2d x0))) rfl d3_46 (pc' := 47) rfl ?_
  show Endw p e below T1 (mkF m 47 #[.val (.ref a), .val (.ref b), .val (.ref cc), .val (.int (0 : Int32))] [(.double (FP.i2d x0))]) _
  refine Endw.st (T' := T1) (g' := (mkF m 56 #[.val (.ref a), .val (.ref b), .val (.ref cc), .val (.int (0 : Int32))] [(.int (0 : Int32)), (.ref cc)])) (fun tt_ kk_ => own_ldc2D C1 (W18 hw) rfl d3_47 (XS.dcmpS C1.here C1.hx rfl (C1.dec d3_50) rfl (own_ltP _) (XS.ifNo C1.here C1.hx rfl (C1.dec d3_51) rfl (XT.i0_ge_f (by decide)) (XS.aloadN C1.here C1.hx rfl (C1.dec d3_54) rfl rfl (XS.iloadN C1.here C1.hx rfl (C1.dec d3_55) rfl kk_))))) ?_
  refine C1.daload U ⟨by decide, by decide⟩ (v := (.double (own_up y0))) rfl d3_56 (pc' := 57) rfl ?_
  show Endw p e below T1 (mkF m 57 #[.val (.ref a), .val (.ref b), .val (.ref cc), .val (.int (0 : Int32))] [(.double (own_up y0))]) _
  refine Endw.st (T' := T1) (g' := (mkF m 32 #[.val (.ref a), .val (.ref b), .val (.ref cc), .val (.int (1 : Int32))] [(.ref b), (.int (1 : Int32))])) (fun tt_ kk_ => XS.dconst0 C1.here C1.hx rfl (C1.dec d3_57) rfl (XS.dcmpS C1.here C1.hx rfl (C1.dec d3_58) rfl rfl (XS.ifYes C1.here C1.hx rfl (pc0 := 59) rfl (C1.dec d3_59) rfl (XT.i0_ge_t (own_geUp q0)) (by decide) rfl (XS.iinc C1.here C1.hx rfl (C1.dec d3_82) rfl (l' := #[.val (.ref a), .val (.ref b), .val (.ref cc), .val (.int (1 : Int32))]) rfl (XS.goto C1.here C1.hx rfl (pc0 := 85) rfl (C1.dec d3_85) (by decide) rfl (XS.iloadN C1.here C1.hx rfl (C1.dec d3_30) rfl (XS.aloadN C1.here C1.hx rfl (C1.dec d3_31) rfl rfl kk_))))))) ?_
  refine C1.len V d3_32 (pc' := 33) rfl ?_
  show Endw p e below T1 (mkF m 33 #[.val (.ref a), .val (.ref b), .val (.ref cc), .val (.int (1 : Int32))] [(.int (3 : Int32)), (.int (1 : Int32))]) _
  refine Endw.st (T' := T1) (g' := (mkF m 38 #[.val (.ref a), .val (.ref b), .val (.ref cc), .val (.int (1 : Int32))] [(.int (1 : Int32)), (.ref b)])) (fun tt_ kk_ => XS.icmpNo C1.here C1.hx rfl (C1.dec d3_33) rfl (XT.ii_ge_f (by decide)) (XS.aloadN C1.here C1.hx rfl (C1.dec d3_36) rfl rfl (XS.iloadN C1.here C1.hx rfl (C1.dec d3_37) rfl kk_))) ?_
  refine C1.daload V ⟨by decide, by decide⟩ (v := (.double (FP.i2d x1))) rfl d3_38 (pc' := 39) rfl ?_
  show Endw p e below T1 (mkF m 39 #[.val (.ref a), .val (.ref b), .val (.ref cc), .val (.int (1 : Int32))] [(.double (FP.i2d x1))]) _
  refine Endw.st (T' := T1) (g' := (mkF m 46 #[.val (.ref a), .val (.ref b), .val (.ref cc), .val (.int (1 : Int32))] [(.int (1 : Int32)), (.ref b)])) (fun tt_ kk_ => XS.dconst0 C1.here C1.hx rfl (C1.dec d3_39) rfl (XS.dcmpS C1.here C1.hx rfl (C1.dec d3_40) rfl rfl (XS.ifNo C1.here C1.hx rfl (C1.dec d3_41) rfl (XT.i0_lt_f (own_ge0 p1)) (XS.aloadN C1.here C1.hx rfl (C1.dec d3_44) rfl rfl (XS.iloadN C1.here C1.hx rfl (C1.dec d3_45) rfl kk_))))) ?_
  refine C1.daload V ⟨by decide, by decide⟩ (v := (.double (FP.i2d x1))) rfl d3_46 (pc' := 47) rfl ?_
  show Endw p e below T1 (mkF m 47 #[.val (.ref a), .val (.ref b), .val (.ref cc), .val (.int (1 : Int32))] [(.double (FP.i2d x1))]) _
  refine Endw.st (T' := T1) (g' := (mkF m 56 #[.val (.ref a), .val (.ref b), .val (.ref cc), .val (.int (1 : Int32))] [(.int (1 : Int32)), (.ref cc)])) (fun tt_ kk_ => own_ldc2D C1 (W18 hw) rfl d3_47 (XS.dcmpS C1.here C1.hx rfl (C1.dec d3_50) rfl (own_ltP _) (XS.ifNo C1.here C1.hx rfl (C1.dec d3_51) rfl (XT.i0_ge_f (by decide)) (XS.aloadN C1.here C1.hx rfl (C1.dec d3_54) rfl rfl (XS.iloadN C1.here C1.hx rfl (C1.dec d3_55) rfl kk_))))) ?_
  refine C1.daload U ⟨by decide, by decide⟩ (v := (.double (own_up y1))) rfl d3_56 (pc' := 57) rfl ?_
  show Endw p e below T1 (mkF m 57 #[.val (.ref a), .val (.ref b), .val (.ref cc), .val (.int (1 : Int32))] [(.double (own_up y1))]) _
  refine Endw.st (T' := T1) (g' := (mkF m 32 #[.val (.ref a), .val (.ref b), .val (.ref cc), .val (.int (2 : Int32))] [(.ref b), (.int (2 : Int32))])) (fun tt_ kk_ => XS.dconst0 C1.here C1.hx rfl (C1.dec d3_57) rfl (XS.dcmpS C1.here C1.hx rfl (C1.dec d3_58) rfl rfl (XS.ifYes C1.here C1.hx rfl (pc0 := 59) rfl (C1.dec d3_59) rfl (XT.i0_ge_t (own_geUp q1)) (by decide) rfl (XS.iinc C1.here C1.hx rfl (C1.dec d3_82) rfl (l' := #[.val (.ref a), .val (.ref b), .val (.ref cc), .val (.int (2 : Int32))]) rfl (XS.goto C1.here C1.hx rfl (pc0 := 85) rfl (C1.dec d3_85) (by decide) rfl (XS.iloadN C1.here C1.hx rfl (C1.dec d3_30) rfl (XS.aloadN C1.here C1.hx rfl (C1.dec d3_31) rfl rfl kk_))))))) ?_
  refine C1.len V d3_32 (pc' := 33) rfl ?_
  show Endw p e below T1 (mkF m 33 #[.val (.ref a), .val (.ref b), .val (.ref cc), .val (.int (2 : Int32))] [(.int (3 : Int32)), (.int (2 : Int32))]) _
  refine Endw.st (T' := T1) (g' := (mkF m 38 #[.val (.ref a), .val (.ref b), .val (.ref cc), .val (.int (2 : Int32))] [(.int (2 : Int32)), (.ref b)])) (fun tt_ kk_ => XS.icmpNo C1.here C1.hx rfl (C1.dec d3_33) rfl (XT.ii_ge_f (by decide)) (XS.aloadN C1.here C1.hx rfl (C1.dec d3_36) rfl rfl (XS.iloadN C1.here C1.hx rfl (C1.dec d3_37) rfl kk_))) ?_
  refine C1.daload V ⟨by decide, by decide⟩ (v := (.double (FP.i2d x2))) rfl d3_38 (pc' := 39) rfl ?_
  show Endw p e below T1 (mkF m 39 #[.val (.ref a), .val (.ref b), .val (.ref cc), .val (.int (2 : Int32))] [(.double (FP.i2d x2))]) _
  refine Endw.st (T' := T1) (g' := (mkF m 46 #[.val (.ref a), .val (.ref b), .val (.ref cc), .val (.int (2 : Int32))] [(.int (2 : Int32)), (.ref b)])) (fun tt_ kk_ => XS.dconst0 C1.here C1.hx rfl (C1.dec d3_39) rfl (XS.dcmpS C1.here C1.hx rfl (C1.dec d3_40) rfl rfl (XS.ifNo C1.here C1.hx rfl (C1.dec d3_41) rfl (XT.i0_lt_f (own_ge0 p2)) (XS.aloadN C1.here C1.hx rfl (C1.dec d3_44) rfl rfl (XS.iloadN C1.here C1.hx rfl (C1.dec d3_45) rfl kk_))))) ?_
  refine C1.daload V ⟨by decide, by decide⟩ (v := (.double (FP.i2d x2))) rfl d3_46 (pc' := 47) rfl ?_
  show Endw p e below T1 (mkF m 47 #[.val (.ref a), .val (.ref b), .val (.ref cc), .val (.int (2 : Int32))] [(.double (FP.i2d x2))]) _
  refine Endw.st (T' := T1) (g' := (mkF m 56 #[.val (.ref a), .val (.ref b), .val (.ref cc), .val (.int (2 : Int32))] [(.int (2 : Int32)), (.ref cc)])) (fun tt_ kk_ => own_ldc2D C1 (W18 hw) rfl d3_47 (XS.dcmpS C1.here C1.hx rfl (C1.dec d3_50) rfl (own_ltP _) (XS.ifNo C1.here C1.hx rfl (C1.dec d3_51) rfl (XT.i0_ge_f (by decide)) (XS.aloadN C1.here C1.hx rfl (C1.dec d3_54) rfl rfl (XS.iloadN C1.here C1.hx rfl (C1.dec d3_55) rfl kk_))))) ?_
  refine C1.daload U ⟨by decide, by decide⟩ (v := (.double (own_up y2))) rfl d3_56 (pc' := 57) rfl ?_
  show Endw p e below T1 (mkF m 57 #[.val (.ref a), .val (.ref b), .val (.ref cc), .val (.int (2 : Int32))] [(.double (own_up y2))]) _
  refine Endw.st (T' := T1) (g' := (mkF m 32 #[.val (.ref a), .val (.ref b), .val (.ref cc), .val (.int (3 : Int32))] [(.ref b), (.int (3 : Int32))])) (fun tt_ kk_ => XS.dconst0 C1.here C1.hx rfl (C1.dec d3_57) rfl (XS.dcmpS C1.here C1.hx rfl (C1.dec d3_58) rfl rfl (XS.ifYes C1.here C1.hx rfl (pc0 := 59) rfl (C1.dec d3_59) rfl (XT.i0_ge_t (own_geUp q2)) (by decide) rfl (XS.iinc C1.here C1.hx rfl (C1.dec d3_82) rfl (l' := #[.val (.ref a), .val (.ref b), .val (.ref cc), .val (.int (3 : Int32))]) rfl (XS.goto C1.here C1.hx rfl (pc0 := 85) rfl (C1.dec d3_85) (by decide) rfl (XS.iloadN C1.here C1.hx rfl (C1.dec d3_30) rfl (XS.aloadN C1.here C1.hx rfl (C1.dec d3_31) rfl rfl kk_))))))) ?_
  refine C1.len V d3_32 (pc' := 33) rfl ?_
  show Endw p e below T1 (mkF m 33 #[.val (.ref a), .val (.ref b), .val (.ref cc), .val (.int (3 : Int32))] [(.int (3 : Int32)), (.int (3 : Int32))]) _
  refine Endw.st (T' := T1) (g' := (mkF m 90 #[.val (.ref a), .val (.ref b), .val (.ref cc), .val (.int (3 : Int32))] [(.ref b), (.ref a)])) (fun tt_ kk_ => XS.icmpYes C1.here C1.hx rfl (pc0 := 33) rfl (C1.dec d3_33) rfl (XT.ii_ge_t (by decide)) (by decide) rfl (XS.aloadN C1.here C1.hx rfl (C1.dec d3_88) rfl rfl (XS.aloadN C1.here C1.hx rfl (C1.dec d3_89) rfl rfl kk_))) ?_
  refine C1.clone (ad := "[D") (W := 1) (cap := 3) (a := b) (rest := [(.ref a)]) (W19 hw) (W20 hw) (W24 hw) (W22 hw) (W23 hw) (W25 hw) V EV (by decide) (Nat.le_of_ble_eq_true rfl) (by decide) (by decide) (by decide) (by decide) rfl d3_90 (pc' := 93) rfl ?_
  intro T2 h2 a2 C2 K2 A2 ge2 zg2 V2 S2 E2
  show Endw p e below T2 (mkF m 93 #[.val (.ref a), .val (.ref b), .val (.ref cc), .val (.int (3 : Int32))] [(.ref a2), (.ref a)]) _
  refine C2.castY (W26 hw) (Ins.of_exa E2 (W27 hw)) d3_93 (pc' := 96) rfl ?_
  intro T3 C3
  show Endw p e below T3 (mkF m 96 #[.val (.ref a), .val (.ref b), .val (.ref cc), .val (.int (3 : Int32))] [(.ref a2), (.ref a)]) _
  have f4 := (E0.keep K2)
  have f5 := (F0.keep K2 nin0)
  have f7 := (F1.keep K2 nin0)
  have f8 := (A2.safe E0.lt (S0 a (by simp)))
  refine C3.putF (v := (.ref a2)) (W28 hw) f5 f4 (Or.inr ⟨(W29 hw), rfl, rfl⟩) (W10 hw) (ty := (.array .double)) (by decide) rfl rfl za f8 d3_96 (pc' := 99) rfl ?_
  intro T6 h6 C6 K6 A6 Wr6
  have f9 := f5.same Wr6
  have f10 := f7.other Wr6 (Or.inr (slot_ne (Or.inr (W31 hw)) (Or.inr (W29 hw)) (by decide) (t := (.array .double)) (t' := (.array .double)) (by decide) (by decide)))
  show Endw p e below T6 (mkF m 99 #[.val (.ref a), .val (.ref b), .val (.ref cc), .val (.int (3 : Int32))] []) _
  refine Endw.st (T' := T6) (g' := (mkF m 101 #[.val (.ref a), .val (.ref b), .val (.ref cc), .val (.int (3 : Int32))] [(.ref cc), (.ref a)])) (fun tt_ kk_ => XS.aloadN C6.here C6.hx rfl (C6.dec d3_99) rfl rfl (XS.aloadN C6.here C6.hx rfl (C6.dec d3_100) rfl rfl kk_)) ?_
  have f11 := ((U.keep K2 nin0).keep K6 (ninS (RoadKit.Exa.ne EU E0 (by decide)) nin0))
  have f12 := ((EU.keep K2).keep K6)
  refine C6.clone (ad := "[D") (W := 1) (cap := 3) (a := cc) (rest := [(.ref a)]) (W19 hw) (W20 hw) (W24 hw) (W22 hw) (W23 hw) (W25 hw) f11 f12 (by decide) (Nat.le_of_ble_eq_true rfl) (by decide) (by decide) (by decide) (by decide) rfl d3_101 (pc' := 104) rfl ?_
  intro T13 h13 a13 C13 K13 A13 ge13 zg13 V13 S13 E13
  show Endw p e below T13 (mkF m 104 #[.val (.ref a), .val (.ref b), .val (.ref cc), .val (.int (3 : Int32))] [(.ref a13), (.ref a)]) _
  refine C13.castY (W26 hw) (Ins.of_exa E13 (W27 hw)) d3_104 (pc' := 107) rfl ?_
  intro T14 C14
  show Endw p e below T14 (mkF m 107 #[.val (.ref a), .val (.ref b), .val (.ref cc), .val (.int (3 : Int32))] [(.ref a13), (.ref a)]) _
  have f15 := ((f4.keep K6).keep K13)
  have f16 := (f10.keep K13 nin0)
  have f18 := (f9.keep K13 nin0)
  have f19 := (A13.safe (Nat.lt_of_lt_of_le E0.lt (Nat.le_trans K2.1 K6.1)) (A6.safe (Nat.lt_of_lt_of_le E0.lt K2.1) f8))
  refine C14.putF (v := (.ref a13)) (W30 hw) f16 f15 (Or.inr ⟨(W31 hw), rfl, rfl⟩) (W10 hw) (ty := (.array .double)) (by decide) rfl rfl za f19 d3_107 (pc' := 110) rfl ?_
  intro T17 h17 C17 K17 A17 Wr17
  have f20 := f16.same Wr17
  have f21 := f18.other Wr17 (Or.inr (slot_ne (Or.inr (W29 hw)) (Or.inr (W31 hw)) (by decide) (t := (.array .double)) (t' := (.array .double)) (by decide) (by decide)))
  show Endw p e below T17 (mkF m 110 #[.val (.ref a), .val (.ref b), .val (.ref cc), .val (.int (3 : Int32))] []) _
  have f22 := (f15.keep K17)
  have f23 := (((V2.keep K6 (ninS (Ne.symm (Nat.ne_of_lt (Nat.lt_of_lt_of_le E0.lt ge2))) nin0)).keep K13 nin0).keep K17 (ninS (Ne.symm (Nat.ne_of_lt (Nat.lt_of_lt_of_le E0.lt ge2))) nin0))
  have f24 := (V13.keep K17 (ninS (Ne.symm (Nat.ne_of_lt (Nat.lt_of_lt_of_le (Nat.lt_of_lt_of_le E0.lt (Nat.le_trans K2.1 K6.1)) ge13))) nin0))
  exact C17.retV d3_110 (by decide) (by decide) ⟨rfl, a2, a13, (Keep.trans (Keep.trans (Keep.trans (Keep.trans (Keep.refl h [a]) K2 all0) K6 (allS (Or.inl (by simp)) all0)) K13 all0) K17 (allS (Or.inl (by simp)) all0)), ge2, (Nat.le_trans (Nat.le_trans K2.1 K6.1) ge13), f22, f21, f20, f23, f24⟩
set_option maxRecDepth 65536 in
set_option maxHeartbeats 40000000 in
theorem rm_crossed0 (l : Launch) (Z : State) (a0 : Array Value) (EL : List (String × Nat)) (G : Glob Z a0 EL) (a b cc : Addr) (kb kc : ClassId) (t : Int32) (h : Heap) (O : Ext Z.heap h) (E0 : Exa Z h a "com/example/cohabit/cohabit/FlowBounds") (F0 : Fld Z h a "com/example/cohabit/cohabit/FlowBounds" "lower" "[D" (.ref b)) (F1 : Fld Z h a "com/example/cohabit/cohabit/FlowBounds" "upper" "[D" (.ref cc)) (V : Arv Z h b kb .double (0 : Int32) [] (.double 0)) (U : Arv Z h cc kc .double (0 : Int32) [] (.double 0))  (ht : -64 < t.toInt ∧ t.toInt < 64) :
    Met l Z EL true (⟨"com/example/cohabit/cohabit/FlowBounds", "crossed", "(D)Z"⟩ : MethodName) prog_10_method_11_code 4 (some .boolean) [] ({ frames := 0, cells := 0, slots := 0, locals := 0 } : Room) #[(.ref a), (.double (FP.ddiv (FP.i2d t) (4611686018427387904 : UInt64)))] h [] (fun r h' => r = some (.int 0) ∧ h = h') := by
  have hw := G.hw
  refine Met.of (plainFor_of_name pn_426f756e6473_0) G.ew O ?_
  intro p e s m below meth c T0 C0 S0
  refine Endw.eq (g' := mkF m 0 #[.val (.ref a), .val (.double (FP.ddiv (FP.i2d t) (4611686018427387904 : UInt64))), .second, .unset] []) (by first | rfl | (simp [entryFrame, mkF, argsToLocals, own_cI, own_cR, own_cN, own_cJ, own_cD, maxLocals]; done)) ?_
  refine Endw.st (T' := T0) (g' := (mkF m 4 #[.val (.ref a), .val (.double (FP.ddiv (FP.i2d t) (4611686018427387904 : UInt64))), .second, .val (.int (0 : Int32))] [(.ref a), (.int (0 : Int32))])) (fun tt_ kk_ => XS.iconst C0.here C0.hx rfl (C0.dec d4_0) (XS.istoreN C0.here C0.hx rfl (C0.dec d4_1) rfl (l' := #[.val (.ref a), .val (.double (FP.ddiv (FP.i2d t) (4611686018427387904 : UInt64))), .second, .val (.int (0 : Int32))]) rfl (XS.iloadN C0.here C0.hx rfl (C0.dec d4_2) rfl (XS.aloadN C0.here C0.hx rfl (C0.dec d4_3) rfl rfl kk_)))) ?_
  refine C0.getF (W28 hw) F0 d4_4 (pc' := 7) rfl ?_
  intro T1 C1
  show Endw p e below T1 (mkF m 7 #[.val (.ref a), .val (.double (FP.ddiv (FP.i2d t) (4611686018427387904 : UInt64))), .second, .val (.int (0 : Int32))] [(.ref b), (.int (0 : Int32))]) _
  refine C1.len V d4_7 (pc' := 8) rfl ?_
  show Endw p e below T1 (mkF m 8 #[.val (.ref a), .val (.double (FP.ddiv (FP.i2d t) (4611686018427387904 : UInt64))), .second, .val (.int (0 : Int32))] [(.int (0 : Int32)), (.int (0 : Int32))]) _
  refine Endw.st (T' := T1) (g' := (mkF m 38 #[.val (.ref a), .val (.double (FP.ddiv (FP.i2d t) (4611686018427387904 : UInt64))), .second, .val (.int (0 : Int32))] [(.int (0 : Int32))])) (fun tt_ kk_ => XS.icmpYes C1.here C1.hx rfl (pc0 := 8) rfl (C1.dec d4_8) rfl (XT.ii_ge_t (by decide)) (by decide) rfl (XS.iconst C1.here C1.hx rfl (C1.dec d4_37) kk_)) ?_
  exact C1.retI (t := .boolean) rfl (by simp) rfl d4_38 (by decide) (by decide) ⟨rfl, rfl⟩
set_option maxRecDepth 65536 in
set_option maxHeartbeats 40000000 in
theorem rm_crossed1 (l : Launch) (Z : State) (a0 : Array Value) (EL : List (String × Nat)) (G : Glob Z a0 EL) (a b cc : Addr) (kb kc : ClassId) (t : Int32) (x0 y0 : Int32) (h : Heap) (O : Ext Z.heap h) (E0 : Exa Z h a "com/example/cohabit/cohabit/FlowBounds") (F0 : Fld Z h a "com/example/cohabit/cohabit/FlowBounds" "lower" "[D" (.ref b)) (F1 : Fld Z h a "com/example/cohabit/cohabit/FlowBounds" "upper" "[D" (.ref cc)) (V : Arv Z h b kb .double (1 : Int32) [(.double (FP.i2d x0))] (.double 0)) (U : Arv Z h cc kc .double (1 : Int32) [(.double (own_up y0))] (.double 0)) (p0 : Sm x0) (q0 : Sm y0) (ht : -64 < t.toInt ∧ t.toInt < 64) :
    Met l Z EL true (⟨"com/example/cohabit/cohabit/FlowBounds", "crossed", "(D)Z"⟩ : MethodName) prog_10_method_11_code 4 (some .boolean) [] ({ frames := 0, cells := 0, slots := 0, locals := 0 } : Room) #[(.ref a), (.double (FP.ddiv (FP.i2d t) (4611686018427387904 : UInt64)))] h [] (fun r h' => r = some (.int (if (own_ov x0 y0 t) = (0 : Int32) then 0 else 1)) ∧ h = h') := by
  have hw := G.hw
  refine Met.of (plainFor_of_name pn_426f756e6473_0) G.ew O ?_
  intro p e s m below meth c T0 C0 S0
  refine Endw.eq (g' := mkF m 0 #[.val (.ref a), .val (.double (FP.ddiv (FP.i2d t) (4611686018427387904 : UInt64))), .second, .unset] []) (by first | rfl | (simp [entryFrame, mkF, argsToLocals, own_cI, own_cR, own_cN, own_cJ, own_cD, maxLocals]; done)) ?_
  refine Endw.st (T' := T0) (g' := (mkF m 4 #[.val (.ref a), .val (.double (FP.ddiv (FP.i2d t) (4611686018427387904 : UInt64))), .second, .val (.int (0 : Int32))] [(.ref a), (.int (0 : Int32))])) (fun tt_ kk_ => XS.iconst C0.here C0.hx rfl (C0.dec d4_0) (XS.istoreN C0.here C0.hx rfl (C0.dec d4_1) rfl (l' := #[.val (.ref a), .val (.double (FP.ddiv (FP.i2d t) (4611686018427387904 : UInt64))), .second, .val (.int (0 : Int32))]) rfl (XS.iloadN C0.here C0.hx rfl (C0.dec d4_2) rfl (XS.aloadN C0.here C0.hx rfl (C0.dec d4_3) rfl rfl kk_)))) ?_
  refine C0.getF (W28 hw) F0 d4_4 (pc' := 7) rfl ?_
  intro T1 C1
  show Endw p e below T1 (mkF m 7 #[.val (.ref a), .val (.double (FP.ddiv (FP.i2d t) (4611686018427387904 : UInt64))), .second, .val (.int (0 : Int32))] [(.ref b), (.int (0 : Int32))]) _
  refine C1.len V d4_7 (pc' := 8) rfl ?_
  show Endw p e below T1 (mkF m 8 #[.val (.ref a), .val (.double (FP.ddiv (FP.i2d t) (4611686018427387904 : UInt64))), .second, .val (.int (0 : Int32))] [(.int (1 : Int32)), (.int (0 : Int32))]) _
  refine Endw.st (T' := T1) (g' := (mkF m 12 #[.val (.ref a), .val (.double (FP.ddiv (FP.i2d t) (4611686018427387904 : UInt64))), .second, .val (.int (0 : Int32))] [(.ref a)])) (fun tt_ kk_ => XS.icmpNo C1.here C1.hx rfl (C1.dec d4_8) rfl (XT.ii_ge_f (by decide)) (XS.aloadN C1.here C1.hx rfl (C1.dec d4_11) rfl rfl kk_)) ?_
  refine C1.getF (W28 hw) F0 d4_12 (pc' := 15) rfl ?_
  intro T2 C2
  show Endw p e below T2 (mkF m 15 #[.val (.ref a), .val (.double (FP.ddiv (FP.i2d t) (4611686018427387904 : UInt64))), .second, .val (.int (0 : Int32))] [(.ref b)]) _
  refine Endw.st (T' := T2) (g' := (mkF m 16 #[.val (.ref a), .val (.double (FP.ddiv (FP.i2d t) (4611686018427387904 : UInt64))), .second, .val (.int (0 : Int32))] [(.int (0 : Int32)), (.ref b)])) (fun tt_ kk_ => XS.iloadN C2.here C2.hx rfl (C2.dec d4_15) rfl kk_) ?_
  refine C2.daload V ⟨by decide, by decide⟩ (v := (.double (FP.i2d x0))) rfl d4_16 (pc' := 17) rfl ?_
  show Endw p e below T2 (mkF m 17 #[.val (.ref a), .val (.double (FP.ddiv (FP.i2d t) (4611686018427387904 : UInt64))), .second, .val (.int (0 : Int32))] [(.double (FP.i2d x0))]) _
  refine Endw.st (T' := T2) (g' := (mkF m 18 #[.val (.ref a), .val (.double (FP.ddiv (FP.i2d t) (4611686018427387904 : UInt64))), .second, .val (.int (0 : Int32))] [(.ref a), (.double (FP.i2d x0))])) (fun tt_ kk_ => XS.aloadN C2.here C2.hx rfl (C2.dec d4_17) rfl rfl kk_) ?_
  refine C2.getF (W30 hw) F1 d4_18 (pc' := 21) rfl ?_
  intro T3 C3
  show Endw p e below T3 (mkF m 21 #[.val (.ref a), .val (.double (FP.ddiv (FP.i2d t) (4611686018427387904 : UInt64))), .second, .val (.int (0 : Int32))] [(.ref cc), (.double (FP.i2d x0))]) _
  refine Endw.st (T' := T3) (g' := (mkF m 22 #[.val (.ref a), .val (.double (FP.ddiv (FP.i2d t) (4611686018427387904 : UInt64))), .second, .val (.int (0 : Int32))] [(.int (0 : Int32)), (.ref cc), (.double (FP.i2d x0))])) (fun tt_ kk_ => XS.iloadN C3.here C3.hx rfl (C3.dec d4_21) rfl kk_) ?_
  refine C3.daload U ⟨by decide, by decide⟩ (v := (.double (own_up y0))) rfl d4_22 (pc' := 23) rfl ?_
  show Endw p e below T3 (mkF m 23 #[.val (.ref a), .val (.double (FP.ddiv (FP.i2d t) (4611686018427387904 : UInt64))), .second, .val (.int (0 : Int32))] [(.double (own_up y0)), (.double (FP.i2d x0))]) _
  refine Endw.st (T' := T3) (g' := (mkF m 26 #[.val (.ref a), .val (.double (FP.ddiv (FP.i2d t) (4611686018427387904 : UInt64))), .second, .val (.int (0 : Int32))] [(.int (cmpValue (FP.dcmp (FP.dsub (FP.i2d x0) (own_up y0)) (FP.ddiv (FP.i2d t) (4611686018427387904 : UInt64))) .l))])) (fun tt_ kk_ => XS.dsubS C3.here C3.hx rfl (C3.dec d4_23) rfl (own_nnDs _ _) rfl (XS.dloadN C3.here C3.hx rfl (C3.dec d4_24) rfl (XS.dcmpS C3.here C3.hx rfl (C3.dec d4_25) rfl rfl kk_))) ?_
  by_cases c4 : (0 : Int32) < (cmpValue (FP.dcmp (FP.dsub (FP.i2d x0) (own_up y0)) (FP.ddiv (FP.i2d t) (4611686018427387904 : UInt64))) .l)
  · refine Endw.st (T' := T3) (g' := (mkF m 30 #[.val (.ref a), .val (.double (FP.ddiv (FP.i2d t) (4611686018427387904 : UInt64))), .second, .val (.int (0 : Int32))] [(.int (1 : Int32))])) (fun tt_ kk_ => XS.ifNo C3.here C3.hx rfl (C3.dec d4_26) rfl (XT.i0_le_f c4) (XS.iconst C3.here C3.hx rfl (C3.dec d4_29) kk_)) ?_
    exact C3.retI (t := .boolean) rfl (by simp) rfl d4_30 (by decide) (by decide) ⟨by rw [if_neg ((own_ovIff p0 q0 ht).mp c4)], rfl⟩
  · refine Endw.st (T' := T3) (g' := (mkF m 4 #[.val (.ref a), .val (.double (FP.ddiv (FP.i2d t) (4611686018427387904 : UInt64))), .second, .val (.int (1 : Int32))] [(.ref a), (.int (1 : Int32))])) (fun tt_ kk_ => XS.ifYes C3.here C3.hx rfl (pc0 := 26) rfl (C3.dec d4_26) rfl (XT.i0_le_t c4) (by decide) rfl (XS.iinc C3.here C3.hx rfl (C3.dec d4_31) rfl (l' := #[.val (.ref a), .val (.double (FP.ddiv (FP.i2d t) (4611686018427387904 : UInt64))), .second, .val (.int (1 : Int32))]) rfl (XS.goto C3.here C3.hx rfl (pc0 := 34) rfl (C3.dec d4_34) (by decide) rfl (XS.iloadN C3.here C3.hx rfl (C3.dec d4_2) rfl (XS.aloadN C3.here C3.hx rfl (C3.dec d4_3) rfl rfl kk_))))) ?_
    refine C3.getF (W28 hw) F0 d4_4 (pc' := 7) rfl ?_
    intro T5 C5
    show Endw p e below T5 (mkF m 7 #[.val (.ref a), .val (.double (FP.ddiv (FP.i2d t) (4611686018427387904 : UInt64))), .second, .val (.int (1 : Int32))] [(.ref b), (.int (1 : Int32))]) _
    refine C5.len V d4_7 (pc' := 8) rfl ?_
    show Endw p e below T5 (mkF m 8 #[.val (.ref a), .val (.double (FP.ddiv (FP.i2d t) (4611686018427387904 : UInt64))), .second, .val (.int (1 : Int32))] [(.int (1 : Int32)), (.int (1 : Int32))]) _
    refine Endw.st (T' := T5) (g' := (mkF m 38 #[.val (.ref a), .val (.double (FP.ddiv (FP.i2d t) (4611686018427387904 : UInt64))), .second, .val (.int (1 : Int32))] [(.int (0 : Int32))])) (fun tt_ kk_ => XS.icmpYes C5.here C5.hx rfl (pc0 := 8) rfl (C5.dec d4_8) rfl (XT.ii_ge_t (by decide)) (by decide) rfl (XS.iconst C5.here C5.hx rfl (C5.dec d4_37) kk_)) ?_
    exact C5.retI (t := .boolean) rfl (by simp) rfl d4_38 (by decide) (by decide) ⟨by rw [if_pos (Decidable.not_not.mp (fun z => c4 ((own_ovIff p0 q0 ht).mpr z)))], rfl⟩
set_option maxRecDepth 65536 in
set_option maxHeartbeats 40000000 in
theorem rm_crossed2 (l : Launch) (Z : State) (a0 : Array Value) (EL : List (String × Nat)) (G : Glob Z a0 EL) (a b cc : Addr) (kb kc : ClassId) (t : Int32) (x0 y0 : Int32) (x1 y1 : Int32) (h : Heap) (O : Ext Z.heap h) (E0 : Exa Z h a "com/example/cohabit/cohabit/FlowBounds") (F0 : Fld Z h a "com/example/cohabit/cohabit/FlowBounds" "lower" "[D" (.ref b)) (F1 : Fld Z h a "com/example/cohabit/cohabit/FlowBounds" "upper" "[D" (.ref cc)) (V : Arv Z h b kb .double (2 : Int32) [(.double (FP.i2d x0)), (.double (FP.i2d x1))] (.double 0)) (U : Arv Z h cc kc .double (2 : Int32) [(.double (own_up y0)), (.double (own_up y1))] (.double 0)) (p0 : Sm x0) (q0 : Sm y0) (p1 : Sm x1) (q1 : Sm y1) (ht : -64 < t.toInt ∧ t.toInt < 64) :
    Met l Z EL true (⟨"com/example/cohabit/cohabit/FlowBounds", "crossed", "(D)Z"⟩ : MethodName) prog_10_method_11_code 4 (some .boolean) [] ({ frames := 0, cells := 0, slots := 0, locals := 0 } : Room) #[(.ref a), (.double (FP.ddiv (FP.i2d t) (4611686018427387904 : UInt64)))] h [] (fun r h' => r = some (.int (if (own_ov x0 y0 t) = (0 : Int32) then (if (own_ov x1 y1 t) = (0 : Int32) then 0 else 1) else 1)) ∧ h = h') := by
  have hw := G.hw
  refine Met.of (plainFor_of_name pn_426f756e6473_0) G.ew O ?_
  intro p e s m below meth c T0 C0 S0
  refine Endw.eq (g' := mkF m 0 #[.val (.ref a), .val (.double (FP.ddiv (FP.i2d t) (4611686018427387904 : UInt64))), .second, .unset] []) (by first | rfl | (simp [entryFrame, mkF, argsToLocals, own_cI, own_cR, own_cN, own_cJ, own_cD, maxLocals]; done)) ?_
  refine Endw.st (T' := T0) (g' := (mkF m 4 #[.val (.ref a), .val (.double (FP.ddiv (FP.i2d t) (4611686018427387904 : UInt64))), .second, .val (.int (0 : Int32))] [(.ref a), (.int (0 : Int32))])) (fun tt_ kk_ => XS.iconst C0.here C0.hx rfl (C0.dec d4_0) (XS.istoreN C0.here C0.hx rfl (C0.dec d4_1) rfl (l' := #[.val (.ref a), .val (.double (FP.ddiv (FP.i2d t) (4611686018427387904 : UInt64))), .second, .val (.int (0 : Int32))]) rfl (XS.iloadN C0.here C0.hx rfl (C0.dec d4_2) rfl (XS.aloadN C0.here C0.hx rfl (C0.dec d4_3) rfl rfl kk_)))) ?_
  refine C0.getF (W28 hw) F0 d4_4 (pc' := 7) rfl ?_
  intro T1 C1
  show Endw p e below T1 (mkF m 7 #[.val (.ref a), .val (.double (FP.ddiv (FP.i2d t) (4611686018427387904 : UInt64))), .second, .val (.int (0 : Int32))] [(.ref b), (.int (0 : Int32))]) _
  refine C1.len V d4_7 (pc' := 8) rfl ?_
  show Endw p e below T1 (mkF m 8 #[.val (.ref a), .val (.double (FP.ddiv (FP.i2d t) (4611686018427387904 : UInt64))), .second, .val (.int (0 : Int32))] [(.int (2 : Int32)), (.int (0 : Int32))]) _
  refine Endw.st (T' := T1) (g' := (mkF m 12 #[.val (.ref a), .val (.double (FP.ddiv (FP.i2d t) (4611686018427387904 : UInt64))), .second, .val (.int (0 : Int32))] [(.ref a)])) (fun tt_ kk_ => XS.icmpNo C1.here C1.hx rfl (C1.dec d4_8) rfl (XT.ii_ge_f (by decide)) (XS.aloadN C1.here C1.hx rfl (C1.dec d4_11) rfl rfl kk_)) ?_
  refine C1.getF (W28 hw) F0 d4_12 (pc' := 15) rfl ?_
  intro T2 C2
  show Endw p e below T2 (mkF m 15 #[.val (.ref a), .val (.double (FP.ddiv (FP.i2d t) (4611686018427387904 : UInt64))), .second, .val (.int (0 : Int32))] [(.ref b)]) _
  refine Endw.st (T' := T2) (g' := (mkF m 16 #[.val (.ref a), .val (.double (FP.ddiv (FP.i2d t) (4611686018427387904 : UInt64))), .second, .val (.int (0 : Int32))] [(.int (0 : Int32)), (.ref b)])) (fun tt_ kk_ => XS.iloadN C2.here C2.hx rfl (C2.dec d4_15) rfl kk_) ?_
  refine C2.daload V ⟨by decide, by decide⟩ (v := (.double (FP.i2d x0))) rfl d4_16 (pc' := 17) rfl ?_
  show Endw p e below T2 (mkF m 17 #[.val (.ref a), .val (.double (FP.ddiv (FP.i2d t) (4611686018427387904 : UInt64))), .second, .val (.int (0 : Int32))] [(.double (FP.i2d x0))]) _
  refine Endw.st (T' := T2) (g' := (mkF m 18 #[.val (.ref a), .val (.double (FP.ddiv (FP.i2d t) (4611686018427387904 : UInt64))), .second, .val (.int (0 : Int32))] [(.ref a), (.double (FP.i2d x0))])) (fun tt_ kk_ => XS.aloadN C2.here C2.hx rfl (C2.dec d4_17) rfl rfl kk_) ?_
  refine C2.getF (W30 hw) F1 d4_18 (pc' := 21) rfl ?_
  intro T3 C3
  show Endw p e below T3 (mkF m 21 #[.val (.ref a), .val (.double (FP.ddiv (FP.i2d t) (4611686018427387904 : UInt64))), .second, .val (.int (0 : Int32))] [(.ref cc), (.double (FP.i2d x0))]) _
  refine Endw.st (T' := T3) (g' := (mkF m 22 #[.val (.ref a), .val (.double (FP.ddiv (FP.i2d t) (4611686018427387904 : UInt64))), .second, .val (.int (0 : Int32))] [(.int (0 : Int32)), (.ref cc), (.double (FP.i2d x0))])) (fun tt_ kk_ => XS.iloadN C3.here C3.hx rfl (C3.dec d4_21) rfl kk_) ?_
  refine C3.daload U ⟨by decide, by decide⟩ (v := (.double (own_up y0))) rfl d4_22 (pc' := 23) rfl ?_
  show Endw p e below T3 (mkF m 23 #[.val (.ref a), .val (.double (FP.ddiv (FP.i2d t) (4611686018427387904 : UInt64))), .second, .val (.int (0 : Int32))] [(.double (own_up y0)), (.double (FP.i2d x0))]) _
  refine Endw.st (T' := T3) (g' := (mkF m 26 #[.val (.ref a), .val (.double (FP.ddiv (FP.i2d t) (4611686018427387904 : UInt64))), .second, .val (.int (0 : Int32))] [(.int (cmpValue (FP.dcmp (FP.dsub (FP.i2d x0) (own_up y0)) (FP.ddiv (FP.i2d t) (4611686018427387904 : UInt64))) .l))])) (fun tt_ kk_ => XS.dsubS C3.here C3.hx rfl (C3.dec d4_23) rfl (own_nnDs _ _) rfl (XS.dloadN C3.here C3.hx rfl (C3.dec d4_24) rfl (XS.dcmpS C3.here C3.hx rfl (C3.dec d4_25) rfl rfl kk_))) ?_
  by_cases c4 : (0 : Int32) < (cmpValue (FP.dcmp (FP.dsub (FP.i2d x0) (own_up y0)) (FP.ddiv (FP.i2d t) (4611686018427387904 : UInt64))) .l)
  · refine Endw.st (T' := T3) (g' := (mkF m 30 #[.val (.ref a), .val (.double (FP.ddiv (FP.i2d t) (4611686018427387904 : UInt64))), .second, .val (.int (0 : Int32))] [(.int (1 : Int32))])) (fun tt_ kk_ => XS.ifNo C3.here C3.hx rfl (C3.dec d4_26) rfl (XT.i0_le_f c4) (XS.iconst C3.here C3.hx rfl (C3.dec d4_29) kk_)) ?_
    exact C3.retI (t := .boolean) rfl (by simp) rfl d4_30 (by decide) (by decide) ⟨by rw [if_neg ((own_ovIff p0 q0 ht).mp c4)], rfl⟩
  · refine Endw.st (T' := T3) (g' := (mkF m 4 #[.val (.ref a), .val (.double (FP.ddiv (FP.i2d t) (4611686018427387904 : UInt64))), .second, .val (.int (1 : Int32))] [(.ref a), (.int (1 : Int32))])) (fun tt_ kk_ => XS.ifYes C3.here C3.hx rfl (pc0 := 26) rfl (C3.dec d4_26) rfl (XT.i0_le_t c4) (by decide) rfl (XS.iinc C3.here C3.hx rfl (C3.dec d4_31) rfl (l' := #[.val (.ref a), .val (.double (FP.ddiv (FP.i2d t) (4611686018427387904 : UInt64))), .second, .val (.int (1 : Int32))]) rfl (XS.goto C3.here C3.hx rfl (pc0 := 34) rfl (C3.dec d4_34) (by decide) rfl (XS.iloadN C3.here C3.hx rfl (C3.dec d4_2) rfl (XS.aloadN C3.here C3.hx rfl (C3.dec d4_3) rfl rfl kk_))))) ?_
    refine C3.getF (W28 hw) F0 d4_4 (pc' := 7) rfl ?_
    intro T5 C5
    show Endw p e below T5 (mkF m 7 #[.val (.ref a), .val (.double (FP.ddiv (FP.i2d t) (4611686018427387904 : UInt64))), .second, .val (.int (1 : Int32))] [(.ref b), (.int (1 : Int32))]) _
    refine C5.len V d4_7 (pc' := 8) rfl ?_
    show Endw p e below T5 (mkF m 8 #[.val (.ref a), .val (.double (FP.ddiv (FP.i2d t) (4611686018427387904 : UInt64))), .second, .val (.int (1 : Int32))] [(.int (2 : Int32)), (.int (1 : Int32))]) _
    refine Endw.st (T' := T5) (g' := (mkF m 12 #[.val (.ref a), .val (.double (FP.ddiv (FP.i2d t) (4611686018427387904 : UInt64))), .second, .val (.int (1 : Int32))] [(.ref a)])) (fun tt_ kk_ => XS.icmpNo C5.here C5.hx rfl (C5.dec d4_8) rfl (XT.ii_ge_f (by decide)) (XS.aloadN C5.here C5.hx rfl (C5.dec d4_11) rfl rfl kk_)) ?_
    refine C5.getF (W28 hw) F0 d4_12 (pc' := 15) rfl ?_
    intro T6 C6
    show Endw p e below T6 (mkF m 15 #[.val (.ref a), .val (.double (FP.ddiv (FP.i2d t) (4611686018427387904 : UInt64))), .second, .val (.int (1 : Int32))] [(.ref b)]) _
    refine Endw.st (T' := T6) (g' := (mkF m 16 #[.val (.ref a), .val (.double (FP.ddiv (FP.i2d t) (4611686018427387904 : UInt64))), .second, .val (.int (1 : Int32))] [(.int (1 : Int32)), (.ref b)])) (fun tt_ kk_ => XS.iloadN C6.here C6.hx rfl (C6.dec d4_15) rfl kk_) ?_
    refine C6.daload V ⟨by decide, by decide⟩ (v := (.double (FP.i2d x1))) rfl d4_16 (pc' := 17) rfl ?_
    show Endw p e below T6 (mkF m 17 #[.val (.ref a), .val (.double (FP.ddiv (FP.i2d t) (4611686018427387904 : UInt64))), .second, .val (.int (1 : Int32))] [(.double (FP.i2d x1))]) _
    refine Endw.st (T' := T6) (g' := (mkF m 18 #[.val (.ref a), .val (.double (FP.ddiv (FP.i2d t) (4611686018427387904 : UInt64))), .second, .val (.int (1 : Int32))] [(.ref a), (.double (FP.i2d x1))])) (fun tt_ kk_ => XS.aloadN C6.here C6.hx rfl (C6.dec d4_17) rfl rfl kk_) ?_
    refine C6.getF (W30 hw) F1 d4_18 (pc' := 21) rfl ?_
    intro T7 C7
    show Endw p e below T7 (mkF m 21 #[.val (.ref a), .val (.double (FP.ddiv (FP.i2d t) (4611686018427387904 : UInt64))), .second, .val (.int (1 : Int32))] [(.ref cc), (.double (FP.i2d x1))]) _
    refine Endw.st (T' := T7) (g' := (mkF m 22 #[.val (.ref a), .val (.double (FP.ddiv (FP.i2d t) (4611686018427387904 : UInt64))), .second, .val (.int (1 : Int32))] [(.int (1 : Int32)), (.ref cc), (.double (FP.i2d x1))])) (fun tt_ kk_ => XS.iloadN C7.here C7.hx rfl (C7.dec d4_21) rfl kk_) ?_
    refine C7.daload U ⟨by decide, by decide⟩ (v := (.double (own_up y1))) rfl d4_22 (pc' := 23) rfl ?_
    show Endw p e below T7 (mkF m 23 #[.val (.ref a), .val (.double (FP.ddiv (FP.i2d t) (4611686018427387904 : UInt64))), .second, .val (.int (1 : Int32))] [(.double (own_up y1)), (.double (FP.i2d x1))]) _
    refine Endw.st (T' := T7) (g' := (mkF m 26 #[.val (.ref a), .val (.double (FP.ddiv (FP.i2d t) (4611686018427387904 : UInt64))), .second, .val (.int (1 : Int32))] [(.int (cmpValue (FP.dcmp (FP.dsub (FP.i2d x1) (own_up y1)) (FP.ddiv (FP.i2d t) (4611686018427387904 : UInt64))) .l))])) (fun tt_ kk_ => XS.dsubS C7.here C7.hx rfl (C7.dec d4_23) rfl (own_nnDs _ _) rfl (XS.dloadN C7.here C7.hx rfl (C7.dec d4_24) rfl (XS.dcmpS C7.here C7.hx rfl (C7.dec d4_25) rfl rfl kk_))) ?_
    by_cases c8 : (0 : Int32) < (cmpValue (FP.dcmp (FP.dsub (FP.i2d x1) (own_up y1)) (FP.ddiv (FP.i2d t) (4611686018427387904 : UInt64))) .l)
    · refine Endw.st (T' := T7) (g' := (mkF m 30 #[.val (.ref a), .val (.double (FP.ddiv (FP.i2d t) (4611686018427387904 : UInt64))), .second, .val (.int (1 : Int32))] [(.int (1 : Int32))])) (fun tt_ kk_ => XS.ifNo C7.here C7.hx rfl (C7.dec d4_26) rfl (XT.i0_le_f c8) (XS.iconst C7.here C7.hx rfl (C7.dec d4_29) kk_)) ?_
      exact C7.retI (t := .boolean) rfl (by simp) rfl d4_30 (by decide) (by decide) ⟨by rw [if_pos (Decidable.not_not.mp (fun z => c4 ((own_ovIff p0 q0 ht).mpr z))), if_neg ((own_ovIff p1 q1 ht).mp c8)], rfl⟩
    · refine Endw.st (T' := T7) (g' := (mkF m 4 #[.val (.ref a), .val (.double (FP.ddiv (FP.i2d t) (4611686018427387904 : UInt64))), .second, .val (.int (2 : Int32))] [(.ref a), (.int (2 : Int32))])) (fun tt_ kk_ => XS.ifYes C7.here C7.hx rfl (pc0 := 26) rfl (C7.dec d4_26) rfl (XT.i0_le_t c8) (by decide) rfl (XS.iinc C7.here C7.hx rfl (C7.dec d4_31) rfl (l' := #[.val (.ref a), .val (.double (FP.ddiv (FP.i2d t) (4611686018427387904 : UInt64))), .second, .val (.int (2 : Int32))]) rfl (XS.goto C7.here C7.hx rfl (pc0 := 34) rfl (C7.dec d4_34) (by decide) rfl (XS.iloadN C7.here C7.hx rfl (C7.dec d4_2) rfl (XS.aloadN C7.here C7.hx rfl (C7.dec d4_3) rfl rfl kk_))))) ?_
      refine C7.getF (W28 hw) F0 d4_4 (pc' := 7) rfl ?_
      intro T9 C9
      show Endw p e below T9 (mkF m 7 #[.val (.ref a), .val (.double (FP.ddiv (FP.i2d t) (4611686018427387904 : UInt64))), .second, .val (.int (2 : Int32))] [(.ref b), (.int (2 : Int32))]) _
      refine C9.len V d4_7 (pc' := 8) rfl ?_
      show Endw p e below T9 (mkF m 8 #[.val (.ref a), .val (.double (FP.ddiv (FP.i2d t) (4611686018427387904 : UInt64))), .second, .val (.int (2 : Int32))] [(.int (2 : Int32)), (.int (2 : Int32))]) _
      refine Endw.st (T' := T9) (g' := (mkF m 38 #[.val (.ref a), .val (.double (FP.ddiv (FP.i2d t) (4611686018427387904 : UInt64))), .second, .val (.int (2 : Int32))] [(.int (0 : Int32))])) (fun tt_ kk_ => XS.icmpYes C9.here C9.hx rfl (pc0 := 8) rfl (C9.dec d4_8) rfl (XT.ii_ge_t (by decide)) (by decide) rfl (XS.iconst C9.here C9.hx rfl (C9.dec d4_37) kk_)) ?_
      exact C9.retI (t := .boolean) rfl (by simp) rfl d4_38 (by decide) (by decide) ⟨by rw [if_pos (Decidable.not_not.mp (fun z => c4 ((own_ovIff p0 q0 ht).mpr z))), if_pos (Decidable.not_not.mp (fun z => c8 ((own_ovIff p1 q1 ht).mpr z)))], rfl⟩
set_option maxRecDepth 65536 in
set_option maxHeartbeats 40000000 in
theorem rm_crossed3 (l : Launch) (Z : State) (a0 : Array Value) (EL : List (String × Nat)) (G : Glob Z a0 EL) (a b cc : Addr) (kb kc : ClassId) (t : Int32) (x0 y0 : Int32) (x1 y1 : Int32) (x2 y2 : Int32) (h : Heap) (O : Ext Z.heap h) (E0 : Exa Z h a "com/example/cohabit/cohabit/FlowBounds") (F0 : Fld Z h a "com/example/cohabit/cohabit/FlowBounds" "lower" "[D" (.ref b)) (F1 : Fld Z h a "com/example/cohabit/cohabit/FlowBounds" "upper" "[D" (.ref cc)) (V : Arv Z h b kb .double (3 : Int32) [(.double (FP.i2d x0)), (.double (FP.i2d x1)), (.double (FP.i2d x2))] (.double 0)) (U : Arv Z h cc kc .double (3 : Int32) [(.double (own_up y0)), (.double (own_up y1)), (.double (own_up y2))] (.double 0)) (p0 : Sm x0) (q0 : Sm y0) (p1 : Sm x1) (q1 : Sm y1) (p2 : Sm x2) (q2 : Sm y2) (ht : -64 < t.toInt ∧ t.toInt < 64) :
    Met l Z EL true (⟨"com/example/cohabit/cohabit/FlowBounds", "crossed", "(D)Z"⟩ : MethodName) prog_10_method_11_code 4 (some .boolean) [] ({ frames := 0, cells := 0, slots := 0, locals := 0 } : Room) #[(.ref a), (.double (FP.ddiv (FP.i2d t) (4611686018427387904 : UInt64)))] h [] (fun r h' => r = some (.int (if (own_ov x0 y0 t) = (0 : Int32) then (if (own_ov x1 y1 t) = (0 : Int32) then (if (own_ov x2 y2 t) = (0 : Int32) then 0 else 1) else 1) else 1)) ∧ h = h') := by
  have hw := G.hw
  refine Met.of (plainFor_of_name pn_426f756e6473_0) G.ew O ?_
  intro p e s m below meth c T0 C0 S0
  refine Endw.eq (g' := mkF m 0 #[.val (.ref a), .val (.double (FP.ddiv (FP.i2d t) (4611686018427387904 : UInt64))), .second, .unset] []) (by first | rfl | (simp [entryFrame, mkF, argsToLocals, own_cI, own_cR, own_cN, own_cJ, own_cD, maxLocals]; done)) ?_
  refine Endw.st (T' := T0) (g' := (mkF m 4 #[.val (.ref a), .val (.double (FP.ddiv (FP.i2d t) (4611686018427387904 : UInt64))), .second, .val (.int (0 : Int32))] [(.ref a), (.int (0 : Int32))])) (fun tt_ kk_ => XS.iconst C0.here C0.hx rfl (C0.dec d4_0) (XS.istoreN C0.here C0.hx rfl (C0.dec d4_1) rfl (l' := #[.val (.ref a), .val (.double (FP.ddiv (FP.i2d t) (4611686018427387904 : UInt64))), .second, .val (.int (0 : Int32))]) rfl (XS.iloadN C0.here C0.hx rfl (C0.dec d4_2) rfl (XS.aloadN C0.here C0.hx rfl (C0.dec d4_3) rfl rfl kk_)))) ?_
  refine C0.getF (W28 hw) F0 d4_4 (pc' := 7) rfl ?_
  intro T1 C1
  show Endw p e below T1 (mkF m 7 #[.val (.ref a), .val (.double (FP.ddiv (FP.i2d t) (4611686018427387904 : UInt64))), .second, .val (.int (0 : Int32))] [(.ref b), (.int (0 : Int32))]) _
  refine C1.len V d4_7 (pc' := 8) rfl ?_
  show Endw p e below T1 (mkF m 8 #[.val (.ref a), .val (.double (FP.ddiv (FP.i2d t) (4611686018427387904 : UInt64))), .second, .val (.int (0 : Int32))] [(.int (3 : Int32)), (.int (0 : Int32))]) _
  refine Endw.st (T' := T1) (g' := (mkF m 12 #[.val (.ref a), .val (.double (FP.ddiv (FP.i2d t) (4611686018427387904 : UInt64))), .second, .val (.int (0 : Int32))] [(.ref a)])) (fun tt_ kk_ => XS.icmpNo C1.here C1.hx rfl (C1.dec d4_8) rfl (XT.ii_ge_f (by decide)) (XS.aloadN C1.here C1.hx rfl (C1.dec d4_11) rfl rfl kk_)) ?_
  refine C1.getF (W28 hw) F0 d4_12 (pc' := 15) rfl ?_
  intro T2 C2
  show Endw p e below T2 (mkF m 15 #[.val (.ref a), .val (.double (FP.ddiv (FP.i2d t) (4611686018427387904 : UInt64))), .second, .val (.int (0 : Int32))] [(.ref b)]) _
  refine Endw.st (T' := T2) (g' := (mkF m 16 #[.val (.ref a), .val (.double (FP.ddiv (FP.i2d t) (4611686018427387904 : UInt64))), .second, .val (.int (0 : Int32))] [(.int (0 : Int32)), (.ref b)])) (fun tt_ kk_ => XS.iloadN C2.here C2.hx rfl (C2.dec d4_15) rfl kk_) ?_
  refine C2.daload V ⟨by decide, by decide⟩ (v := (.double (FP.i2d x0))) rfl d4_16 (pc' := 17) rfl ?_
  show Endw p e below T2 (mkF m 17 #[.val (.ref a), .val (.double (FP.ddiv (FP.i2d t) (4611686018427387904 : UInt64))), .second, .val (.int (0 : Int32))] [(.double (FP.i2d x0))]) _
  refine Endw.st (T' := T2) (g' := (mkF m 18 #[.val (.ref a), .val (.double (FP.ddiv (FP.i2d t) (4611686018427387904 : UInt64))), .second, .val (.int (0 : Int32))] [(.ref a), (.double (FP.i2d x0))])) (fun tt_ kk_ => XS.aloadN C2.here C2.hx rfl (C2.dec d4_17) rfl rfl kk_) ?_
  refine C2.getF (W30 hw) F1 d4_18 (pc' := 21) rfl ?_
  intro T3 C3
  show Endw p e below T3 (mkF m 21 #[.val (.ref a), .val (.double (FP.ddiv (FP.i2d t) (4611686018427387904 : UInt64))), .second, .val (.int (0 : Int32))] [(.ref cc), (.double (FP.i2d x0))]) _
  refine Endw.st (T' := T3) (g' := (mkF m 22 #[.val (.ref a), .val (.double (FP.ddiv (FP.i2d t) (4611686018427387904 : UInt64))), .second, .val (.int (0 : Int32))] [(.int (0 : Int32)), (.ref cc), (.double (FP.i2d x0))])) (fun tt_ kk_ => XS.iloadN C3.here C3.hx rfl (C3.dec d4_21) rfl kk_) ?_
  refine C3.daload U ⟨by decide, by decide⟩ (v := (.double (own_up y0))) rfl d4_22 (pc' := 23) rfl ?_
  show Endw p e below T3 (mkF m 23 #[.val (.ref a), .val (.double (FP.ddiv (FP.i2d t) (4611686018427387904 : UInt64))), .second, .val (.int (0 : Int32))] [(.double (own_up y0)), (.double (FP.i2d x0))]) _
  refine Endw.st (T' := T3) (g' := (mkF m 26 #[.val (.ref a), .val (.double (FP.ddiv (FP.i2d t) (4611686018427387904 : UInt64))), .second, .val (.int (0 : Int32))] [(.int (cmpValue (FP.dcmp (FP.dsub (FP.i2d x0) (own_up y0)) (FP.ddiv (FP.i2d t) (4611686018427387904 : UInt64))) .l))])) (fun tt_ kk_ => XS.dsubS C3.here C3.hx rfl (C3.dec d4_23) rfl (own_nnDs _ _) rfl (XS.dloadN C3.here C3.hx rfl (C3.dec d4_24) rfl (XS.dcmpS C3.here C3.hx rfl (C3.dec d4_25) rfl rfl kk_))) ?_
  by_cases c4 : (0 : Int32) < (cmpValue (FP.dcmp (FP.dsub (FP.i2d x0) (own_up y0)) (FP.ddiv (FP.i2d t) (4611686018427387904 : UInt64))) .l)
  · refine Endw.st (T' := T3) (g' := (mkF m 30 #[.val (.ref a), .val (.double (FP.ddiv (FP.i2d t) (4611686018427387904 : UInt64))), .second, .val (.int (0 : Int32))] [(.int (1 : Int32))])) (fun tt_ kk_ => XS.ifNo C3.here C3.hx rfl (C3.dec d4_26) rfl (XT.i0_le_f c4) (XS.iconst C3.here C3.hx rfl (C3.dec d4_29) kk_)) ?_
    exact C3.retI (t := .boolean) rfl (by simp) rfl d4_30 (by decide) (by decide) ⟨by rw [if_neg ((own_ovIff p0 q0 ht).mp c4)], rfl⟩
  · refine Endw.st (T' := T3) (g' := (mkF m 4 #[.val (.ref a), .val (.double (FP.ddiv (FP.i2d t) (4611686018427387904 : UInt64))), .second, .val (.int (1 : Int32))] [(.ref a), (.int (1 : Int32))])) (fun tt_ kk_ => XS.ifYes C3.here C3.hx rfl (pc0 := 26) rfl (C3.dec d4_26) rfl (XT.i0_le_t c4) (by decide) rfl (XS.iinc C3.here C3.hx rfl (C3.dec d4_31) rfl (l' := #[.val (.ref a), .val (.double (FP.ddiv (FP.i2d t) (4611686018427387904 : UInt64))), .second, .val (.int (1 : Int32))]) rfl (XS.goto C3.here C3.hx rfl (pc0 := 34) rfl (C3.dec d4_34) (by decide) rfl (XS.iloadN C3.here C3.hx rfl (C3.dec d4_2) rfl (XS.aloadN C3.here C3.hx rfl (C3.dec d4_3) rfl rfl kk_))))) ?_
    refine C3.getF (W28 hw) F0 d4_4 (pc' := 7) rfl ?_
    intro T5 C5
    show Endw p e below T5 (mkF m 7 #[.val (.ref a), .val (.double (FP.ddiv (FP.i2d t) (4611686018427387904 : UInt64))), .second, .val (.int (1 : Int32))] [(.ref b), (.int (1 : Int32))]) _
    refine C5.len V d4_7 (pc' := 8) rfl ?_
    show Endw p e below T5 (mkF m 8 #[.val (.ref a), .val (.double (FP.ddiv (FP.i2d t) (4611686018427387904 : UInt64))), .second, .val (.int (1 : Int32))] [(.int (3 : Int32)), (.int (1 : Int32))]) _
    refine Endw.st (T' := T5) (g' := (mkF m 12 #[.val (.ref a), .val (.double (FP.ddiv (FP.i2d t) (4611686018427387904 : UInt64))), .second, .val (.int (1 : Int32))] [(.ref a)])) (fun tt_ kk_ => XS.icmpNo C5.here C5.hx rfl (C5.dec d4_8) rfl (XT.ii_ge_f (by decide)) (XS.aloadN C5.here C5.hx rfl (C5.dec d4_11) rfl rfl kk_)) ?_
    refine C5.getF (W28 hw) F0 d4_12 (pc' := 15) rfl ?_
    intro T6 C6
    show Endw p e below T6 (mkF m 15 #[.val (.ref a), .val (.double (FP.ddiv (FP.i2d t) (4611686018427387904 : UInt64))), .second, .val (.int (1 : Int32))] [(.ref b)]) _
    refine Endw.st (T' := T6) (g' := (mkF m 16 #[.val (.ref a), .val (.double (FP.ddiv (FP.i2d t) (4611686018427387904 : UInt64))), .second, .val (.int (1 : Int32))] [(.int (1 : Int32)), (.ref b)])) (fun tt_ kk_ => XS.iloadN C6.here C6.hx rfl (C6.dec d4_15) rfl kk_) ?_
    refine C6.daload V ⟨by decide, by decide⟩ (v := (.double (FP.i2d x1))) rfl d4_16 (pc' := 17) rfl ?_
    show Endw p e below T6 (mkF m 17 #[.val (.ref a), .val (.double (FP.ddiv (FP.i2d t) (4611686018427387904 : UInt64))), .second, .val (.int (1 : Int32))] [(.double (FP.i2d x1))]) _
    refine Endw.st (T' := T6) (g' := (mkF m 18 #[.val (.ref a), .val (.double (FP.ddiv (FP.i2d t) (4611686018427387904 : UInt64))), .second, .val (.int (1 : Int32))] [(.ref a), (.double (FP.i2d x1))])) (fun tt_ kk_ => XS.aloadN C6.here C6.hx rfl (C6.dec d4_17) rfl rfl kk_) ?_
    refine C6.getF (W30 hw) F1 d4_18 (pc' := 21) rfl ?_
    intro T7 C7
    show Endw p e below T7 (mkF m 21 #[.val (.ref a), .val (.double (FP.ddiv (FP.i2d t) (4611686018427387904 : UInt64))), .second, .val (.int (1 : Int32))] [(.ref cc), (.double (FP.i2d x1))]) _
    refine Endw.st (T' := T7) (g' := (mkF m 22 #[.val (.ref a), .val (.double (FP.ddiv (FP.i2d t) (4611686018427387904 : UInt64))), .second, .val (.int (1 : Int32))] [(.int (1 : Int32)), (.ref cc), (.double (FP.i2d x1))])) (fun tt_ kk_ => XS.iloadN C7.here C7.hx rfl (C7.dec d4_21) rfl kk_) ?_
    refine C7.daload U ⟨by decide, by decide⟩ (v := (.double (own_up y1))) rfl d4_22 (pc' := 23) rfl ?_
    show Endw p e below T7 (mkF m 23 #[.val (.ref a), .val (.double (FP.ddiv (FP.i2d t) (4611686018427387904 : UInt64))), .second, .val (.int (1 : Int32))] [(.double (own_up y1)), (.double (FP.i2d x1))]) _
    refine Endw.st (T' := T7) (g' := (mkF m 26 #[.val (.ref a), .val (.double (FP.ddiv (FP.i2d t) (4611686018427387904 : UInt64))), .second, .val (.int (1 : Int32))] [(.int (cmpValue (FP.dcmp (FP.dsub (FP.i2d x1) (own_up y1)) (FP.ddiv (FP.i2d t) (4611686018427387904 : UInt64))) .l))])) (fun tt_ kk_ => XS.dsubS C7.here C7.hx rfl (C7.dec d4_23) rfl (own_nnDs _ _) rfl (XS.dloadN C7.here C7.hx rfl (C7.dec d4_24) rfl (XS.dcmpS C7.here C7.hx rfl (C7.dec d4_25) rfl rfl kk_))) ?_
    by_cases c8 : (0 : Int32) < (cmpValue (FP.dcmp (FP.dsub (FP.i2d x1) (own_up y1)) (FP.ddiv (FP.i2d t) (4611686018427387904 : UInt64))) .l)
    · refine Endw.st (T' := T7) (g' := (mkF m 30 #[.val (.ref a), .val (.double (FP.ddiv (FP.i2d t) (4611686018427387904 : UInt64))), .second, .val (.int (1 : Int32))] [(.int (1 : Int32))])) (fun tt_ kk_ => XS.ifNo C7.here C7.hx rfl (C7.dec d4_26) rfl (XT.i0_le_f c8) (XS.iconst C7.here C7.hx rfl (C7.dec d4_29) kk_)) ?_
      exact C7.retI (t := .boolean) rfl (by simp) rfl d4_30 (by decide) (by decide) ⟨by rw [if_pos (Decidable.not_not.mp (fun z => c4 ((own_ovIff p0 q0 ht).mpr z))), if_neg ((own_ovIff p1 q1 ht).mp c8)], rfl⟩
    · refine Endw.st (T' := T7) (g' := (mkF m 4 #[.val (.ref a), .val (.double (FP.ddiv (FP.i2d t) (4611686018427387904 : UInt64))), .second, .val (.int (2 : Int32))] [(.ref a), (.int (2 : Int32))])) (fun tt_ kk_ => XS.ifYes C7.here C7.hx rfl (pc0 := 26) rfl (C7.dec d4_26) rfl (XT.i0_le_t c8) (by decide) rfl (XS.iinc C7.here C7.hx rfl (C7.dec d4_31) rfl (l' := #[.val (.ref a), .val (.double (FP.ddiv (FP.i2d t) (4611686018427387904 : UInt64))), .second, .val (.int (2 : Int32))]) rfl (XS.goto C7.here C7.hx rfl (pc0 := 34) rfl (C7.dec d4_34) (by decide) rfl (XS.iloadN C7.here C7.hx rfl (C7.dec d4_2) rfl (XS.aloadN C7.here C7.hx rfl (C7.dec d4_3) rfl rfl kk_))))) ?_
      refine C7.getF (W28 hw) F0 d4_4 (pc' := 7) rfl ?_
      intro T9 C9
      show Endw p e below T9 (mkF m 7 #[.val (.ref a), .val (.double (FP.ddiv (FP.i2d t) (4611686018427387904 : UInt64))), .second, .val (.int (2 : Int32))] [(.ref b), (.int (2 : Int32))]) _
      refine C9.len V d4_7 (pc' := 8) rfl ?_
      show Endw p e below T9 (mkF m 8 #[.val (.ref a), .val (.double (FP.ddiv (FP.i2d t) (4611686018427387904 : UInt64))), .second, .val (.int (2 : Int32))] [(.int (3 : Int32)), (.int (2 : Int32))]) _
      refine Endw.st (T' := T9) (g' := (mkF m 12 #[.val (.ref a), .val (.double (FP.ddiv (FP.i2d t) (4611686018427387904 : UInt64))), .second, .val (.int (2 : Int32))] [(.ref a)])) (fun tt_ kk_ => XS.icmpNo C9.here C9.hx rfl (C9.dec d4_8) rfl (XT.ii_ge_f (by decide)) (XS.aloadN C9.here C9.hx rfl (C9.dec d4_11) rfl rfl kk_)) ?_
      refine C9.getF (W28 hw) F0 d4_12 (pc' := 15) rfl ?_
      intro T10 C10
      show Endw p e below T10 (mkF m 15 #[.val (.ref a), .val (.double (FP.ddiv (FP.i2d t) (4611686018427387904 : UInt64))), .second, .val (.int (2 : Int32))] [(.ref b)]) _
      refine Endw.st (T' := T10) (g' := (mkF m 16 #[.val (.ref a), .val (.double (FP.ddiv (FP.i2d t) (4611686018427387904 : UInt64))), .second, .val (.int (2 : Int32))] [(.int (2 : Int32)), (.ref b)])) (fun tt_ kk_ => XS.iloadN C10.here C10.hx rfl (C10.dec d4_15) rfl kk_) ?_
      refine C10.daload V ⟨by decide, by decide⟩ (v := (.double (FP.i2d x2))) rfl d4_16 (pc' := 17) rfl ?_
      show Endw p e below T10 (mkF m 17 #[.val (.ref a), .val (.double (FP.ddiv (FP.i2d t) (4611686018427387904 : UInt64))), .second, .val (.int (2 : Int32))] [(.double (FP.i2d x2))]) _
      refine Endw.st (T' := T10) (g' := (mkF m 18 #[.val (.ref a), .val (.double (FP.ddiv (FP.i2d t) (4611686018427387904 : UInt64))), .second, .val (.int (2 : Int32))] [(.ref a), (.double (FP.i2d x2))])) (fun tt_ kk_ => XS.aloadN C10.here C10.hx rfl (C10.dec d4_17) rfl rfl kk_) ?_
      refine C10.getF (W30 hw) F1 d4_18 (pc' := 21) rfl ?_
      intro T11 C11
      show Endw p e below T11 (mkF m 21 #[.val (.ref a), .val (.double (FP.ddiv (FP.i2d t) (4611686018427387904 : UInt64))), .second, .val (.int (2 : Int32))] [(.ref cc), (.double (FP.i2d x2))]) _
      refine Endw.st (T' := T11) (g' := (mkF m 22 #[.val (.ref a), .val (.double (FP.ddiv (FP.i2d t) (4611686018427387904 : UInt64))), .second, .val (.int (2 : Int32))] [(.int (2 : Int32)), (.ref cc), (.double (FP.i2d x2))])) (fun tt_ kk_ => XS.iloadN C11.here C11.hx rfl (C11.dec d4_21) rfl kk_) ?_
      refine C11.daload U ⟨by decide, by decide⟩ (v := (.double (own_up y2))) rfl d4_22 (pc' := 23) rfl ?_
      show Endw p e below T11 (mkF m 23 #[.val (.ref a), .val (.double (FP.ddiv (FP.i2d t) (4611686018427387904 : UInt64))), .second, .val (.int (2 : Int32))] [(.double (own_up y2)), (.double (FP.i2d x2))]) _
      refine Endw.st (T' := T11) (g' := (mkF m 26 #[.val (.ref a), .val (.double (FP.ddiv (FP.i2d t) (4611686018427387904 : UInt64))), .second, .val (.int (2 : Int32))] [(.int (cmpValue (FP.dcmp (FP.dsub (FP.i2d x2) (own_up y2)) (FP.ddiv (FP.i2d t) (4611686018427387904 : UInt64))) .l))])) (fun tt_ kk_ => XS.dsubS C11.here C11.hx rfl (C11.dec d4_23) rfl (own_nnDs _ _) rfl (XS.dloadN C11.here C11.hx rfl (C11.dec d4_24) rfl (XS.dcmpS C11.here C11.hx rfl (C11.dec d4_25) rfl rfl kk_))) ?_
      by_cases c12 : (0 : Int32) < (cmpValue (FP.dcmp (FP.dsub (FP.i2d x2) (own_up y2)) (FP.ddiv (FP.i2d t) (4611686018427387904 : UInt64))) .l)
      · refine Endw.st (T' := T11) (g' := (mkF m 30 #[.val (.ref a), .val (.double (FP.ddiv (FP.i2d t) (4611686018427387904 : UInt64))), .second, .val (.int (2 : Int32))] [(.int (1 : Int32))])) (fun tt_ kk_ => XS.ifNo C11.here C11.hx rfl (C11.dec d4_26) rfl (XT.i0_le_f c12) (XS.iconst C11.here C11.hx rfl (C11.dec d4_29) kk_)) ?_
        exact C11.retI (t := .boolean) rfl (by simp) rfl d4_30 (by decide) (by decide) ⟨by rw [if_pos (Decidable.not_not.mp (fun z => c4 ((own_ovIff p0 q0 ht).mpr z))), if_pos (Decidable.not_not.mp (fun z => c8 ((own_ovIff p1 q1 ht).mpr z))), if_neg ((own_ovIff p2 q2 ht).mp c12)], rfl⟩
      · refine Endw.st (T' := T11) (g' := (mkF m 4 #[.val (.ref a), .val (.double (FP.ddiv (FP.i2d t) (4611686018427387904 : UInt64))), .second, .val (.int (3 : Int32))] [(.ref a), (.int (3 : Int32))])) (fun tt_ kk_ => XS.ifYes C11.here C11.hx rfl (pc0 := 26) rfl (C11.dec d4_26) rfl (XT.i0_le_t c12) (by decide) rfl (XS.iinc C11.here C11.hx rfl (C11.dec d4_31) rfl (l' := #[.val (.ref a), .val (.double (FP.ddiv (FP.i2d t) (4611686018427387904 : UInt64))), .second, .val (.int (3 : Int32))]) rfl (XS.goto C11.here C11.hx rfl (pc0 := 34) rfl (C11.dec d4_34) (by decide) rfl (XS.iloadN C11.here C11.hx rfl (C11.dec d4_2) rfl (XS.aloadN C11.here C11.hx rfl (C11.dec d4_3) rfl rfl kk_))))) ?_
        refine C11.getF (W28 hw) F0 d4_4 (pc' := 7) rfl ?_
        intro T13 C13
        show Endw p e below T13 (mkF m 7 #[.val (.ref a), .val (.double (FP.ddiv (FP.i2d t) (4611686018427387904 : UInt64))), .second, .val (.int (3 : Int32))] [(.ref b), (.int (3 : Int32))]) _
        refine C13.len V d4_7 (pc' := 8) rfl ?_
        show Endw p e below T13 (mkF m 8 #[.val (.ref a), .val (.double (FP.ddiv (FP.i2d t) (4611686018427387904 : UInt64))), .second, .val (.int (3 : Int32))] [(.int (3 : Int32)), (.int (3 : Int32))]) _
        refine Endw.st (T' := T13) (g' := (mkF m 38 #[.val (.ref a), .val (.double (FP.ddiv (FP.i2d t) (4611686018427387904 : UInt64))), .second, .val (.int (3 : Int32))] [(.int (0 : Int32))])) (fun tt_ kk_ => XS.icmpYes C13.here C13.hx rfl (pc0 := 8) rfl (C13.dec d4_8) rfl (XT.ii_ge_t (by decide)) (by decide) rfl (XS.iconst C13.here C13.hx rfl (C13.dec d4_37) kk_)) ?_
        exact C13.retI (t := .boolean) rfl (by simp) rfl d4_38 (by decide) (by decide) ⟨by rw [if_pos (Decidable.not_not.mp (fun z => c4 ((own_ovIff p0 q0 ht).mpr z))), if_pos (Decidable.not_not.mp (fun z => c8 ((own_ovIff p1 q1 ht).mpr z))), if_pos (Decidable.not_not.mp (fun z => c12 ((own_ovIff p2 q2 ht).mpr z)))], rfl⟩
set_option maxRecDepth 65536 in
set_option maxHeartbeats 40000000 in
theorem rm_law (l : Launch) (Z : State) (a0 : Array Value) (EL : List (String × Nat)) (G : Glob Z a0 EL) (i0 i1 i2 i3 i4 i5 : Int32) (h : Heap) (O : Ext Z.heap h)  :
    Met l Z EL true x code maxLocals ret tables_1 room_1 #[(.int i0), (.int i1), (.int i2), (.int i3), (.int i4), (.int i5)] h [] (fun r h' => r = some (.int 1)) := by
  have hw := G.hw
  refine Met.of (plainFor_of_name pn_50696e4c6177_1) G.ew O ?_
  intro p e s m below meth c T0 C0 S0
  refine Endw.eq (g' := mkF m 0 #[.val (.int i0), .val (.int i1), .val (.int i2), .val (.int i3), .val (.int i4), .val (.int i5), .unset, .unset, .unset, .unset, .unset, .unset, .unset, .unset, .unset, .unset, .unset, .unset, .unset, .unset] []) (by simp [entryFrame, mkF, argsToLocals, own_cI, own_cR, own_cN, own_cJ, own_cD, maxLocals]) ?_
  refine Endw.st (T' := T0) (g' := (mkF m 12 #[.val (.int i0), .val (.int i1), .val (.int i2), .val (.int i3), .val (.int i4), .val (.int i5), .val (.int (i5 &&& (3 : Int32))), .val (.int (i0 &&& (31 : Int32))), .unset, .unset, .unset, .unset, .unset, .unset, .unset, .unset, .unset, .unset, .unset, .unset] [])) (fun tt_ kk_ => XS.iload C0.here C0.hx rfl (C0.dec at_0) rfl (XS.iconst C0.here C0.hx rfl (C0.dec at_2) (XS.iand C0.here C0.hx rfl (C0.dec at_3) rfl (XS.istore C0.here C0.hx rfl (C0.dec at_4) rfl (l' := #[.val (.int i0), .val (.int i1), .val (.int i2), .val (.int i3), .val (.int i4), .val (.int i5), .val (.int (i5 &&& (3 : Int32))), .unset, .unset, .unset, .unset, .unset, .unset, .unset, .unset, .unset, .unset, .unset, .unset, .unset]) rfl (XS.iloadN C0.here C0.hx rfl (C0.dec at_6) rfl (XS.bipush C0.here C0.hx rfl (C0.dec at_7) (XS.iand C0.here C0.hx rfl (C0.dec at_9) rfl (XS.istore C0.here C0.hx rfl (C0.dec at_10) rfl (l' := #[.val (.int i0), .val (.int i1), .val (.int i2), .val (.int i3), .val (.int i4), .val (.int i5), .val (.int (i5 &&& (3 : Int32))), .val (.int (i0 &&& (31 : Int32))), .unset, .unset, .unset, .unset, .unset, .unset, .unset, .unset, .unset, .unset, .unset, .unset]) rfl kk_)))))))) ?_
  refine Endw.st (T' := T0) (g' := (mkF m 24 #[.val (.int i0), .val (.int i1), .val (.int i2), .val (.int i3), .val (.int i4), .val (.int i5), .val (.int (i5 &&& (3 : Int32))), .val (.int (i0 &&& (31 : Int32))), .val (.int (i1 &&& (31 : Int32))), .val (.int (i2 &&& (31 : Int32))), .unset, .unset, .unset, .unset, .unset, .unset, .unset, .unset, .unset, .unset] [])) (fun tt_ kk_ => XS.iloadN C0.here C0.hx rfl (C0.dec at_12) rfl (XS.bipush C0.here C0.hx rfl (C0.dec at_13) (XS.iand C0.here C0.hx rfl (C0.dec at_15) rfl (XS.istore C0.here C0.hx rfl (C0.dec at_16) rfl (l' := #[.val (.int i0), .val (.int i1), .val (.int i2), .val (.int i3), .val (.int i4), .val (.int i5), .val (.int (i5 &&& (3 : Int32))), .val (.int (i0 &&& (31 : Int32))), .val (.int (i1 &&& (31 : Int32))), .unset, .unset, .unset, .unset, .unset, .unset, .unset, .unset, .unset, .unset, .unset]) rfl (XS.iloadN C0.here C0.hx rfl (C0.dec at_18) rfl (XS.bipush C0.here C0.hx rfl (C0.dec at_19) (XS.iand C0.here C0.hx rfl (C0.dec at_21) rfl (XS.istore C0.here C0.hx rfl (C0.dec at_22) rfl (l' := #[.val (.int i0), .val (.int i1), .val (.int i2), .val (.int i3), .val (.int i4), .val (.int i5), .val (.int (i5 &&& (3 : Int32))), .val (.int (i0 &&& (31 : Int32))), .val (.int (i1 &&& (31 : Int32))), .val (.int (i2 &&& (31 : Int32))), .unset, .unset, .unset, .unset, .unset, .unset, .unset, .unset, .unset, .unset]) rfl kk_)))))))) ?_
  refine Endw.st (T' := T0) (g' := (mkF m 35 #[.val (.int i0), .val (.int i1), .val (.int i2), .val (.int i3), .val (.int i4), .val (.int i5), .val (.int (i5 &&& (3 : Int32))), .val (.int (i0 &&& (31 : Int32))), .val (.int (i1 &&& (31 : Int32))), .val (.int (i2 &&& (31 : Int32))), .val (.int (i3 &&& (31 : Int32))), .unset, .unset, .unset, .unset, .unset, .unset, .unset, .unset, .unset] [(.int (31 : Int32)), (.int ((i3.toUInt32 >>> ((5 : Int32) &&& 31).toUInt32).toInt32))])) (fun tt_ kk_ => XS.iloadN C0.here C0.hx rfl (C0.dec at_24) rfl (XS.bipush C0.here C0.hx rfl (C0.dec at_25) (XS.iand C0.here C0.hx rfl (C0.dec at_27) rfl (XS.istore C0.here C0.hx rfl (C0.dec at_28) rfl (l' := #[.val (.int i0), .val (.int i1), .val (.int i2), .val (.int i3), .val (.int i4), .val (.int i5), .val (.int (i5 &&& (3 : Int32))), .val (.int (i0 &&& (31 : Int32))), .val (.int (i1 &&& (31 : Int32))), .val (.int (i2 &&& (31 : Int32))), .val (.int (i3 &&& (31 : Int32))), .unset, .unset, .unset, .unset, .unset, .unset, .unset, .unset, .unset]) rfl (XS.iloadN C0.here C0.hx rfl (C0.dec at_30) rfl (XS.iconst C0.here C0.hx rfl (C0.dec at_31) (XS.iushr C0.here C0.hx rfl (C0.dec at_32) rfl (XS.bipush C0.here C0.hx rfl (C0.dec at_33) kk_)))))))) ?_
  refine Endw.st (T' := T0) (g' := (mkF m 47 #[.val (.int i0), .val (.int i1), .val (.int i2), .val (.int i3), .val (.int i4), .val (.int i5), .val (.int (i5 &&& (3 : Int32))), .val (.int (i0 &&& (31 : Int32))), .val (.int (i1 &&& (31 : Int32))), .val (.int (i2 &&& (31 : Int32))), .val (.int (i3 &&& (31 : Int32))), .val (.int (((i3.toUInt32 >>> ((5 : Int32) &&& 31).toUInt32).toInt32) &&& (31 : Int32))), .val (.int (((i3.toUInt32 >>> ((10 : Int32) &&& 31).toUInt32).toInt32) &&& (31 : Int32))), .unset, .unset, .unset, .unset, .unset, .unset, .unset] [])) (fun tt_ kk_ => XS.iand C0.here C0.hx rfl (C0.dec at_35) rfl (XS.istore C0.here C0.hx rfl (C0.dec at_36) rfl (l' := #[.val (.int i0), .val (.int i1), .val (.int i2), .val (.int i3), .val (.int i4), .val (.int i5), .val (.int (i5 &&& (3 : Int32))), .val (.int (i0 &&& (31 : Int32))), .val (.int (i1 &&& (31 : Int32))), .val (.int (i2 &&& (31 : Int32))), .val (.int (i3 &&& (31 : Int32))), .val (.int (((i3.toUInt32 >>> ((5 : Int32) &&& 31).toUInt32).toInt32) &&& (31 : Int32))), .unset, .unset, .unset, .unset, .unset, .unset, .unset, .unset]) rfl (XS.iloadN C0.here C0.hx rfl (C0.dec at_38) rfl (XS.bipush C0.here C0.hx rfl (C0.dec at_39) (XS.iushr C0.here C0.hx rfl (C0.dec at_41) rfl (XS.bipush C0.here C0.hx rfl (C0.dec at_42) (XS.iand C0.here C0.hx rfl (C0.dec at_44) rfl (XS.istore C0.here C0.hx rfl (C0.dec at_45) rfl (l' := #[.val (.int i0), .val (.int i1), .val (.int i2), .val (.int i3), .val (.int i4), .val (.int i5), .val (.int (i5 &&& (3 : Int32))), .val (.int (i0 &&& (31 : Int32))), .val (.int (i1 &&& (31 : Int32))), .val (.int (i2 &&& (31 : Int32))), .val (.int (i3 &&& (31 : Int32))), .val (.int (((i3.toUInt32 >>> ((5 : Int32) &&& 31).toUInt32).toInt32) &&& (31 : Int32))), .val (.int (((i3.toUInt32 >>> ((10 : Int32) &&& 31).toUInt32).toInt32) &&& (31 : Int32))), .unset, .unset, .unset, .unset, .unset, .unset, .unset]) rfl kk_)))))))) ?_
  refine Endw.st (T' := T0) (g' := (mkF m 61 #[.val (.int i0), .val (.int i1), .val (.int i2), .val (.int i3), .val (.int i4), .val (.int i5), .val (.int (i5 &&& (3 : Int32))), .val (.int (i0 &&& (31 : Int32))), .val (.int (i1 &&& (31 : Int32))), .val (.int (i2 &&& (31 : Int32))), .val (.int (i3 &&& (31 : Int32))), .val (.int (((i3.toUInt32 >>> ((5 : Int32) &&& 31).toUInt32).toInt32) &&& (31 : Int32))), .val (.int (((i3.toUInt32 >>> ((10 : Int32) &&& 31).toUInt32).toInt32) &&& (31 : Int32))), .val (.int (i4 % (64 : Int32))), .unset, .unset, .unset, .unset, .unset, .unset] [(.double (FP.ddiv (FP.i2d (i4 % (64 : Int32))) (4611686018427387904 : UInt64)))])) (fun tt_ kk_ => XS.iload C0.here C0.hx rfl (C0.dec at_47) rfl (XS.bipush C0.here C0.hx rfl (C0.dec at_49) (own_irem C0 rfl at_51 rfl (by decide) (XS.istore C0.here C0.hx rfl (C0.dec at_52) rfl (l' := #[.val (.int i0), .val (.int i1), .val (.int i2), .val (.int i3), .val (.int i4), .val (.int i5), .val (.int (i5 &&& (3 : Int32))), .val (.int (i0 &&& (31 : Int32))), .val (.int (i1 &&& (31 : Int32))), .val (.int (i2 &&& (31 : Int32))), .val (.int (i3 &&& (31 : Int32))), .val (.int (((i3.toUInt32 >>> ((5 : Int32) &&& 31).toUInt32).toInt32) &&& (31 : Int32))), .val (.int (((i3.toUInt32 >>> ((10 : Int32) &&& 31).toUInt32).toInt32) &&& (31 : Int32))), .val (.int (i4 % (64 : Int32))), .unset, .unset, .unset, .unset, .unset, .unset]) rfl (XS.iload C0.here C0.hx rfl (C0.dec at_54) rfl (XS.i2dS C0.here C0.hx rfl (C0.dec at_56) rfl rfl (own_ldc2D C0 (W0 hw) rfl at_57 (XS.ddivS C0.here C0.hx rfl (C0.dec at_60) rfl (own_nnHalfI _) rfl kk_)))))))) ?_
  refine Endw.st (T' := T0) (g' := (mkF m 63 #[.val (.int i0), .val (.int i1), .val (.int i2), .val (.int i3), .val (.int i4), .val (.int i5), .val (.int (i5 &&& (3 : Int32))), .val (.int (i0 &&& (31 : Int32))), .val (.int (i1 &&& (31 : Int32))), .val (.int (i2 &&& (31 : Int32))), .val (.int (i3 &&& (31 : Int32))), .val (.int (((i3.toUInt32 >>> ((5 : Int32) &&& 31).toUInt32).toInt32) &&& (31 : Int32))), .val (.int (((i3.toUInt32 >>> ((10 : Int32) &&& 31).toUInt32).toInt32) &&& (31 : Int32))), .val (.int (i4 % (64 : Int32))), .val (.double (FP.ddiv (FP.i2d (i4 % (64 : Int32))) (4611686018427387904 : UInt64))), .second, .unset, .unset, .unset, .unset] [])) (fun tt_ kk_ => XS.dstore C0.here C0.hx rfl (C0.dec at_61) rfl (l' := #[.val (.int i0), .val (.int i1), .val (.int i2), .val (.int i3), .val (.int i4), .val (.int i5), .val (.int (i5 &&& (3 : Int32))), .val (.int (i0 &&& (31 : Int32))), .val (.int (i1 &&& (31 : Int32))), .val (.int (i2 &&& (31 : Int32))), .val (.int (i3 &&& (31 : Int32))), .val (.int (((i3.toUInt32 >>> ((5 : Int32) &&& 31).toUInt32).toInt32) &&& (31 : Int32))), .val (.int (((i3.toUInt32 >>> ((10 : Int32) &&& 31).toUInt32).toInt32) &&& (31 : Int32))), .val (.int (i4 % (64 : Int32))), .val (.double (FP.ddiv (FP.i2d (i4 % (64 : Int32))) (4611686018427387904 : UInt64))), .second, .unset, .unset, .unset, .unset]) rfl kk_) ?_
  have sxa0 := own_sm31 i0
  generalize (i0 &&& (31 : Int32)) = xa0 at sxa0 ⊢
  have sxa1 := own_sm31 i1
  generalize (i1 &&& (31 : Int32)) = xa1 at sxa1 ⊢
  have sxa2 := own_sm31 i2
  generalize (i2 &&& (31 : Int32)) = xa2 at sxa2 ⊢
  have sxb0 := own_sm31 i3
  generalize (i3 &&& (31 : Int32)) = xb0 at sxb0 ⊢
  have sxb1 := own_sm31 ((i3.toUInt32 >>> ((5 : Int32) &&& 31).toUInt32).toInt32)
  generalize (((i3.toUInt32 >>> ((5 : Int32) &&& 31).toUInt32).toInt32) &&& (31 : Int32)) = xb1 at sxb1 ⊢
  have sxb2 := own_sm31 ((i3.toUInt32 >>> ((10 : Int32) &&& 31).toUInt32).toInt32)
  generalize (((i3.toUInt32 >>> ((10 : Int32) &&& 31).toUInt32).toInt32) &&& (31 : Int32)) = xb2 at sxb2 ⊢
  have sxt := own_t64 i4
  generalize (i4 % (64 : Int32)) = xt at sxt ⊢
  show Endw p e below T0 (mkF m 63 #[.val (.int i0), .val (.int i1), .val (.int i2), .val (.int i3), .val (.int i4), .val (.int i5), .val (.int (i5 &&& (3 : Int32))), .val (.int xa0), .val (.int xa1), .val (.int xa2), .val (.int xb0), .val (.int xb1), .val (.int xb2), .val (.int xt), .val (.double (FP.ddiv (FP.i2d xt) (4611686018427387904 : UInt64))), .second, .unset, .unset, .unset, .unset] []) _
  rcases own_and3 i5 with e3 | e3 | e3 | e3
  · rw [e3]
    show Endw p e below T0 (mkF m 63 #[.val (.int i0), .val (.int i1), .val (.int i2), .val (.int i3), .val (.int i4), .val (.int i5), .val (.int (0 : Int32)), .val (.int xa0), .val (.int xa1), .val (.int xa2), .val (.int xb0), .val (.int xb1), .val (.int xb2), .val (.int xt), .val (.double (FP.ddiv (FP.i2d xt) (4611686018427387904 : UInt64))), .second, .unset, .unset, .unset, .unset] []) _
    refine Endw.st (T' := T0) (g' := (mkF m 74 #[.val (.int i0), .val (.int i1), .val (.int i2), .val (.int i3), .val (.int i4), .val (.int i5), .val (.int (0 : Int32)), .val (.int xa0), .val (.int xa1), .val (.int xa2), .val (.int xb0), .val (.int xb1), .val (.int xb2), .val (.int xt), .val (.double (FP.ddiv (FP.i2d xt) (4611686018427387904 : UInt64))), .second, .unset, .unset, .unset, .unset] [(.double (FP.i2d xa2)), (.double (FP.i2d xa1)), (.double (FP.i2d xa0)), (.int (0 : Int32))])) (fun tt_ kk_ => XS.iload C0.here C0.hx rfl (C0.dec at_63) rfl (XS.iload C0.here C0.hx rfl (C0.dec at_65) rfl (XS.i2dS C0.here C0.hx rfl (C0.dec at_67) rfl rfl (XS.iload C0.here C0.hx rfl (C0.dec at_68) rfl (XS.i2dS C0.here C0.hx rfl (C0.dec at_70) rfl rfl (XS.iload C0.here C0.hx rfl (C0.dec at_71) rfl (XS.i2dS C0.here C0.hx rfl (C0.dec at_73) rfl rfl kk_))))))) ?_
    refine C0.static (y := (⟨"com/example/cohabit/cohabit/FlowBoundsCrossedPinLaw", "take", "(IDDD)[D"⟩ : MethodName)) (W := 0) (argsL := [(.int (0 : Int32)), (.double (FP.i2d xa0)), (.double (FP.i2d xa1)), (.double (FP.i2d xa2))]) (rest := []) (W1 hw) (W2 hw) (W4 hw) (W3 hw) (by decide) (rm_take0 l Z a0 EL G (FP.i2d xa0) (FP.i2d xa1) (FP.i2d xa2) h C0.old) (fun _ => rfl) rfl all0 (by decide) (by decide) (by decide) (by decide) (lenOf pd_2849444444295b44 rfl) rfl (Nat.le_of_ble_eq_true rfl) rfl at_74 (pc' := 77) rfl ?_
    intro vm1 T1 h1 v1 C1 A1 M1 q1
    obtain ⟨d1, kd1, rfl, K1, ge1, zg1, V1, E1⟩ := q1
    show Endw p e below T1 (mkF m 77 #[.val (.int i0), .val (.int i1), .val (.int i2), .val (.int i3), .val (.int i4), .val (.int i5), .val (.int (0 : Int32)), .val (.int xa0), .val (.int xa1), .val (.int xa2), .val (.int xb0), .val (.int xb1), .val (.int xb2), .val (.int xt), .val (.double (FP.ddiv (FP.i2d xt) (4611686018427387904 : UInt64))), .second, .unset, .unset, .unset, .unset] [(.ref d1)]) _
    refine Endw.st (T' := T1) (g' := (mkF m 83 #[.val (.int i0), .val (.int i1), .val (.int i2), .val (.int i3), .val (.int i4), .val (.int i5), .val (.int (0 : Int32)), .val (.int xa0), .val (.int xa1), .val (.int xa2), .val (.int xb0), .val (.int xb1), .val (.int xb2), .val (.int xt), .val (.double (FP.ddiv (FP.i2d xt) (4611686018427387904 : UInt64))), .second, .val (.ref d1), .unset, .unset, .unset] [(.int xb0), (.int (0 : Int32))])) (fun tt_ kk_ => XS.astore C1.here C1.hx rfl (C1.dec at_77) rfl rfl (l' := #[.val (.int i0), .val (.int i1), .val (.int i2), .val (.int i3), .val (.int i4), .val (.int i5), .val (.int (0 : Int32)), .val (.int xa0), .val (.int xa1), .val (.int xa2), .val (.int xb0), .val (.int xb1), .val (.int xb2), .val (.int xt), .val (.double (FP.ddiv (FP.i2d xt) (4611686018427387904 : UInt64))), .second, .val (.ref d1), .unset, .unset, .unset]) rfl (XS.iload C1.here C1.hx rfl (C1.dec at_79) rfl (XS.iload C1.here C1.hx rfl (C1.dec at_81) rfl kk_))) ?_
    refine C1.static (y := (⟨"com/example/cohabit/cohabit/FlowBoundsCrossedPinLaw", "up", "(I)D"⟩ : MethodName)) (W := 1) (argsL := [(.int xb0)]) (rest := [(.int (0 : Int32))]) (W6 hw) (W7 hw) (W8 hw) (W3 hw) (by decide) (rm_up l Z a0 EL G xb0 h1 C1.old) (fun _ => rfl) rfl all0 (by decide) (by decide) (by decide) (by decide) (lenOf pd_28492944 rfl) rfl (Nat.le_of_ble_eq_true rfl) rfl at_83 (pc' := 86) rfl ?_
    intro vm2 T2 h2 v2 C2 A2 M2 q2
    obtain ⟨rfl, rfl⟩ := q2
    show Endw p e below T2 (mkF m 86 #[.val (.int i0), .val (.int i1), .val (.int i2), .val (.int i3), .val (.int i4), .val (.int i5), .val (.int (0 : Int32)), .val (.int xa0), .val (.int xa1), .val (.int xa2), .val (.int xb0), .val (.int xb1), .val (.int xb2), .val (.int xt), .val (.double (FP.ddiv (FP.i2d xt) (4611686018427387904 : UInt64))), .second, .val (.ref d1), .unset, .unset, .unset] [(.double (own_up xb0)), (.int (0 : Int32))]) _
    refine Endw.st (T' := T2) (g' := (mkF m 88 #[.val (.int i0), .val (.int i1), .val (.int i2), .val (.int i3), .val (.int i4), .val (.int i5), .val (.int (0 : Int32)), .val (.int xa0), .val (.int xa1), .val (.int xa2), .val (.int xb0), .val (.int xb1), .val (.int xb2), .val (.int xt), .val (.double (FP.ddiv (FP.i2d xt) (4611686018427387904 : UInt64))), .second, .val (.ref d1), .unset, .unset, .unset] [(.int xb1), (.double (own_up xb0)), (.int (0 : Int32))])) (fun tt_ kk_ => XS.iload C2.here C2.hx rfl (C2.dec at_86) rfl kk_) ?_
    refine C2.static (y := (⟨"com/example/cohabit/cohabit/FlowBoundsCrossedPinLaw", "up", "(I)D"⟩ : MethodName)) (W := 3) (argsL := [(.int xb1)]) (rest := [(.double (own_up xb0)), (.int (0 : Int32))]) (W6 hw) (W7 hw) (W8 hw) (W3 hw) (by decide) (rm_up l Z a0 EL G xb1 h1 C2.old) (fun _ => rfl) rfl all0 (by decide) (by decide) (by decide) (by decide) (lenOf pd_28492944 rfl) rfl (Nat.le_of_ble_eq_true rfl) rfl at_88 (pc' := 91) rfl ?_
    intro vm3 T3 h3 v3 C3 A3 M3 q3
    obtain ⟨rfl, rfl⟩ := q3
    show Endw p e below T3 (mkF m 91 #[.val (.int i0), .val (.int i1), .val (.int i2), .val (.int i3), .val (.int i4), .val (.int i5), .val (.int (0 : Int32)), .val (.int xa0), .val (.int xa1), .val (.int xa2), .val (.int xb0), .val (.int xb1), .val (.int xb2), .val (.int xt), .val (.double (FP.ddiv (FP.i2d xt) (4611686018427387904 : UInt64))), .second, .val (.ref d1), .unset, .unset, .unset] [(.double (own_up xb1)), (.double (own_up xb0)), (.int (0 : Int32))]) _
    refine Endw.st (T' := T3) (g' := (mkF m 93 #[.val (.int i0), .val (.int i1), .val (.int i2), .val (.int i3), .val (.int i4), .val (.int i5), .val (.int (0 : Int32)), .val (.int xa0), .val (.int xa1), .val (.int xa2), .val (.int xb0), .val (.int xb1), .val (.int xb2), .val (.int xt), .val (.double (FP.ddiv (FP.i2d xt) (4611686018427387904 : UInt64))), .second, .val (.ref d1), .unset, .unset, .unset] [(.int xb2), (.double (own_up xb1)), (.double (own_up xb0)), (.int (0 : Int32))])) (fun tt_ kk_ => XS.iload C3.here C3.hx rfl (C3.dec at_91) rfl kk_) ?_
    refine C3.static (y := (⟨"com/example/cohabit/cohabit/FlowBoundsCrossedPinLaw", "up", "(I)D"⟩ : MethodName)) (W := 5) (argsL := [(.int xb2)]) (rest := [(.double (own_up xb1)), (.double (own_up xb0)), (.int (0 : Int32))]) (W6 hw) (W7 hw) (W8 hw) (W3 hw) (by decide) (rm_up l Z a0 EL G xb2 h1 C3.old) (fun _ => rfl) rfl all0 (by decide) (by decide) (by decide) (by decide) (lenOf pd_28492944 rfl) rfl (Nat.le_of_ble_eq_true rfl) rfl at_93 (pc' := 96) rfl ?_
    intro vm4 T4 h4 v4 C4 A4 M4 q4
    obtain ⟨rfl, rfl⟩ := q4
    show Endw p e below T4 (mkF m 96 #[.val (.int i0), .val (.int i1), .val (.int i2), .val (.int i3), .val (.int i4), .val (.int i5), .val (.int (0 : Int32)), .val (.int xa0), .val (.int xa1), .val (.int xa2), .val (.int xb0), .val (.int xb1), .val (.int xb2), .val (.int xt), .val (.double (FP.ddiv (FP.i2d xt) (4611686018427387904 : UInt64))), .second, .val (.ref d1), .unset, .unset, .unset] [(.double (own_up xb2)), (.double (own_up xb1)), (.double (own_up xb0)), (.int (0 : Int32))]) _
    refine C4.static (y := (⟨"com/example/cohabit/cohabit/FlowBoundsCrossedPinLaw", "take", "(IDDD)[D"⟩ : MethodName)) (W := 0) (argsL := [(.int (0 : Int32)), (.double (own_up xb0)), (.double (own_up xb1)), (.double (own_up xb2))]) (rest := []) (W1 hw) (W2 hw) (W4 hw) (W3 hw) (by decide) (rm_take0 l Z a0 EL G (own_up xb0) (own_up xb1) (own_up xb2) h1 C4.old) (fun _ => rfl) rfl all0 (by decide) (by decide) (by decide) (by decide) (lenOf pd_2849444444295b44 rfl) rfl (Nat.le_of_ble_eq_true rfl) rfl at_96 (pc' := 99) rfl ?_
    intro vm5 T5 h5 v5 C5 A5 M5 q5
    obtain ⟨d5, kd5, rfl, K5, ge5, zg5, V5, E5⟩ := q5
    show Endw p e below T5 (mkF m 99 #[.val (.int i0), .val (.int i1), .val (.int i2), .val (.int i3), .val (.int i4), .val (.int i5), .val (.int (0 : Int32)), .val (.int xa0), .val (.int xa1), .val (.int xa2), .val (.int xb0), .val (.int xb1), .val (.int xb2), .val (.int xt), .val (.double (FP.ddiv (FP.i2d xt) (4611686018427387904 : UInt64))), .second, .val (.ref d1), .unset, .unset, .unset] [(.ref d5)]) _
    refine Endw.st (T' := T5) (g' := (mkF m 101 #[.val (.int i0), .val (.int i1), .val (.int i2), .val (.int i3), .val (.int i4), .val (.int i5), .val (.int (0 : Int32)), .val (.int xa0), .val (.int xa1), .val (.int xa2), .val (.int xb0), .val (.int xb1), .val (.int xb2), .val (.int xt), .val (.double (FP.ddiv (FP.i2d xt) (4611686018427387904 : UInt64))), .second, .val (.ref d1), .val (.ref d5), .unset, .unset] [])) (fun tt_ kk_ => XS.astore C5.here C5.hx rfl (C5.dec at_99) rfl rfl (l' := #[.val (.int i0), .val (.int i1), .val (.int i2), .val (.int i3), .val (.int i4), .val (.int i5), .val (.int (0 : Int32)), .val (.int xa0), .val (.int xa1), .val (.int xa2), .val (.int xb0), .val (.int xb1), .val (.int xb2), .val (.int xt), .val (.double (FP.ddiv (FP.i2d xt) (4611686018427387904 : UInt64))), .second, .val (.ref d1), .val (.ref d5), .unset, .unset]) rfl kk_) ?_
    refine C5.new (W9 hw) (W10 hw) (W11 hw) at_101 (pc' := 104) rfl (by decide) (by decide) ?_
    intro T6 h6 a6 C6 K6 A6 ge6 zg6 E6 D6 S6
    show Endw p e below T6 (mkF m 104 #[.val (.int i0), .val (.int i1), .val (.int i2), .val (.int i3), .val (.int i4), .val (.int i5), .val (.int (0 : Int32)), .val (.int xa0), .val (.int xa1), .val (.int xa2), .val (.int xb0), .val (.int xb1), .val (.int xb2), .val (.int xt), .val (.double (FP.ddiv (FP.i2d xt) (4611686018427387904 : UInt64))), .second, .val (.ref d1), .val (.ref d5), .unset, .unset] [(.ref a6)]) _
    refine Endw.st (T' := T6) (g' := (mkF m 109 #[.val (.int i0), .val (.int i1), .val (.int i2), .val (.int i3), .val (.int i4), .val (.int i5), .val (.int (0 : Int32)), .val (.int xa0), .val (.int xa1), .val (.int xa2), .val (.int xb0), .val (.int xb1), .val (.int xb2), .val (.int xt), .val (.double (FP.ddiv (FP.i2d xt) (4611686018427387904 : UInt64))), .second, .val (.ref d1), .val (.ref d5), .unset, .unset] [(.ref d5), (.ref d1), (.ref a6), (.ref a6)])) (fun tt_ kk_ => XS.dup C6.here C6.hx rfl (C6.dec at_104) rfl rfl (XS.aload C6.here C6.hx rfl (C6.dec at_105) rfl rfl (XS.aload C6.here C6.hx rfl (C6.dec at_107) rfl rfl kk_))) ?_
    have f7 := ((V1.keep K5 nin0).keep K6 nin0)
    have f8 := (V5.keep K6 nin0)
    have f9 : Fld Z h6 a6 "com/example/cohabit/cohabit/FlowBounds" "lower" "[D" .null := D6 (Or.inr (W29 hw)) (ty := (.array .double)) (by decide)
    have f10 : Fld Z h6 a6 "com/example/cohabit/cohabit/FlowBounds" "upper" "[D" .null := D6 (Or.inr (W31 hw)) (ty := (.array .double)) (by decide)
    have f11 := ((E1.keep K5).keep K6)
    have f12 := (E5.keep K6)
    refine C6.special (y := (⟨"com/example/cohabit/cohabit/FlowBounds", "<init>", "([D[D)V"⟩ : MethodName)) (W := 1) (a := a6) (argsL := [(.ref d1), (.ref d5)]) (rest := [(.ref a6)]) rfl (W12 hw) (W13 hw) (W14 hw) (W11 hw) (by decide) (rm_init0 l Z a0 EL G a6 d1 d5 kd1 kd5  h6 C6.old E6 f9 f10 zg6 f7 f11 f8 f12 ) (fun _ => rfl) rfl (allS ⟨E6.lt, S6⟩ all0) (by decide) (by decide) (by decide) (by decide) (lenOf pd_285b445b442956 rfl) rfl (Nat.le_of_ble_eq_true rfl) rfl at_109 (pc' := 112) rfl ?_
    intro vm13 T13 h13 v13 C13 A13 M13 q13
    obtain ⟨rfl, d13, e13, K13, ge13, gf13, E13, F13, f13, V13, U13⟩ := q13
    show Endw p e below T13 (mkF m 112 #[.val (.int i0), .val (.int i1), .val (.int i2), .val (.int i3), .val (.int i4), .val (.int i5), .val (.int (0 : Int32)), .val (.int xa0), .val (.int xa1), .val (.int xa2), .val (.int xb0), .val (.int xb1), .val (.int xb2), .val (.int xt), .val (.double (FP.ddiv (FP.i2d xt) (4611686018427387904 : UInt64))), .second, .val (.ref d1), .val (.ref d5), .unset, .unset] [(.ref a6)]) _
    refine Endw.st (T' := T13) (g' := (mkF m 152 #[.val (.int i0), .val (.int i1), .val (.int i2), .val (.int i3), .val (.int i4), .val (.int i5), .val (.int (0 : Int32)), .val (.int xa0), .val (.int xa1), .val (.int xa2), .val (.int xb0), .val (.int xb1), .val (.int xb2), .val (.int xt), .val (.double (FP.ddiv (FP.i2d xt) (4611686018427387904 : UInt64))), .second, .val (.ref d1), .val (.ref d5), .val (.ref a6), .unset] [(.int (2 : Int32)), (.int (0 : Int32))])) (fun tt_ kk_ => XS.astore C13.here C13.hx rfl (C13.dec at_112) rfl rfl (l' := #[.val (.int i0), .val (.int i1), .val (.int i2), .val (.int i3), .val (.int i4), .val (.int i5), .val (.int (0 : Int32)), .val (.int xa0), .val (.int xa1), .val (.int xa2), .val (.int xb0), .val (.int xb1), .val (.int xb2), .val (.int xt), .val (.double (FP.ddiv (FP.i2d xt) (4611686018427387904 : UInt64))), .second, .val (.ref d1), .val (.ref d5), .val (.ref a6), .unset]) rfl (XS.iload C13.here C13.hx rfl (C13.dec at_114) rfl (XS.ifYes C13.here C13.hx rfl (pc0 := 116) rfl (C13.dec at_116) rfl (XT.i0_le_t (by decide)) (by decide) rfl (XS.iload C13.here C13.hx rfl (C13.dec at_131) rfl (XS.iconst C13.here C13.hx rfl (C13.dec at_133) (XS.icmpYes C13.here C13.hx rfl (pc0 := 134) rfl (C13.dec at_134) rfl (XT.ii_le_t (by decide)) (by decide) rfl (XS.iload C13.here C13.hx rfl (C13.dec at_149) rfl (XS.iconst C13.here C13.hx rfl (C13.dec at_151) kk_)))))))) ?_
    refine Endw.st (T' := T13) (g' := (mkF m 178 #[.val (.int i0), .val (.int i1), .val (.int i2), .val (.int i3), .val (.int i4), .val (.int i5), .val (.int (0 : Int32)), .val (.int xa0), .val (.int xa1), .val (.int xa2), .val (.int xb0), .val (.int xb1), .val (.int xb2), .val (.int xt), .val (.double (FP.ddiv (FP.i2d xt) (4611686018427387904 : UInt64))), .second, .val (.ref d1), .val (.ref d5), .val (.ref a6), .val (.int (0 : Int32))] [(.double (FP.ddiv (FP.i2d xt) (4611686018427387904 : UInt64))), (.ref a6)])) (fun tt_ kk_ => XS.icmpYes C13.here C13.hx rfl (pc0 := 152) rfl (C13.dec at_152) rfl (XT.ii_le_t (by decide)) (by decide) rfl (XS.iconst C13.here C13.hx rfl (C13.dec at_171) (XS.istore C13.here C13.hx rfl (C13.dec at_172) rfl (l' := #[.val (.int i0), .val (.int i1), .val (.int i2), .val (.int i3), .val (.int i4), .val (.int i5), .val (.int (0 : Int32)), .val (.int xa0), .val (.int xa1), .val (.int xa2), .val (.int xb0), .val (.int xb1), .val (.int xb2), .val (.int xt), .val (.double (FP.ddiv (FP.i2d xt) (4611686018427387904 : UInt64))), .second, .val (.ref d1), .val (.ref d5), .val (.ref a6), .val (.int (0 : Int32))]) rfl (XS.aload C13.here C13.hx rfl (C13.dec at_174) rfl rfl (XS.dload C13.here C13.hx rfl (C13.dec at_176) rfl kk_))))) ?_
    refine C13.virtual (y := (⟨"com/example/cohabit/cohabit/FlowBounds", "crossed", "(D)Z"⟩ : MethodName)) (z := (⟨"com/example/cohabit/cohabit/FlowBounds", "crossed", "(D)Z"⟩ : MethodName)) (W := 0) (a := a6) (argsL := [(.double (FP.ddiv (FP.i2d xt) (4611686018427387904 : UInt64)))]) (rest := []) (W35 hw) (W36 hw) (fun _ q => notFace_of_selects (args := #[]) (mvT q (W38 hw))) (W38 hw) (W37 hw) (W39 hw) (W11 hw) (by decide) (rm_crossed0 l Z a0 EL G a6 d13 e13 kd1 kd5 xt  h13 C13.old E13 F13 f13 V13 U13  sxt) (fun _ => rfl) rfl E13 all0 (by decide) (by decide) (by decide) (by decide) (lenOf pd_2844295a rfl) rfl (Nat.le_of_ble_eq_true rfl) rfl at_178 (pc' := 181) rfl ?_
    intro vm14 T14 h14 v14 C14 A14 M14 q14
    obtain ⟨rfl, rfl⟩ := q14
    show Endw p e below T14 (mkF m 181 #[.val (.int i0), .val (.int i1), .val (.int i2), .val (.int i3), .val (.int i4), .val (.int i5), .val (.int (0 : Int32)), .val (.int xa0), .val (.int xa1), .val (.int xa2), .val (.int xb0), .val (.int xb1), .val (.int xb2), .val (.int xt), .val (.double (FP.ddiv (FP.i2d xt) (4611686018427387904 : UInt64))), .second, .val (.ref d1), .val (.ref d5), .val (.ref a6), .val (.int (0 : Int32))] [(.int (0 : Int32))]) _
    refine Endw.st (T' := T14) (g' := (mkF m 191 #[.val (.int i0), .val (.int i1), .val (.int i2), .val (.int i3), .val (.int i4), .val (.int i5), .val (.int (0 : Int32)), .val (.int xa0), .val (.int xa1), .val (.int xa2), .val (.int xb0), .val (.int xb1), .val (.int xb2), .val (.int xt), .val (.double (FP.ddiv (FP.i2d xt) (4611686018427387904 : UInt64))), .second, .val (.ref d1), .val (.ref d5), .val (.ref a6), .val (.int (0 : Int32))] [(.int (1 : Int32))])) (fun tt_ kk_ => XS.iload C14.here C14.hx rfl (C14.dec at_181) rfl (XS.icmpNo C14.here C14.hx rfl (C14.dec at_183) rfl (XT.ii_ne_f (by decide)) (XS.iconst C14.here C14.hx rfl (C14.dec at_186) (XS.goto C14.here C14.hx rfl (pc0 := 187) rfl (C14.dec at_187) (by decide) rfl kk_)))) ?_
    exact C14.retI (t := .boolean) rfl (by simp) rfl at_191 (by decide) (by decide) rfl
  · rw [e3]
    show Endw p e below T0 (mkF m 63 #[.val (.int i0), .val (.int i1), .val (.int i2), .val (.int i3), .val (.int i4), .val (.int i5), .val (.int (1 : Int32)), .val (.int xa0), .val (.int xa1), .val (.int xa2), .val (.int xb0), .val (.int xb1), .val (.int xb2), .val (.int xt), .val (.double (FP.ddiv (FP.i2d xt) (4611686018427387904 : UInt64))), .second, .unset, .unset, .unset, .unset] []) _
    refine Endw.st (T' := T0) (g' := (mkF m 74 #[.val (.int i0), .val (.int i1), .val (.int i2), .val (.int i3), .val (.int i4), .val (.int i5), .val (.int (1 : Int32)), .val (.int xa0), .val (.int xa1), .val (.int xa2), .val (.int xb0), .val (.int xb1), .val (.int xb2), .val (.int xt), .val (.double (FP.ddiv (FP.i2d xt) (4611686018427387904 : UInt64))), .second, .unset, .unset, .unset, .unset] [(.double (FP.i2d xa2)), (.double (FP.i2d xa1)), (.double (FP.i2d xa0)), (.int (1 : Int32))])) (fun tt_ kk_ => XS.iload C0.here C0.hx rfl (C0.dec at_63) rfl (XS.iload C0.here C0.hx rfl (C0.dec at_65) rfl (XS.i2dS C0.here C0.hx rfl (C0.dec at_67) rfl rfl (XS.iload C0.here C0.hx rfl (C0.dec at_68) rfl (XS.i2dS C0.here C0.hx rfl (C0.dec at_70) rfl rfl (XS.iload C0.here C0.hx rfl (C0.dec at_71) rfl (XS.i2dS C0.here C0.hx rfl (C0.dec at_73) rfl rfl kk_))))))) ?_
    refine C0.static (y := (⟨"com/example/cohabit/cohabit/FlowBoundsCrossedPinLaw", "take", "(IDDD)[D"⟩ : MethodName)) (W := 0) (argsL := [(.int (1 : Int32)), (.double (FP.i2d xa0)), (.double (FP.i2d xa1)), (.double (FP.i2d xa2))]) (rest := []) (W1 hw) (W2 hw) (W4 hw) (W3 hw) (by decide) (rm_take1 l Z a0 EL G (FP.i2d xa0) (FP.i2d xa1) (FP.i2d xa2) h C0.old) (fun _ => rfl) rfl all0 (by decide) (by decide) (by decide) (by decide) (lenOf pd_2849444444295b44 rfl) rfl (Nat.le_of_ble_eq_true rfl) rfl at_74 (pc' := 77) rfl ?_
    intro vm15 T15 h15 v15 C15 A15 M15 q15
    obtain ⟨d15, kd15, rfl, K15, ge15, zg15, V15, E15⟩ := q15
    show Endw p e below T15 (mkF m 77 #[.val (.int i0), .val (.int i1), .val (.int i2), .val (.int i3), .val (.int i4), .val (.int i5), .val (.int (1 : Int32)), .val (.int xa0), .val (.int xa1), .val (.int xa2), .val (.int xb0), .val (.int xb1), .val (.int xb2), .val (.int xt), .val (.double (FP.ddiv (FP.i2d xt) (4611686018427387904 : UInt64))), .second, .unset, .unset, .unset, .unset] [(.ref d15)]) _
    refine Endw.st (T' := T15) (g' := (mkF m 83 #[.val (.int i0), .val (.int i1), .val (.int i2), .val (.int i3), .val (.int i4), .val (.int i5), .val (.int (1 : Int32)), .val (.int xa0), .val (.int xa1), .val (.int xa2), .val (.int xb0), .val (.int xb1), .val (.int xb2), .val (.int xt), .val (.double (FP.ddiv (FP.i2d xt) (4611686018427387904 : UInt64))), .second, .val (.ref d15), .unset, .unset, .unset] [(.int xb0), (.int (1 : Int32))])) (fun tt_ kk_ => XS.astore C15.here C15.hx rfl (C15.dec at_77) rfl rfl (l' := #[.val (.int i0), .val (.int i1), .val (.int i2), .val (.int i3), .val (.int i4), .val (.int i5), .val (.int (1 : Int32)), .val (.int xa0), .val (.int xa1), .val (.int xa2), .val (.int xb0), .val (.int xb1), .val (.int xb2), .val (.int xt), .val (.double (FP.ddiv (FP.i2d xt) (4611686018427387904 : UInt64))), .second, .val (.ref d15), .unset, .unset, .unset]) rfl (XS.iload C15.here C15.hx rfl (C15.dec at_79) rfl (XS.iload C15.here C15.hx rfl (C15.dec at_81) rfl kk_))) ?_
    refine C15.static (y := (⟨"com/example/cohabit/cohabit/FlowBoundsCrossedPinLaw", "up", "(I)D"⟩ : MethodName)) (W := 1) (argsL := [(.int xb0)]) (rest := [(.int (1 : Int32))]) (W6 hw) (W7 hw) (W8 hw) (W3 hw) (by decide) (rm_up l Z a0 EL G xb0 h15 C15.old) (fun _ => rfl) rfl all0 (by decide) (by decide) (by decide) (by decide) (lenOf pd_28492944 rfl) rfl (Nat.le_of_ble_eq_true rfl) rfl at_83 (pc' := 86) rfl ?_
    intro vm16 T16 h16 v16 C16 A16 M16 q16
    obtain ⟨rfl, rfl⟩ := q16
    show Endw p e below T16 (mkF m 86 #[.val (.int i0), .val (.int i1), .val (.int i2), .val (.int i3), .val (.int i4), .val (.int i5), .val (.int (1 : Int32)), .val (.int xa0), .val (.int xa1), .val (.int xa2), .val (.int xb0), .val (.int xb1), .val (.int xb2), .val (.int xt), .val (.double (FP.ddiv (FP.i2d xt) (4611686018427387904 : UInt64))), .second, .val (.ref d15), .unset, .unset, .unset] [(.double (own_up xb0)), (.int (1 : Int32))]) _
    refine Endw.st (T' := T16) (g' := (mkF m 88 #[.val (.int i0), .val (.int i1), .val (.int i2), .val (.int i3), .val (.int i4), .val (.int i5), .val (.int (1 : Int32)), .val (.int xa0), .val (.int xa1), .val (.int xa2), .val (.int xb0), .val (.int xb1), .val (.int xb2), .val (.int xt), .val (.double (FP.ddiv (FP.i2d xt) (4611686018427387904 : UInt64))), .second, .val (.ref d15), .unset, .unset, .unset] [(.int xb1), (.double (own_up xb0)), (.int (1 : Int32))])) (fun tt_ kk_ => XS.iload C16.here C16.hx rfl (C16.dec at_86) rfl kk_) ?_
    refine C16.static (y := (⟨"com/example/cohabit/cohabit/FlowBoundsCrossedPinLaw", "up", "(I)D"⟩ : MethodName)) (W := 3) (argsL := [(.int xb1)]) (rest := [(.double (own_up xb0)), (.int (1 : Int32))]) (W6 hw) (W7 hw) (W8 hw) (W3 hw) (by decide) (rm_up l Z a0 EL G xb1 h15 C16.old) (fun _ => rfl) rfl all0 (by decide) (by decide) (by decide) (by decide) (lenOf pd_28492944 rfl) rfl (Nat.le_of_ble_eq_true rfl) rfl at_88 (pc' := 91) rfl ?_
    intro vm17 T17 h17 v17 C17 A17 M17 q17
    obtain ⟨rfl, rfl⟩ := q17
    show Endw p e below T17 (mkF m 91 #[.val (.int i0), .val (.int i1), .val (.int i2), .val (.int i3), .val (.int i4), .val (.int i5), .val (.int (1 : Int32)), .val (.int xa0), .val (.int xa1), .val (.int xa2), .val (.int xb0), .val (.int xb1), .val (.int xb2), .val (.int xt), .val (.double (FP.ddiv (FP.i2d xt) (4611686018427387904 : UInt64))), .second, .val (.ref d15), .unset, .unset, .unset] [(.double (own_up xb1)), (.double (own_up xb0)), (.int (1 : Int32))]) _
    refine Endw.st (T' := T17) (g' := (mkF m 93 #[.val (.int i0), .val (.int i1), .val (.int i2), .val (.int i3), .val (.int i4), .val (.int i5), .val (.int (1 : Int32)), .val (.int xa0), .val (.int xa1), .val (.int xa2), .val (.int xb0), .val (.int xb1), .val (.int xb2), .val (.int xt), .val (.double (FP.ddiv (FP.i2d xt) (4611686018427387904 : UInt64))), .second, .val (.ref d15), .unset, .unset, .unset] [(.int xb2), (.double (own_up xb1)), (.double (own_up xb0)), (.int (1 : Int32))])) (fun tt_ kk_ => XS.iload C17.here C17.hx rfl (C17.dec at_91) rfl kk_) ?_
    refine C17.static (y := (⟨"com/example/cohabit/cohabit/FlowBoundsCrossedPinLaw", "up", "(I)D"⟩ : MethodName)) (W := 5) (argsL := [(.int xb2)]) (rest := [(.double (own_up xb1)), (.double (own_up xb0)), (.int (1 : Int32))]) (W6 hw) (W7 hw) (W8 hw) (W3 hw) (by decide) (rm_up l Z a0 EL G xb2 h15 C17.old) (fun _ => rfl) rfl all0 (by decide) (by decide) (by decide) (by decide) (lenOf pd_28492944 rfl) rfl (Nat.le_of_ble_eq_true rfl) rfl at_93 (pc' := 96) rfl ?_
    intro vm18 T18 h18 v18 C18 A18 M18 q18
    obtain ⟨rfl, rfl⟩ := q18
    show Endw p e below T18 (mkF m 96 #[.val (.int i0), .val (.int i1), .val (.int i2), .val (.int i3), .val (.int i4), .val (.int i5), .val (.int (1 : Int32)), .val (.int xa0), .val (.int xa1), .val (.int xa2), .val (.int xb0), .val (.int xb1), .val (.int xb2), .val (.int xt), .val (.double (FP.ddiv (FP.i2d xt) (4611686018427387904 : UInt64))), .second, .val (.ref d15), .unset, .unset, .unset] [(.double (own_up xb2)), (.double (own_up xb1)), (.double (own_up xb0)), (.int (1 : Int32))]) _
    refine C18.static (y := (⟨"com/example/cohabit/cohabit/FlowBoundsCrossedPinLaw", "take", "(IDDD)[D"⟩ : MethodName)) (W := 0) (argsL := [(.int (1 : Int32)), (.double (own_up xb0)), (.double (own_up xb1)), (.double (own_up xb2))]) (rest := []) (W1 hw) (W2 hw) (W4 hw) (W3 hw) (by decide) (rm_take1 l Z a0 EL G (own_up xb0) (own_up xb1) (own_up xb2) h15 C18.old) (fun _ => rfl) rfl all0 (by decide) (by decide) (by decide) (by decide) (lenOf pd_2849444444295b44 rfl) rfl (Nat.le_of_ble_eq_true rfl) rfl at_96 (pc' := 99) rfl ?_
    intro vm19 T19 h19 v19 C19 A19 M19 q19
    obtain ⟨d19, kd19, rfl, K19, ge19, zg19, V19, E19⟩ := q19
    show Endw p e below T19 (mkF m 99 #[.val (.int i0), .val (.int i1), .val (.int i2), .val (.int i3), .val (.int i4), .val (.int i5), .val (.int (1 : Int32)), .val (.int xa0), .val (.int xa1), .val (.int xa2), .val (.int xb0), .val (.int xb1), .val (.int xb2), .val (.int xt), .val (.double (FP.ddiv (FP.i2d xt) (4611686018427387904 : UInt64))), .second, .val (.ref d15), .unset, .unset, .unset] [(.ref d19)]) _
    refine Endw.st (T' := T19) (g' := (mkF m 101 #[.val (.int i0), .val (.int i1), .val (.int i2), .val (.int i3), .val (.int i4), .val (.int i5), .val (.int (1 : Int32)), .val (.int xa0), .val (.int xa1), .val (.int xa2), .val (.int xb0), .val (.int xb1), .val (.int xb2), .val (.int xt), .val (.double (FP.ddiv (FP.i2d xt) (4611686018427387904 : UInt64))), .second, .val (.ref d15), .val (.ref d19), .unset, .unset] [])) (fun tt_ kk_ => XS.astore C19.here C19.hx rfl (C19.dec at_99) rfl rfl (l' := #[.val (.int i0), .val (.int i1), .val (.int i2), .val (.int i3), .val (.int i4), .val (.int i5), .val (.int (1 : Int32)), .val (.int xa0), .val (.int xa1), .val (.int xa2), .val (.int xb0), .val (.int xb1), .val (.int xb2), .val (.int xt), .val (.double (FP.ddiv (FP.i2d xt) (4611686018427387904 : UInt64))), .second, .val (.ref d15), .val (.ref d19), .unset, .unset]) rfl kk_) ?_
    refine C19.new (W9 hw) (W10 hw) (W11 hw) at_101 (pc' := 104) rfl (by decide) (by decide) ?_
    intro T20 h20 a20 C20 K20 A20 ge20 zg20 E20 D20 S20
    show Endw p e below T20 (mkF m 104 #[.val (.int i0), .val (.int i1), .val (.int i2), .val (.int i3), .val (.int i4), .val (.int i5), .val (.int (1 : Int32)), .val (.int xa0), .val (.int xa1), .val (.int xa2), .val (.int xb0), .val (.int xb1), .val (.int xb2), .val (.int xt), .val (.double (FP.ddiv (FP.i2d xt) (4611686018427387904 : UInt64))), .second, .val (.ref d15), .val (.ref d19), .unset, .unset] [(.ref a20)]) _
    refine Endw.st (T' := T20) (g' := (mkF m 109 #[.val (.int i0), .val (.int i1), .val (.int i2), .val (.int i3), .val (.int i4), .val (.int i5), .val (.int (1 : Int32)), .val (.int xa0), .val (.int xa1), .val (.int xa2), .val (.int xb0), .val (.int xb1), .val (.int xb2), .val (.int xt), .val (.double (FP.ddiv (FP.i2d xt) (4611686018427387904 : UInt64))), .second, .val (.ref d15), .val (.ref d19), .unset, .unset] [(.ref d19), (.ref d15), (.ref a20), (.ref a20)])) (fun tt_ kk_ => XS.dup C20.here C20.hx rfl (C20.dec at_104) rfl rfl (XS.aload C20.here C20.hx rfl (C20.dec at_105) rfl rfl (XS.aload C20.here C20.hx rfl (C20.dec at_107) rfl rfl kk_))) ?_
    have f21 := ((V15.keep K19 nin0).keep K20 nin0)
    have f22 := (V19.keep K20 nin0)
    have f23 : Fld Z h20 a20 "com/example/cohabit/cohabit/FlowBounds" "lower" "[D" .null := D20 (Or.inr (W29 hw)) (ty := (.array .double)) (by decide)
    have f24 : Fld Z h20 a20 "com/example/cohabit/cohabit/FlowBounds" "upper" "[D" .null := D20 (Or.inr (W31 hw)) (ty := (.array .double)) (by decide)
    have f25 := ((E15.keep K19).keep K20)
    have f26 := (E19.keep K20)
    refine C20.special (y := (⟨"com/example/cohabit/cohabit/FlowBounds", "<init>", "([D[D)V"⟩ : MethodName)) (W := 1) (a := a20) (argsL := [(.ref d15), (.ref d19)]) (rest := [(.ref a20)]) rfl (W12 hw) (W13 hw) (W14 hw) (W11 hw) (by decide) (rm_init1 l Z a0 EL G a20 d15 d19 kd15 kd19 xa0 xb0 h20 C20.old E20 f23 f24 zg20 f21 f25 f22 f26 sxa0 sxb0) (fun _ => rfl) rfl (allS ⟨E20.lt, S20⟩ all0) (by decide) (by decide) (by decide) (by decide) (lenOf pd_285b445b442956 rfl) rfl (Nat.le_of_ble_eq_true rfl) rfl at_109 (pc' := 112) rfl ?_
    intro vm27 T27 h27 v27 C27 A27 M27 q27
    obtain ⟨rfl, d27, e27, K27, ge27, gf27, E27, F27, f27, V27, U27⟩ := q27
    show Endw p e below T27 (mkF m 112 #[.val (.int i0), .val (.int i1), .val (.int i2), .val (.int i3), .val (.int i4), .val (.int i5), .val (.int (1 : Int32)), .val (.int xa0), .val (.int xa1), .val (.int xa2), .val (.int xb0), .val (.int xb1), .val (.int xb2), .val (.int xt), .val (.double (FP.ddiv (FP.i2d xt) (4611686018427387904 : UInt64))), .second, .val (.ref d15), .val (.ref d19), .unset, .unset] [(.ref a20)]) _
    refine Endw.st (T' := T27) (g' := (mkF m 125 #[.val (.int i0), .val (.int i1), .val (.int i2), .val (.int i3), .val (.int i4), .val (.int i5), .val (.int (1 : Int32)), .val (.int xa0), .val (.int xa1), .val (.int xa2), .val (.int xb0), .val (.int xb1), .val (.int xb2), .val (.int xt), .val (.double (FP.ddiv (FP.i2d xt) (4611686018427387904 : UInt64))), .second, .val (.ref d15), .val (.ref d19), .val (.ref a20), .unset] [(.int xt), (.int xb0), (.int xa0)])) (fun tt_ kk_ => XS.astore C27.here C27.hx rfl (C27.dec at_112) rfl rfl (l' := #[.val (.int i0), .val (.int i1), .val (.int i2), .val (.int i3), .val (.int i4), .val (.int i5), .val (.int (1 : Int32)), .val (.int xa0), .val (.int xa1), .val (.int xa2), .val (.int xb0), .val (.int xb1), .val (.int xb2), .val (.int xt), .val (.double (FP.ddiv (FP.i2d xt) (4611686018427387904 : UInt64))), .second, .val (.ref d15), .val (.ref d19), .val (.ref a20), .unset]) rfl (XS.iload C27.here C27.hx rfl (C27.dec at_114) rfl (XS.ifNo C27.here C27.hx rfl (C27.dec at_116) rfl (XT.i0_le_f (by decide)) (XS.iload C27.here C27.hx rfl (C27.dec at_119) rfl (XS.iload C27.here C27.hx rfl (C27.dec at_121) rfl (XS.iload C27.here C27.hx rfl (C27.dec at_123) rfl kk_)))))) ?_
    refine C27.static (y := (⟨"com/example/cohabit/cohabit/FlowBoundsCrossedPinLaw", "over", "(III)Z"⟩ : MethodName)) (W := 0) (argsL := [(.int xa0), (.int xb0), (.int xt)]) (rest := []) (W32 hw) (W33 hw) (W34 hw) (W3 hw) (by decide) (rm_over l Z a0 EL G xa0 xb0 xt h27 C27.old) (fun _ => rfl) rfl all0 (by decide) (by decide) (by decide) (by decide) (lenOf pd_28494949295a rfl) rfl (Nat.le_of_ble_eq_true rfl) rfl at_125 (pc' := 128) rfl ?_
    intro vm28 T28 h28 v28 C28 A28 M28 q28
    obtain ⟨rfl, rfl⟩ := q28
    show Endw p e below T28 (mkF m 128 #[.val (.int i0), .val (.int i1), .val (.int i2), .val (.int i3), .val (.int i4), .val (.int i5), .val (.int (1 : Int32)), .val (.int xa0), .val (.int xa1), .val (.int xa2), .val (.int xb0), .val (.int xb1), .val (.int xb2), .val (.int xt), .val (.double (FP.ddiv (FP.i2d xt) (4611686018427387904 : UInt64))), .second, .val (.ref d15), .val (.ref d19), .val (.ref a20), .unset] [(.int (own_ov xa0 xb0 xt))]) _
    by_cases c29 : (own_ov xa0 xb0 xt) = (0 : Int32)
    · refine Endw.st (T' := T28) (g' := (mkF m 172 #[.val (.int i0), .val (.int i1), .val (.int i2), .val (.int i3), .val (.int i4), .val (.int i5), .val (.int (1 : Int32)), .val (.int xa0), .val (.int xa1), .val (.int xa2), .val (.int xb0), .val (.int xb1), .val (.int xb2), .val (.int xt), .val (.double (FP.ddiv (FP.i2d xt) (4611686018427387904 : UInt64))), .second, .val (.ref d15), .val (.ref d19), .val (.ref a20), .unset] [(.int (0 : Int32))])) (fun tt_ kk_ => XS.ifNo C28.here C28.hx rfl (C28.dec at_128) rfl (XT.i0_ne_f c29) (XS.iload C28.here C28.hx rfl (C28.dec at_131) rfl (XS.iconst C28.here C28.hx rfl (C28.dec at_133) (XS.icmpYes C28.here C28.hx rfl (pc0 := 134) rfl (C28.dec at_134) rfl (XT.ii_le_t (by decide)) (by decide) rfl (XS.iload C28.here C28.hx rfl (C28.dec at_149) rfl (XS.iconst C28.here C28.hx rfl (C28.dec at_151) (XS.icmpYes C28.here C28.hx rfl (pc0 := 152) rfl (C28.dec at_152) rfl (XT.ii_le_t (by decide)) (by decide) rfl (XS.iconst C28.here C28.hx rfl (C28.dec at_171) kk_)))))))) ?_
      refine Endw.st (T' := T28) (g' := (mkF m 178 #[.val (.int i0), .val (.int i1), .val (.int i2), .val (.int i3), .val (.int i4), .val (.int i5), .val (.int (1 : Int32)), .val (.int xa0), .val (.int xa1), .val (.int xa2), .val (.int xb0), .val (.int xb1), .val (.int xb2), .val (.int xt), .val (.double (FP.ddiv (FP.i2d xt) (4611686018427387904 : UInt64))), .second, .val (.ref d15), .val (.ref d19), .val (.ref a20), .val (.int (0 : Int32))] [(.double (FP.ddiv (FP.i2d xt) (4611686018427387904 : UInt64))), (.ref a20)])) (fun tt_ kk_ => XS.istore C28.here C28.hx rfl (C28.dec at_172) rfl (l' := #[.val (.int i0), .val (.int i1), .val (.int i2), .val (.int i3), .val (.int i4), .val (.int i5), .val (.int (1 : Int32)), .val (.int xa0), .val (.int xa1), .val (.int xa2), .val (.int xb0), .val (.int xb1), .val (.int xb2), .val (.int xt), .val (.double (FP.ddiv (FP.i2d xt) (4611686018427387904 : UInt64))), .second, .val (.ref d15), .val (.ref d19), .val (.ref a20), .val (.int (0 : Int32))]) rfl (XS.aload C28.here C28.hx rfl (C28.dec at_174) rfl rfl (XS.dload C28.here C28.hx rfl (C28.dec at_176) rfl kk_))) ?_
      refine C28.virtual (y := (⟨"com/example/cohabit/cohabit/FlowBounds", "crossed", "(D)Z"⟩ : MethodName)) (z := (⟨"com/example/cohabit/cohabit/FlowBounds", "crossed", "(D)Z"⟩ : MethodName)) (W := 0) (a := a20) (argsL := [(.double (FP.ddiv (FP.i2d xt) (4611686018427387904 : UInt64)))]) (rest := []) (W35 hw) (W36 hw) (fun _ q => notFace_of_selects (args := #[]) (mvT q (W38 hw))) (W38 hw) (W37 hw) (W39 hw) (W11 hw) (by decide) (rm_crossed1 l Z a0 EL G a20 d27 e27 kd15 kd19 xt xa0 xb0 h27 C28.old E27 F27 f27 V27 U27 sxa0 sxb0 sxt) (fun _ => rfl) rfl E27 all0 (by decide) (by decide) (by decide) (by decide) (lenOf pd_2844295a rfl) rfl (Nat.le_of_ble_eq_true rfl) rfl at_178 (pc' := 181) rfl ?_
      intro vm30 T30 h30 v30 C30 A30 M30 q30
      rw [if_pos c29] at q30
      obtain ⟨rfl, rfl⟩ := q30
      show Endw p e below T30 (mkF m 181 #[.val (.int i0), .val (.int i1), .val (.int i2), .val (.int i3), .val (.int i4), .val (.int i5), .val (.int (1 : Int32)), .val (.int xa0), .val (.int xa1), .val (.int xa2), .val (.int xb0), .val (.int xb1), .val (.int xb2), .val (.int xt), .val (.double (FP.ddiv (FP.i2d xt) (4611686018427387904 : UInt64))), .second, .val (.ref d15), .val (.ref d19), .val (.ref a20), .val (.int (0 : Int32))] [(.int (0 : Int32))]) _
      refine Endw.st (T' := T30) (g' := (mkF m 191 #[.val (.int i0), .val (.int i1), .val (.int i2), .val (.int i3), .val (.int i4), .val (.int i5), .val (.int (1 : Int32)), .val (.int xa0), .val (.int xa1), .val (.int xa2), .val (.int xb0), .val (.int xb1), .val (.int xb2), .val (.int xt), .val (.double (FP.ddiv (FP.i2d xt) (4611686018427387904 : UInt64))), .second, .val (.ref d15), .val (.ref d19), .val (.ref a20), .val (.int (0 : Int32))] [(.int (1 : Int32))])) (fun tt_ kk_ => XS.iload C30.here C30.hx rfl (C30.dec at_181) rfl (XS.icmpNo C30.here C30.hx rfl (C30.dec at_183) rfl (XT.ii_ne_f (by decide)) (XS.iconst C30.here C30.hx rfl (C30.dec at_186) (XS.goto C30.here C30.hx rfl (pc0 := 187) rfl (C30.dec at_187) (by decide) rfl kk_)))) ?_
      exact C30.retI (t := .boolean) rfl (by simp) rfl at_191 (by decide) (by decide) rfl
    · refine Endw.st (T' := T28) (g' := (mkF m 178 #[.val (.int i0), .val (.int i1), .val (.int i2), .val (.int i3), .val (.int i4), .val (.int i5), .val (.int (1 : Int32)), .val (.int xa0), .val (.int xa1), .val (.int xa2), .val (.int xb0), .val (.int xb1), .val (.int xb2), .val (.int xt), .val (.double (FP.ddiv (FP.i2d xt) (4611686018427387904 : UInt64))), .second, .val (.ref d15), .val (.ref d19), .val (.ref a20), .val (.int (1 : Int32))] [(.double (FP.ddiv (FP.i2d xt) (4611686018427387904 : UInt64))), (.ref a20)])) (fun tt_ kk_ => XS.ifYes C28.here C28.hx rfl (pc0 := 128) rfl (C28.dec at_128) rfl (XT.i0_ne_t c29) (by decide) rfl (XS.iconst C28.here C28.hx rfl (C28.dec at_167) (XS.goto C28.here C28.hx rfl (pc0 := 168) rfl (C28.dec at_168) (by decide) rfl (XS.istore C28.here C28.hx rfl (C28.dec at_172) rfl (l' := #[.val (.int i0), .val (.int i1), .val (.int i2), .val (.int i3), .val (.int i4), .val (.int i5), .val (.int (1 : Int32)), .val (.int xa0), .val (.int xa1), .val (.int xa2), .val (.int xb0), .val (.int xb1), .val (.int xb2), .val (.int xt), .val (.double (FP.ddiv (FP.i2d xt) (4611686018427387904 : UInt64))), .second, .val (.ref d15), .val (.ref d19), .val (.ref a20), .val (.int (1 : Int32))]) rfl (XS.aload C28.here C28.hx rfl (C28.dec at_174) rfl rfl (XS.dload C28.here C28.hx rfl (C28.dec at_176) rfl kk_)))))) ?_
      refine C28.virtual (y := (⟨"com/example/cohabit/cohabit/FlowBounds", "crossed", "(D)Z"⟩ : MethodName)) (z := (⟨"com/example/cohabit/cohabit/FlowBounds", "crossed", "(D)Z"⟩ : MethodName)) (W := 0) (a := a20) (argsL := [(.double (FP.ddiv (FP.i2d xt) (4611686018427387904 : UInt64)))]) (rest := []) (W35 hw) (W36 hw) (fun _ q => notFace_of_selects (args := #[]) (mvT q (W38 hw))) (W38 hw) (W37 hw) (W39 hw) (W11 hw) (by decide) (rm_crossed1 l Z a0 EL G a20 d27 e27 kd15 kd19 xt xa0 xb0 h27 C28.old E27 F27 f27 V27 U27 sxa0 sxb0 sxt) (fun _ => rfl) rfl E27 all0 (by decide) (by decide) (by decide) (by decide) (lenOf pd_2844295a rfl) rfl (Nat.le_of_ble_eq_true rfl) rfl at_178 (pc' := 181) rfl ?_
      intro vm31 T31 h31 v31 C31 A31 M31 q31
      rw [if_neg c29] at q31
      obtain ⟨rfl, rfl⟩ := q31
      show Endw p e below T31 (mkF m 181 #[.val (.int i0), .val (.int i1), .val (.int i2), .val (.int i3), .val (.int i4), .val (.int i5), .val (.int (1 : Int32)), .val (.int xa0), .val (.int xa1), .val (.int xa2), .val (.int xb0), .val (.int xb1), .val (.int xb2), .val (.int xt), .val (.double (FP.ddiv (FP.i2d xt) (4611686018427387904 : UInt64))), .second, .val (.ref d15), .val (.ref d19), .val (.ref a20), .val (.int (1 : Int32))] [(.int (1 : Int32))]) _
      refine Endw.st (T' := T31) (g' := (mkF m 191 #[.val (.int i0), .val (.int i1), .val (.int i2), .val (.int i3), .val (.int i4), .val (.int i5), .val (.int (1 : Int32)), .val (.int xa0), .val (.int xa1), .val (.int xa2), .val (.int xb0), .val (.int xb1), .val (.int xb2), .val (.int xt), .val (.double (FP.ddiv (FP.i2d xt) (4611686018427387904 : UInt64))), .second, .val (.ref d15), .val (.ref d19), .val (.ref a20), .val (.int (1 : Int32))] [(.int (1 : Int32))])) (fun tt_ kk_ => XS.iload C31.here C31.hx rfl (C31.dec at_181) rfl (XS.icmpNo C31.here C31.hx rfl (C31.dec at_183) rfl (XT.ii_ne_f (by decide)) (XS.iconst C31.here C31.hx rfl (C31.dec at_186) (XS.goto C31.here C31.hx rfl (pc0 := 187) rfl (C31.dec at_187) (by decide) rfl kk_)))) ?_
      exact C31.retI (t := .boolean) rfl (by simp) rfl at_191 (by decide) (by decide) rfl
  · rw [e3]
    show Endw p e below T0 (mkF m 63 #[.val (.int i0), .val (.int i1), .val (.int i2), .val (.int i3), .val (.int i4), .val (.int i5), .val (.int (2 : Int32)), .val (.int xa0), .val (.int xa1), .val (.int xa2), .val (.int xb0), .val (.int xb1), .val (.int xb2), .val (.int xt), .val (.double (FP.ddiv (FP.i2d xt) (4611686018427387904 : UInt64))), .second, .unset, .unset, .unset, .unset] []) _
    refine Endw.st (T' := T0) (g' := (mkF m 74 #[.val (.int i0), .val (.int i1), .val (.int i2), .val (.int i3), .val (.int i4), .val (.int i5), .val (.int (2 : Int32)), .val (.int xa0), .val (.int xa1), .val (.int xa2), .val (.int xb0), .val (.int xb1), .val (.int xb2), .val (.int xt), .val (.double (FP.ddiv (FP.i2d xt) (4611686018427387904 : UInt64))), .second, .unset, .unset, .unset, .unset] [(.double (FP.i2d xa2)), (.double (FP.i2d xa1)), (.double (FP.i2d xa0)), (.int (2 : Int32))])) (fun tt_ kk_ => XS.iload C0.here C0.hx rfl (C0.dec at_63) rfl (XS.iload C0.here C0.hx rfl (C0.dec at_65) rfl (XS.i2dS C0.here C0.hx rfl (C0.dec at_67) rfl rfl (XS.iload C0.here C0.hx rfl (C0.dec at_68) rfl (XS.i2dS C0.here C0.hx rfl (C0.dec at_70) rfl rfl (XS.iload C0.here C0.hx rfl (C0.dec at_71) rfl (XS.i2dS C0.here C0.hx rfl (C0.dec at_73) rfl rfl kk_))))))) ?_
    refine C0.static (y := (⟨"com/example/cohabit/cohabit/FlowBoundsCrossedPinLaw", "take", "(IDDD)[D"⟩ : MethodName)) (W := 0) (argsL := [(.int (2 : Int32)), (.double (FP.i2d xa0)), (.double (FP.i2d xa1)), (.double (FP.i2d xa2))]) (rest := []) (W1 hw) (W2 hw) (W4 hw) (W3 hw) (by decide) (rm_take2 l Z a0 EL G (FP.i2d xa0) (FP.i2d xa1) (FP.i2d xa2) h C0.old) (fun _ => rfl) rfl all0 (by decide) (by decide) (by decide) (by decide) (lenOf pd_2849444444295b44 rfl) rfl (Nat.le_of_ble_eq_true rfl) rfl at_74 (pc' := 77) rfl ?_
    intro vm32 T32 h32 v32 C32 A32 M32 q32
    obtain ⟨d32, kd32, rfl, K32, ge32, zg32, V32, E32⟩ := q32
    show Endw p e below T32 (mkF m 77 #[.val (.int i0), .val (.int i1), .val (.int i2), .val (.int i3), .val (.int i4), .val (.int i5), .val (.int (2 : Int32)), .val (.int xa0), .val (.int xa1), .val (.int xa2), .val (.int xb0), .val (.int xb1), .val (.int xb2), .val (.int xt), .val (.double (FP.ddiv (FP.i2d xt) (4611686018427387904 : UInt64))), .second, .unset, .unset, .unset, .unset] [(.ref d32)]) _
    refine Endw.st (T' := T32) (g' := (mkF m 83 #[.val (.int i0), .val (.int i1), .val (.int i2), .val (.int i3), .val (.int i4), .val (.int i5), .val (.int (2 : Int32)), .val (.int xa0), .val (.int xa1), .val (.int xa2), .val (.int xb0), .val (.int xb1), .val (.int xb2), .val (.int xt), .val (.double (FP.ddiv (FP.i2d xt) (4611686018427387904 : UInt64))), .second, .val (.ref d32), .unset, .unset, .unset] [(.int xb0), (.int (2 : Int32))])) (fun tt_ kk_ => XS.astore C32.here C32.hx rfl (C32.dec at_77) rfl rfl (l' := #[.val (.int i0), .val (.int i1), .val (.int i2), .val (.int i3), .val (.int i4), .val (.int i5), .val (.int (2 : Int32)), .val (.int xa0), .val (.int xa1), .val (.int xa2), .val (.int xb0), .val (.int xb1), .val (.int xb2), .val (.int xt), .val (.double (FP.ddiv (FP.i2d xt) (4611686018427387904 : UInt64))), .second, .val (.ref d32), .unset, .unset, .unset]) rfl (XS.iload C32.here C32.hx rfl (C32.dec at_79) rfl (XS.iload C32.here C32.hx rfl (C32.dec at_81) rfl kk_))) ?_
    refine C32.static (y := (⟨"com/example/cohabit/cohabit/FlowBoundsCrossedPinLaw", "up", "(I)D"⟩ : MethodName)) (W := 1) (argsL := [(.int xb0)]) (rest := [(.int (2 : Int32))]) (W6 hw) (W7 hw) (W8 hw) (W3 hw) (by decide) (rm_up l Z a0 EL G xb0 h32 C32.old) (fun _ => rfl) rfl all0 (by decide) (by decide) (by decide) (by decide) (lenOf pd_28492944 rfl) rfl (Nat.le_of_ble_eq_true rfl) rfl at_83 (pc' := 86) rfl ?_
    intro vm33 T33 h33 v33 C33 A33 M33 q33
    obtain ⟨rfl, rfl⟩ := q33
    show Endw p e below T33 (mkF m 86 #[.val (.int i0), .val (.int i1), .val (.int i2), .val (.int i3), .val (.int i4), .val (.int i5), .val (.int (2 : Int32)), .val (.int xa0), .val (.int xa1), .val (.int xa2), .val (.int xb0), .val (.int xb1), .val (.int xb2), .val (.int xt), .val (.double (FP.ddiv (FP.i2d xt) (4611686018427387904 : UInt64))), .second, .val (.ref d32), .unset, .unset, .unset] [(.double (own_up xb0)), (.int (2 : Int32))]) _
    refine Endw.st (T' := T33) (g' := (mkF m 88 #[.val (.int i0), .val (.int i1), .val (.int i2), .val (.int i3), .val (.int i4), .val (.int i5), .val (.int (2 : Int32)), .val (.int xa0), .val (.int xa1), .val (.int xa2), .val (.int xb0), .val (.int xb1), .val (.int xb2), .val (.int xt), .val (.double (FP.ddiv (FP.i2d xt) (4611686018427387904 : UInt64))), .second, .val (.ref d32), .unset, .unset, .unset] [(.int xb1), (.double (own_up xb0)), (.int (2 : Int32))])) (fun tt_ kk_ => XS.iload C33.here C33.hx rfl (C33.dec at_86) rfl kk_) ?_
    refine C33.static (y := (⟨"com/example/cohabit/cohabit/FlowBoundsCrossedPinLaw", "up", "(I)D"⟩ : MethodName)) (W := 3) (argsL := [(.int xb1)]) (rest := [(.double (own_up xb0)), (.int (2 : Int32))]) (W6 hw) (W7 hw) (W8 hw) (W3 hw) (by decide) (rm_up l Z a0 EL G xb1 h32 C33.old) (fun _ => rfl) rfl all0 (by decide) (by decide) (by decide) (by decide) (lenOf pd_28492944 rfl) rfl (Nat.le_of_ble_eq_true rfl) rfl at_88 (pc' := 91) rfl ?_
    intro vm34 T34 h34 v34 C34 A34 M34 q34
    obtain ⟨rfl, rfl⟩ := q34
    show Endw p e below T34 (mkF m 91 #[.val (.int i0), .val (.int i1), .val (.int i2), .val (.int i3), .val (.int i4), .val (.int i5), .val (.int (2 : Int32)), .val (.int xa0), .val (.int xa1), .val (.int xa2), .val (.int xb0), .val (.int xb1), .val (.int xb2), .val (.int xt), .val (.double (FP.ddiv (FP.i2d xt) (4611686018427387904 : UInt64))), .second, .val (.ref d32), .unset, .unset, .unset] [(.double (own_up xb1)), (.double (own_up xb0)), (.int (2 : Int32))]) _
    refine Endw.st (T' := T34) (g' := (mkF m 93 #[.val (.int i0), .val (.int i1), .val (.int i2), .val (.int i3), .val (.int i4), .val (.int i5), .val (.int (2 : Int32)), .val (.int xa0), .val (.int xa1), .val (.int xa2), .val (.int xb0), .val (.int xb1), .val (.int xb2), .val (.int xt), .val (.double (FP.ddiv (FP.i2d xt) (4611686018427387904 : UInt64))), .second, .val (.ref d32), .unset, .unset, .unset] [(.int xb2), (.double (own_up xb1)), (.double (own_up xb0)), (.int (2 : Int32))])) (fun tt_ kk_ => XS.iload C34.here C34.hx rfl (C34.dec at_91) rfl kk_) ?_
    refine C34.static (y := (⟨"com/example/cohabit/cohabit/FlowBoundsCrossedPinLaw", "up", "(I)D"⟩ : MethodName)) (W := 5) (argsL := [(.int xb2)]) (rest := [(.double (own_up xb1)), (.double (own_up xb0)), (.int (2 : Int32))]) (W6 hw) (W7 hw) (W8 hw) (W3 hw) (by decide) (rm_up l Z a0 EL G xb2 h32 C34.old) (fun _ => rfl) rfl all0 (by decide) (by decide) (by decide) (by decide) (lenOf pd_28492944 rfl) rfl (Nat.le_of_ble_eq_true rfl) rfl at_93 (pc' := 96) rfl ?_
    intro vm35 T35 h35 v35 C35 A35 M35 q35
    obtain ⟨rfl, rfl⟩ := q35
    show Endw p e below T35 (mkF m 96 #[.val (.int i0), .val (.int i1), .val (.int i2), .val (.int i3), .val (.int i4), .val (.int i5), .val (.int (2 : Int32)), .val (.int xa0), .val (.int xa1), .val (.int xa2), .val (.int xb0), .val (.int xb1), .val (.int xb2), .val (.int xt), .val (.double (FP.ddiv (FP.i2d xt) (4611686018427387904 : UInt64))), .second, .val (.ref d32), .unset, .unset, .unset] [(.double (own_up xb2)), (.double (own_up xb1)), (.double (own_up xb0)), (.int (2 : Int32))]) _
    refine C35.static (y := (⟨"com/example/cohabit/cohabit/FlowBoundsCrossedPinLaw", "take", "(IDDD)[D"⟩ : MethodName)) (W := 0) (argsL := [(.int (2 : Int32)), (.double (own_up xb0)), (.double (own_up xb1)), (.double (own_up xb2))]) (rest := []) (W1 hw) (W2 hw) (W4 hw) (W3 hw) (by decide) (rm_take2 l Z a0 EL G (own_up xb0) (own_up xb1) (own_up xb2) h32 C35.old) (fun _ => rfl) rfl all0 (by decide) (by decide) (by decide) (by decide) (lenOf pd_2849444444295b44 rfl) rfl (Nat.le_of_ble_eq_true rfl) rfl at_96 (pc' := 99) rfl ?_
    intro vm36 T36 h36 v36 C36 A36 M36 q36
    obtain ⟨d36, kd36, rfl, K36, ge36, zg36, V36, E36⟩ := q36
    show Endw p e below T36 (mkF m 99 #[.val (.int i0), .val (.int i1), .val (.int i2), .val (.int i3), .val (.int i4), .val (.int i5), .val (.int (2 : Int32)), .val (.int xa0), .val (.int xa1), .val (.int xa2), .val (.int xb0), .val (.int xb1), .val (.int xb2), .val (.int xt), .val (.double (FP.ddiv (FP.i2d xt) (4611686018427387904 : UInt64))), .second, .val (.ref d32), .unset, .unset, .unset] [(.ref d36)]) _
    refine Endw.st (T' := T36) (g' := (mkF m 101 #[.val (.int i0), .val (.int i1), .val (.int i2), .val (.int i3), .val (.int i4), .val (.int i5), .val (.int (2 : Int32)), .val (.int xa0), .val (.int xa1), .val (.int xa2), .val (.int xb0), .val (.int xb1), .val (.int xb2), .val (.int xt), .val (.double (FP.ddiv (FP.i2d xt) (4611686018427387904 : UInt64))), .second, .val (.ref d32), .val (.ref d36), .unset, .unset] [])) (fun tt_ kk_ => XS.astore C36.here C36.hx rfl (C36.dec at_99) rfl rfl (l' := #[.val (.int i0), .val (.int i1), .val (.int i2), .val (.int i3), .val (.int i4), .val (.int i5), .val (.int (2 : Int32)), .val (.int xa0), .val (.int xa1), .val (.int xa2), .val (.int xb0), .val (.int xb1), .val (.int xb2), .val (.int xt), .val (.double (FP.ddiv (FP.i2d xt) (4611686018427387904 : UInt64))), .second, .val (.ref d32), .val (.ref d36), .unset, .unset]) rfl kk_) ?_
    refine C36.new (W9 hw) (W10 hw) (W11 hw) at_101 (pc' := 104) rfl (by decide) (by decide) ?_
    intro T37 h37 a37 C37 K37 A37 ge37 zg37 E37 D37 S37
    show Endw p e below T37 (mkF m 104 #[.val (.int i0), .val (.int i1), .val (.int i2), .val (.int i3), .val (.int i4), .val (.int i5), .val (.int (2 : Int32)), .val (.int xa0), .val (.int xa1), .val (.int xa2), .val (.int xb0), .val (.int xb1), .val (.int xb2), .val (.int xt), .val (.double (FP.ddiv (FP.i2d xt) (4611686018427387904 : UInt64))), .second, .val (.ref d32), .val (.ref d36), .unset, .unset] [(.ref a37)]) _
    refine Endw.st (T' := T37) (g' := (mkF m 109 #[.val (.int i0), .val (.int i1), .val (.int i2), .val (.int i3), .val (.int i4), .val (.int i5), .val (.int (2 : Int32)), .val (.int xa0), .val (.int xa1), .val (.int xa2), .val (.int xb0), .val (.int xb1), .val (.int xb2), .val (.int xt), .val (.double (FP.ddiv (FP.i2d xt) (4611686018427387904 : UInt64))), .second, .val (.ref d32), .val (.ref d36), .unset, .unset] [(.ref d36), (.ref d32), (.ref a37), (.ref a37)])) (fun tt_ kk_ => XS.dup C37.here C37.hx rfl (C37.dec at_104) rfl rfl (XS.aload C37.here C37.hx rfl (C37.dec at_105) rfl rfl (XS.aload C37.here C37.hx rfl (C37.dec at_107) rfl rfl kk_))) ?_
    have f38 := ((V32.keep K36 nin0).keep K37 nin0)
    have f39 := (V36.keep K37 nin0)
    have f40 : Fld Z h37 a37 "com/example/cohabit/cohabit/FlowBounds" "lower" "[D" .null := D37 (Or.inr (W29 hw)) (ty := (.array .double)) (by decide)
    have f41 : Fld Z h37 a37 "com/example/cohabit/cohabit/FlowBounds" "upper" "[D" .null := D37 (Or.inr (W31 hw)) (ty := (.array .double)) (by decide)
    have f42 := ((E32.keep K36).keep K37)
    have f43 := (E36.keep K37)
    refine C37.special (y := (⟨"com/example/cohabit/cohabit/FlowBounds", "<init>", "([D[D)V"⟩ : MethodName)) (W := 1) (a := a37) (argsL := [(.ref d32), (.ref d36)]) (rest := [(.ref a37)]) rfl (W12 hw) (W13 hw) (W14 hw) (W11 hw) (by decide) (rm_init2 l Z a0 EL G a37 d32 d36 kd32 kd36 xa0 xb0 xa1 xb1 h37 C37.old E37 f40 f41 zg37 f38 f42 f39 f43 sxa0 sxb0 sxa1 sxb1) (fun _ => rfl) rfl (allS ⟨E37.lt, S37⟩ all0) (by decide) (by decide) (by decide) (by decide) (lenOf pd_285b445b442956 rfl) rfl (Nat.le_of_ble_eq_true rfl) rfl at_109 (pc' := 112) rfl ?_
    intro vm44 T44 h44 v44 C44 A44 M44 q44
    obtain ⟨rfl, d44, e44, K44, ge44, gf44, E44, F44, f44, V44, U44⟩ := q44
    show Endw p e below T44 (mkF m 112 #[.val (.int i0), .val (.int i1), .val (.int i2), .val (.int i3), .val (.int i4), .val (.int i5), .val (.int (2 : Int32)), .val (.int xa0), .val (.int xa1), .val (.int xa2), .val (.int xb0), .val (.int xb1), .val (.int xb2), .val (.int xt), .val (.double (FP.ddiv (FP.i2d xt) (4611686018427387904 : UInt64))), .second, .val (.ref d32), .val (.ref d36), .unset, .unset] [(.ref a37)]) _
    refine Endw.st (T' := T44) (g' := (mkF m 125 #[.val (.int i0), .val (.int i1), .val (.int i2), .val (.int i3), .val (.int i4), .val (.int i5), .val (.int (2 : Int32)), .val (.int xa0), .val (.int xa1), .val (.int xa2), .val (.int xb0), .val (.int xb1), .val (.int xb2), .val (.int xt), .val (.double (FP.ddiv (FP.i2d xt) (4611686018427387904 : UInt64))), .second, .val (.ref d32), .val (.ref d36), .val (.ref a37), .unset] [(.int xt), (.int xb0), (.int xa0)])) (fun tt_ kk_ => XS.astore C44.here C44.hx rfl (C44.dec at_112) rfl rfl (l' := #[.val (.int i0), .val (.int i1), .val (.int i2), .val (.int i3), .val (.int i4), .val (.int i5), .val (.int (2 : Int32)), .val (.int xa0), .val (.int xa1), .val (.int xa2), .val (.int xb0), .val (.int xb1), .val (.int xb2), .val (.int xt), .val (.double (FP.ddiv (FP.i2d xt) (4611686018427387904 : UInt64))), .second, .val (.ref d32), .val (.ref d36), .val (.ref a37), .unset]) rfl (XS.iload C44.here C44.hx rfl (C44.dec at_114) rfl (XS.ifNo C44.here C44.hx rfl (C44.dec at_116) rfl (XT.i0_le_f (by decide)) (XS.iload C44.here C44.hx rfl (C44.dec at_119) rfl (XS.iload C44.here C44.hx rfl (C44.dec at_121) rfl (XS.iload C44.here C44.hx rfl (C44.dec at_123) rfl kk_)))))) ?_
    refine C44.static (y := (⟨"com/example/cohabit/cohabit/FlowBoundsCrossedPinLaw", "over", "(III)Z"⟩ : MethodName)) (W := 0) (argsL := [(.int xa0), (.int xb0), (.int xt)]) (rest := []) (W32 hw) (W33 hw) (W34 hw) (W3 hw) (by decide) (rm_over l Z a0 EL G xa0 xb0 xt h44 C44.old) (fun _ => rfl) rfl all0 (by decide) (by decide) (by decide) (by decide) (lenOf pd_28494949295a rfl) rfl (Nat.le_of_ble_eq_true rfl) rfl at_125 (pc' := 128) rfl ?_
    intro vm45 T45 h45 v45 C45 A45 M45 q45
    obtain ⟨rfl, rfl⟩ := q45
    show Endw p e below T45 (mkF m 128 #[.val (.int i0), .val (.int i1), .val (.int i2), .val (.int i3), .val (.int i4), .val (.int i5), .val (.int (2 : Int32)), .val (.int xa0), .val (.int xa1), .val (.int xa2), .val (.int xb0), .val (.int xb1), .val (.int xb2), .val (.int xt), .val (.double (FP.ddiv (FP.i2d xt) (4611686018427387904 : UInt64))), .second, .val (.ref d32), .val (.ref d36), .val (.ref a37), .unset] [(.int (own_ov xa0 xb0 xt))]) _
    by_cases c46 : (own_ov xa0 xb0 xt) = (0 : Int32)
    · refine Endw.st (T' := T45) (g' := (mkF m 143 #[.val (.int i0), .val (.int i1), .val (.int i2), .val (.int i3), .val (.int i4), .val (.int i5), .val (.int (2 : Int32)), .val (.int xa0), .val (.int xa1), .val (.int xa2), .val (.int xb0), .val (.int xb1), .val (.int xb2), .val (.int xt), .val (.double (FP.ddiv (FP.i2d xt) (4611686018427387904 : UInt64))), .second, .val (.ref d32), .val (.ref d36), .val (.ref a37), .unset] [(.int xt), (.int xb1), (.int xa1)])) (fun tt_ kk_ => XS.ifNo C45.here C45.hx rfl (C45.dec at_128) rfl (XT.i0_ne_f c46) (XS.iload C45.here C45.hx rfl (C45.dec at_131) rfl (XS.iconst C45.here C45.hx rfl (C45.dec at_133) (XS.icmpNo C45.here C45.hx rfl (C45.dec at_134) rfl (XT.ii_le_f (by decide)) (XS.iload C45.here C45.hx rfl (C45.dec at_137) rfl (XS.iload C45.here C45.hx rfl (C45.dec at_139) rfl (XS.iload C45.here C45.hx rfl (C45.dec at_141) rfl kk_))))))) ?_
      refine C45.static (y := (⟨"com/example/cohabit/cohabit/FlowBoundsCrossedPinLaw", "over", "(III)Z"⟩ : MethodName)) (W := 0) (argsL := [(.int xa1), (.int xb1), (.int xt)]) (rest := []) (W32 hw) (W33 hw) (W34 hw) (W3 hw) (by decide) (rm_over l Z a0 EL G xa1 xb1 xt h44 C45.old) (fun _ => rfl) rfl all0 (by decide) (by decide) (by decide) (by decide) (lenOf pd_28494949295a rfl) rfl (Nat.le_of_ble_eq_true rfl) rfl at_143 (pc' := 146) rfl ?_
      intro vm47 T47 h47 v47 C47 A47 M47 q47
      obtain ⟨rfl, rfl⟩ := q47
      show Endw p e below T47 (mkF m 146 #[.val (.int i0), .val (.int i1), .val (.int i2), .val (.int i3), .val (.int i4), .val (.int i5), .val (.int (2 : Int32)), .val (.int xa0), .val (.int xa1), .val (.int xa2), .val (.int xb0), .val (.int xb1), .val (.int xb2), .val (.int xt), .val (.double (FP.ddiv (FP.i2d xt) (4611686018427387904 : UInt64))), .second, .val (.ref d32), .val (.ref d36), .val (.ref a37), .unset] [(.int (own_ov xa1 xb1 xt))]) _
      by_cases c48 : (own_ov xa1 xb1 xt) = (0 : Int32)
      · refine Endw.st (T' := T47) (g' := (mkF m 178 #[.val (.int i0), .val (.int i1), .val (.int i2), .val (.int i3), .val (.int i4), .val (.int i5), .val (.int (2 : Int32)), .val (.int xa0), .val (.int xa1), .val (.int xa2), .val (.int xb0), .val (.int xb1), .val (.int xb2), .val (.int xt), .val (.double (FP.ddiv (FP.i2d xt) (4611686018427387904 : UInt64))), .second, .val (.ref d32), .val (.ref d36), .val (.ref a37), .val (.int (0 : Int32))] [(.double (FP.ddiv (FP.i2d xt) (4611686018427387904 : UInt64))), (.ref a37)])) (fun tt_ kk_ => XS.ifNo C47.here C47.hx rfl (C47.dec at_146) rfl (XT.i0_ne_f c48) (XS.iload C47.here C47.hx rfl (C47.dec at_149) rfl (XS.iconst C47.here C47.hx rfl (C47.dec at_151) (XS.icmpYes C47.here C47.hx rfl (pc0 := 152) rfl (C47.dec at_152) rfl (XT.ii_le_t (by decide)) (by decide) rfl (XS.iconst C47.here C47.hx rfl (C47.dec at_171) (XS.istore C47.here C47.hx rfl (C47.dec at_172) rfl (l' := #[.val (.int i0), .val (.int i1), .val (.int i2), .val (.int i3), .val (.int i4), .val (.int i5), .val (.int (2 : Int32)), .val (.int xa0), .val (.int xa1), .val (.int xa2), .val (.int xb0), .val (.int xb1), .val (.int xb2), .val (.int xt), .val (.double (FP.ddiv (FP.i2d xt) (4611686018427387904 : UInt64))), .second, .val (.ref d32), .val (.ref d36), .val (.ref a37), .val (.int (0 : Int32))]) rfl (XS.aload C47.here C47.hx rfl (C47.dec at_174) rfl rfl (XS.dload C47.here C47.hx rfl (C47.dec at_176) rfl kk_)))))))) ?_
        refine C47.virtual (y := (⟨"com/example/cohabit/cohabit/FlowBounds", "crossed", "(D)Z"⟩ : MethodName)) (z := (⟨"com/example/cohabit/cohabit/FlowBounds", "crossed", "(D)Z"⟩ : MethodName)) (W := 0) (a := a37) (argsL := [(.double (FP.ddiv (FP.i2d xt) (4611686018427387904 : UInt64)))]) (rest := []) (W35 hw) (W36 hw) (fun _ q => notFace_of_selects (args := #[]) (mvT q (W38 hw))) (W38 hw) (W37 hw) (W39 hw) (W11 hw) (by decide) (rm_crossed2 l Z a0 EL G a37 d44 e44 kd32 kd36 xt xa0 xb0 xa1 xb1 h44 C47.old E44 F44 f44 V44 U44 sxa0 sxb0 sxa1 sxb1 sxt) (fun _ => rfl) rfl E44 all0 (by decide) (by decide) (by decide) (by decide) (lenOf pd_2844295a rfl) rfl (Nat.le_of_ble_eq_true rfl) rfl at_178 (pc' := 181) rfl ?_
        intro vm49 T49 h49 v49 C49 A49 M49 q49
        rw [if_pos c46, if_pos c48] at q49
        obtain ⟨rfl, rfl⟩ := q49
        show Endw p e below T49 (mkF m 181 #[.val (.int i0), .val (.int i1), .val (.int i2), .val (.int i3), .val (.int i4), .val (.int i5), .val (.int (2 : Int32)), .val (.int xa0), .val (.int xa1), .val (.int xa2), .val (.int xb0), .val (.int xb1), .val (.int xb2), .val (.int xt), .val (.double (FP.ddiv (FP.i2d xt) (4611686018427387904 : UInt64))), .second, .val (.ref d32), .val (.ref d36), .val (.ref a37), .val (.int (0 : Int32))] [(.int (0 : Int32))]) _
        refine Endw.st (T' := T49) (g' := (mkF m 191 #[.val (.int i0), .val (.int i1), .val (.int i2), .val (.int i3), .val (.int i4), .val (.int i5), .val (.int (2 : Int32)), .val (.int xa0), .val (.int xa1), .val (.int xa2), .val (.int xb0), .val (.int xb1), .val (.int xb2), .val (.int xt), .val (.double (FP.ddiv (FP.i2d xt) (4611686018427387904 : UInt64))), .second, .val (.ref d32), .val (.ref d36), .val (.ref a37), .val (.int (0 : Int32))] [(.int (1 : Int32))])) (fun tt_ kk_ => XS.iload C49.here C49.hx rfl (C49.dec at_181) rfl (XS.icmpNo C49.here C49.hx rfl (C49.dec at_183) rfl (XT.ii_ne_f (by decide)) (XS.iconst C49.here C49.hx rfl (C49.dec at_186) (XS.goto C49.here C49.hx rfl (pc0 := 187) rfl (C49.dec at_187) (by decide) rfl kk_)))) ?_
        exact C49.retI (t := .boolean) rfl (by simp) rfl at_191 (by decide) (by decide) rfl
      · refine Endw.st (T' := T47) (g' := (mkF m 178 #[.val (.int i0), .val (.int i1), .val (.int i2), .val (.int i3), .val (.int i4), .val (.int i5), .val (.int (2 : Int32)), .val (.int xa0), .val (.int xa1), .val (.int xa2), .val (.int xb0), .val (.int xb1), .val (.int xb2), .val (.int xt), .val (.double (FP.ddiv (FP.i2d xt) (4611686018427387904 : UInt64))), .second, .val (.ref d32), .val (.ref d36), .val (.ref a37), .val (.int (1 : Int32))] [(.double (FP.ddiv (FP.i2d xt) (4611686018427387904 : UInt64))), (.ref a37)])) (fun tt_ kk_ => XS.ifYes C47.here C47.hx rfl (pc0 := 146) rfl (C47.dec at_146) rfl (XT.i0_ne_t c48) (by decide) rfl (XS.iconst C47.here C47.hx rfl (C47.dec at_167) (XS.goto C47.here C47.hx rfl (pc0 := 168) rfl (C47.dec at_168) (by decide) rfl (XS.istore C47.here C47.hx rfl (C47.dec at_172) rfl (l' := #[.val (.int i0), .val (.int i1), .val (.int i2), .val (.int i3), .val (.int i4), .val (.int i5), .val (.int (2 : Int32)), .val (.int xa0), .val (.int xa1), .val (.int xa2), .val (.int xb0), .val (.int xb1), .val (.int xb2), .val (.int xt), .val (.double (FP.ddiv (FP.i2d xt) (4611686018427387904 : UInt64))), .second, .val (.ref d32), .val (.ref d36), .val (.ref a37), .val (.int (1 : Int32))]) rfl (XS.aload C47.here C47.hx rfl (C47.dec at_174) rfl rfl (XS.dload C47.here C47.hx rfl (C47.dec at_176) rfl kk_)))))) ?_
        refine C47.virtual (y := (⟨"com/example/cohabit/cohabit/FlowBounds", "crossed", "(D)Z"⟩ : MethodName)) (z := (⟨"com/example/cohabit/cohabit/FlowBounds", "crossed", "(D)Z"⟩ : MethodName)) (W := 0) (a := a37) (argsL := [(.double (FP.ddiv (FP.i2d xt) (4611686018427387904 : UInt64)))]) (rest := []) (W35 hw) (W36 hw) (fun _ q => notFace_of_selects (args := #[]) (mvT q (W38 hw))) (W38 hw) (W37 hw) (W39 hw) (W11 hw) (by decide) (rm_crossed2 l Z a0 EL G a37 d44 e44 kd32 kd36 xt xa0 xb0 xa1 xb1 h44 C47.old E44 F44 f44 V44 U44 sxa0 sxb0 sxa1 sxb1 sxt) (fun _ => rfl) rfl E44 all0 (by decide) (by decide) (by decide) (by decide) (lenOf pd_2844295a rfl) rfl (Nat.le_of_ble_eq_true rfl) rfl at_178 (pc' := 181) rfl ?_
        intro vm50 T50 h50 v50 C50 A50 M50 q50
        rw [if_pos c46, if_neg c48] at q50
        obtain ⟨rfl, rfl⟩ := q50
        show Endw p e below T50 (mkF m 181 #[.val (.int i0), .val (.int i1), .val (.int i2), .val (.int i3), .val (.int i4), .val (.int i5), .val (.int (2 : Int32)), .val (.int xa0), .val (.int xa1), .val (.int xa2), .val (.int xb0), .val (.int xb1), .val (.int xb2), .val (.int xt), .val (.double (FP.ddiv (FP.i2d xt) (4611686018427387904 : UInt64))), .second, .val (.ref d32), .val (.ref d36), .val (.ref a37), .val (.int (1 : Int32))] [(.int (1 : Int32))]) _
        refine Endw.st (T' := T50) (g' := (mkF m 191 #[.val (.int i0), .val (.int i1), .val (.int i2), .val (.int i3), .val (.int i4), .val (.int i5), .val (.int (2 : Int32)), .val (.int xa0), .val (.int xa1), .val (.int xa2), .val (.int xb0), .val (.int xb1), .val (.int xb2), .val (.int xt), .val (.double (FP.ddiv (FP.i2d xt) (4611686018427387904 : UInt64))), .second, .val (.ref d32), .val (.ref d36), .val (.ref a37), .val (.int (1 : Int32))] [(.int (1 : Int32))])) (fun tt_ kk_ => XS.iload C50.here C50.hx rfl (C50.dec at_181) rfl (XS.icmpNo C50.here C50.hx rfl (C50.dec at_183) rfl (XT.ii_ne_f (by decide)) (XS.iconst C50.here C50.hx rfl (C50.dec at_186) (XS.goto C50.here C50.hx rfl (pc0 := 187) rfl (C50.dec at_187) (by decide) rfl kk_)))) ?_
        exact C50.retI (t := .boolean) rfl (by simp) rfl at_191 (by decide) (by decide) rfl
    · refine Endw.st (T' := T45) (g' := (mkF m 178 #[.val (.int i0), .val (.int i1), .val (.int i2), .val (.int i3), .val (.int i4), .val (.int i5), .val (.int (2 : Int32)), .val (.int xa0), .val (.int xa1), .val (.int xa2), .val (.int xb0), .val (.int xb1), .val (.int xb2), .val (.int xt), .val (.double (FP.ddiv (FP.i2d xt) (4611686018427387904 : UInt64))), .second, .val (.ref d32), .val (.ref d36), .val (.ref a37), .val (.int (1 : Int32))] [(.double (FP.ddiv (FP.i2d xt) (4611686018427387904 : UInt64))), (.ref a37)])) (fun tt_ kk_ => XS.ifYes C45.here C45.hx rfl (pc0 := 128) rfl (C45.dec at_128) rfl (XT.i0_ne_t c46) (by decide) rfl (XS.iconst C45.here C45.hx rfl (C45.dec at_167) (XS.goto C45.here C45.hx rfl (pc0 := 168) rfl (C45.dec at_168) (by decide) rfl (XS.istore C45.here C45.hx rfl (C45.dec at_172) rfl (l' := #[.val (.int i0), .val (.int i1), .val (.int i2), .val (.int i3), .val (.int i4), .val (.int i5), .val (.int (2 : Int32)), .val (.int xa0), .val (.int xa1), .val (.int xa2), .val (.int xb0), .val (.int xb1), .val (.int xb2), .val (.int xt), .val (.double (FP.ddiv (FP.i2d xt) (4611686018427387904 : UInt64))), .second, .val (.ref d32), .val (.ref d36), .val (.ref a37), .val (.int (1 : Int32))]) rfl (XS.aload C45.here C45.hx rfl (C45.dec at_174) rfl rfl (XS.dload C45.here C45.hx rfl (C45.dec at_176) rfl kk_)))))) ?_
      refine C45.virtual (y := (⟨"com/example/cohabit/cohabit/FlowBounds", "crossed", "(D)Z"⟩ : MethodName)) (z := (⟨"com/example/cohabit/cohabit/FlowBounds", "crossed", "(D)Z"⟩ : MethodName)) (W := 0) (a := a37) (argsL := [(.double (FP.ddiv (FP.i2d xt) (4611686018427387904 : UInt64)))]) (rest := []) (W35 hw) (W36 hw) (fun _ q => notFace_of_selects (args := #[]) (mvT q (W38 hw))) (W38 hw) (W37 hw) (W39 hw) (W11 hw) (by decide) (rm_crossed2 l Z a0 EL G a37 d44 e44 kd32 kd36 xt xa0 xb0 xa1 xb1 h44 C45.old E44 F44 f44 V44 U44 sxa0 sxb0 sxa1 sxb1 sxt) (fun _ => rfl) rfl E44 all0 (by decide) (by decide) (by decide) (by decide) (lenOf pd_2844295a rfl) rfl (Nat.le_of_ble_eq_true rfl) rfl at_178 (pc' := 181) rfl ?_
      intro vm51 T51 h51 v51 C51 A51 M51 q51
      rw [if_neg c46] at q51
      obtain ⟨rfl, rfl⟩ := q51
      show Endw p e below T51 (mkF m 181 #[.val (.int i0), .val (.int i1), .val (.int i2), .val (.int i3), .val (.int i4), .val (.int i5), .val (.int (2 : Int32)), .val (.int xa0), .val (.int xa1), .val (.int xa2), .val (.int xb0), .val (.int xb1), .val (.int xb2), .val (.int xt), .val (.double (FP.ddiv (FP.i2d xt) (4611686018427387904 : UInt64))), .second, .val (.ref d32), .val (.ref d36), .val (.ref a37), .val (.int (1 : Int32))] [(.int (1 : Int32))]) _
      refine Endw.st (T' := T51) (g' := (mkF m 191 #[.val (.int i0), .val (.int i1), .val (.int i2), .val (.int i3), .val (.int i4), .val (.int i5), .val (.int (2 : Int32)), .val (.int xa0), .val (.int xa1), .val (.int xa2), .val (.int xb0), .val (.int xb1), .val (.int xb2), .val (.int xt), .val (.double (FP.ddiv (FP.i2d xt) (4611686018427387904 : UInt64))), .second, .val (.ref d32), .val (.ref d36), .val (.ref a37), .val (.int (1 : Int32))] [(.int (1 : Int32))])) (fun tt_ kk_ => XS.iload C51.here C51.hx rfl (C51.dec at_181) rfl (XS.icmpNo C51.here C51.hx rfl (C51.dec at_183) rfl (XT.ii_ne_f (by decide)) (XS.iconst C51.here C51.hx rfl (C51.dec at_186) (XS.goto C51.here C51.hx rfl (pc0 := 187) rfl (C51.dec at_187) (by decide) rfl kk_)))) ?_
      exact C51.retI (t := .boolean) rfl (by simp) rfl at_191 (by decide) (by decide) rfl
  · rw [e3]
    show Endw p e below T0 (mkF m 63 #[.val (.int i0), .val (.int i1), .val (.int i2), .val (.int i3), .val (.int i4), .val (.int i5), .val (.int (3 : Int32)), .val (.int xa0), .val (.int xa1), .val (.int xa2), .val (.int xb0), .val (.int xb1), .val (.int xb2), .val (.int xt), .val (.double (FP.ddiv (FP.i2d xt) (4611686018427387904 : UInt64))), .second, .unset, .unset, .unset, .unset] []) _
    refine Endw.st (T' := T0) (g' := (mkF m 74 #[.val (.int i0), .val (.int i1), .val (.int i2), .val (.int i3), .val (.int i4), .val (.int i5), .val (.int (3 : Int32)), .val (.int xa0), .val (.int xa1), .val (.int xa2), .val (.int xb0), .val (.int xb1), .val (.int xb2), .val (.int xt), .val (.double (FP.ddiv (FP.i2d xt) (4611686018427387904 : UInt64))), .second, .unset, .unset, .unset, .unset] [(.double (FP.i2d xa2)), (.double (FP.i2d xa1)), (.double (FP.i2d xa0)), (.int (3 : Int32))])) (fun tt_ kk_ => XS.iload C0.here C0.hx rfl (C0.dec at_63) rfl (XS.iload C0.here C0.hx rfl (C0.dec at_65) rfl (XS.i2dS C0.here C0.hx rfl (C0.dec at_67) rfl rfl (XS.iload C0.here C0.hx rfl (C0.dec at_68) rfl (XS.i2dS C0.here C0.hx rfl (C0.dec at_70) rfl rfl (XS.iload C0.here C0.hx rfl (C0.dec at_71) rfl (XS.i2dS C0.here C0.hx rfl (C0.dec at_73) rfl rfl kk_))))))) ?_
    refine C0.static (y := (⟨"com/example/cohabit/cohabit/FlowBoundsCrossedPinLaw", "take", "(IDDD)[D"⟩ : MethodName)) (W := 0) (argsL := [(.int (3 : Int32)), (.double (FP.i2d xa0)), (.double (FP.i2d xa1)), (.double (FP.i2d xa2))]) (rest := []) (W1 hw) (W2 hw) (W4 hw) (W3 hw) (by decide) (rm_take3 l Z a0 EL G (FP.i2d xa0) (FP.i2d xa1) (FP.i2d xa2) h C0.old) (fun _ => rfl) rfl all0 (by decide) (by decide) (by decide) (by decide) (lenOf pd_2849444444295b44 rfl) rfl (Nat.le_of_ble_eq_true rfl) rfl at_74 (pc' := 77) rfl ?_
    intro vm52 T52 h52 v52 C52 A52 M52 q52
    obtain ⟨d52, kd52, rfl, K52, ge52, zg52, V52, E52⟩ := q52
    show Endw p e below T52 (mkF m 77 #[.val (.int i0), .val (.int i1), .val (.int i2), .val (.int i3), .val (.int i4), .val (.int i5), .val (.int (3 : Int32)), .val (.int xa0), .val (.int xa1), .val (.int xa2), .val (.int xb0), .val (.int xb1), .val (.int xb2), .val (.int xt), .val (.double (FP.ddiv (FP.i2d xt) (4611686018427387904 : UInt64))), .second, .unset, .unset, .unset, .unset] [(.ref d52)]) _
    refine Endw.st (T' := T52) (g' := (mkF m 83 #[.val (.int i0), .val (.int i1), .val (.int i2), .val (.int i3), .val (.int i4), .val (.int i5), .val (.int (3 : Int32)), .val (.int xa0), .val (.int xa1), .val (.int xa2), .val (.int xb0), .val (.int xb1), .val (.int xb2), .val (.int xt), .val (.double (FP.ddiv (FP.i2d xt) (4611686018427387904 : UInt64))), .second, .val (.ref d52), .unset, .unset, .unset] [(.int xb0), (.int (3 : Int32))])) (fun tt_ kk_ => XS.astore C52.here C52.hx rfl (C52.dec at_77) rfl rfl (l' := #[.val (.int i0), .val (.int i1), .val (.int i2), .val (.int i3), .val (.int i4), .val (.int i5), .val (.int (3 : Int32)), .val (.int xa0), .val (.int xa1), .val (.int xa2), .val (.int xb0), .val (.int xb1), .val (.int xb2), .val (.int xt), .val (.double (FP.ddiv (FP.i2d xt) (4611686018427387904 : UInt64))), .second, .val (.ref d52), .unset, .unset, .unset]) rfl (XS.iload C52.here C52.hx rfl (C52.dec at_79) rfl (XS.iload C52.here C52.hx rfl (C52.dec at_81) rfl kk_))) ?_
    refine C52.static (y := (⟨"com/example/cohabit/cohabit/FlowBoundsCrossedPinLaw", "up", "(I)D"⟩ : MethodName)) (W := 1) (argsL := [(.int xb0)]) (rest := [(.int (3 : Int32))]) (W6 hw) (W7 hw) (W8 hw) (W3 hw) (by decide) (rm_up l Z a0 EL G xb0 h52 C52.old) (fun _ => rfl) rfl all0 (by decide) (by decide) (by decide) (by decide) (lenOf pd_28492944 rfl) rfl (Nat.le_of_ble_eq_true rfl) rfl at_83 (pc' := 86) rfl ?_
    intro vm53 T53 h53 v53 C53 A53 M53 q53
    obtain ⟨rfl, rfl⟩ := q53
    show Endw p e below T53 (mkF m 86 #[.val (.int i0), .val (.int i1), .val (.int i2), .val (.int i3), .val (.int i4), .val (.int i5), .val (.int (3 : Int32)), .val (.int xa0), .val (.int xa1), .val (.int xa2), .val (.int xb0), .val (.int xb1), .val (.int xb2), .val (.int xt), .val (.double (FP.ddiv (FP.i2d xt) (4611686018427387904 : UInt64))), .second, .val (.ref d52), .unset, .unset, .unset] [(.double (own_up xb0)), (.int (3 : Int32))]) _
    refine Endw.st (T' := T53) (g' := (mkF m 88 #[.val (.int i0), .val (.int i1), .val (.int i2), .val (.int i3), .val (.int i4), .val (.int i5), .val (.int (3 : Int32)), .val (.int xa0), .val (.int xa1), .val (.int xa2), .val (.int xb0), .val (.int xb1), .val (.int xb2), .val (.int xt), .val (.double (FP.ddiv (FP.i2d xt) (4611686018427387904 : UInt64))), .second, .val (.ref d52), .unset, .unset, .unset] [(.int xb1), (.double (own_up xb0)), (.int (3 : Int32))])) (fun tt_ kk_ => XS.iload C53.here C53.hx rfl (C53.dec at_86) rfl kk_) ?_
    refine C53.static (y := (⟨"com/example/cohabit/cohabit/FlowBoundsCrossedPinLaw", "up", "(I)D"⟩ : MethodName)) (W := 3) (argsL := [(.int xb1)]) (rest := [(.double (own_up xb0)), (.int (3 : Int32))]) (W6 hw) (W7 hw) (W8 hw) (W3 hw) (by decide) (rm_up l Z a0 EL G xb1 h52 C53.old) (fun _ => rfl) rfl all0 (by decide) (by decide) (by decide) (by decide) (lenOf pd_28492944 rfl) rfl (Nat.le_of_ble_eq_true rfl) rfl at_88 (pc' := 91) rfl ?_
    intro vm54 T54 h54 v54 C54 A54 M54 q54
    obtain ⟨rfl, rfl⟩ := q54
    show Endw p e below T54 (mkF m 91 #[.val (.int i0), .val (.int i1), .val (.int i2), .val (.int i3), .val (.int i4), .val (.int i5), .val (.int (3 : Int32)), .val (.int xa0), .val (.int xa1), .val (.int xa2), .val (.int xb0), .val (.int xb1), .val (.int xb2), .val (.int xt), .val (.double (FP.ddiv (FP.i2d xt) (4611686018427387904 : UInt64))), .second, .val (.ref d52), .unset, .unset, .unset] [(.double (own_up xb1)), (.double (own_up xb0)), (.int (3 : Int32))]) _
    refine Endw.st (T' := T54) (g' := (mkF m 93 #[.val (.int i0), .val (.int i1), .val (.int i2), .val (.int i3), .val (.int i4), .val (.int i5), .val (.int (3 : Int32)), .val (.int xa0), .val (.int xa1), .val (.int xa2), .val (.int xb0), .val (.int xb1), .val (.int xb2), .val (.int xt), .val (.double (FP.ddiv (FP.i2d xt) (4611686018427387904 : UInt64))), .second, .val (.ref d52), .unset, .unset, .unset] [(.int xb2), (.double (own_up xb1)), (.double (own_up xb0)), (.int (3 : Int32))])) (fun tt_ kk_ => XS.iload C54.here C54.hx rfl (C54.dec at_91) rfl kk_) ?_
    refine C54.static (y := (⟨"com/example/cohabit/cohabit/FlowBoundsCrossedPinLaw", "up", "(I)D"⟩ : MethodName)) (W := 5) (argsL := [(.int xb2)]) (rest := [(.double (own_up xb1)), (.double (own_up xb0)), (.int (3 : Int32))]) (W6 hw) (W7 hw) (W8 hw) (W3 hw) (by decide) (rm_up l Z a0 EL G xb2 h52 C54.old) (fun _ => rfl) rfl all0 (by decide) (by decide) (by decide) (by decide) (lenOf pd_28492944 rfl) rfl (Nat.le_of_ble_eq_true rfl) rfl at_93 (pc' := 96) rfl ?_
    intro vm55 T55 h55 v55 C55 A55 M55 q55
    obtain ⟨rfl, rfl⟩ := q55
    show Endw p e below T55 (mkF m 96 #[.val (.int i0), .val (.int i1), .val (.int i2), .val (.int i3), .val (.int i4), .val (.int i5), .val (.int (3 : Int32)), .val (.int xa0), .val (.int xa1), .val (.int xa2), .val (.int xb0), .val (.int xb1), .val (.int xb2), .val (.int xt), .val (.double (FP.ddiv (FP.i2d xt) (4611686018427387904 : UInt64))), .second, .val (.ref d52), .unset, .unset, .unset] [(.double (own_up xb2)), (.double (own_up xb1)), (.double (own_up xb0)), (.int (3 : Int32))]) _
    refine C55.static (y := (⟨"com/example/cohabit/cohabit/FlowBoundsCrossedPinLaw", "take", "(IDDD)[D"⟩ : MethodName)) (W := 0) (argsL := [(.int (3 : Int32)), (.double (own_up xb0)), (.double (own_up xb1)), (.double (own_up xb2))]) (rest := []) (W1 hw) (W2 hw) (W4 hw) (W3 hw) (by decide) (rm_take3 l Z a0 EL G (own_up xb0) (own_up xb1) (own_up xb2) h52 C55.old) (fun _ => rfl) rfl all0 (by decide) (by decide) (by decide) (by decide) (lenOf pd_2849444444295b44 rfl) rfl (Nat.le_of_ble_eq_true rfl) rfl at_96 (pc' := 99) rfl ?_
    intro vm56 T56 h56 v56 C56 A56 M56 q56
    obtain ⟨d56, kd56, rfl, K56, ge56, zg56, V56, E56⟩ := q56
    show Endw p e below T56 (mkF m 99 #[.val (.int i0), .val (.int i1), .val (.int i2), .val (.int i3), .val (.int i4), .val (.int i5), .val (.int (3 : Int32)), .val (.int xa0), .val (.int xa1), .val (.int xa2), .val (.int xb0), .val (.int xb1), .val (.int xb2), .val (.int xt), .val (.double (FP.ddiv (FP.i2d xt) (4611686018427387904 : UInt64))), .second, .val (.ref d52), .unset, .unset, .unset] [(.ref d56)]) _
    refine Endw.st (T' := T56) (g' := (mkF m 101 #[.val (.int i0), .val (.int i1), .val (.int i2), .val (.int i3), .val (.int i4), .val (.int i5), .val (.int (3 : Int32)), .val (.int xa0), .val (.int xa1), .val (.int xa2), .val (.int xb0), .val (.int xb1), .val (.int xb2), .val (.int xt), .val (.double (FP.ddiv (FP.i2d xt) (4611686018427387904 : UInt64))), .second, .val (.ref d52), .val (.ref d56), .unset, .unset] [])) (fun tt_ kk_ => XS.astore C56.here C56.hx rfl (C56.dec at_99) rfl rfl (l' := #[.val (.int i0), .val (.int i1), .val (.int i2), .val (.int i3), .val (.int i4), .val (.int i5), .val (.int (3 : Int32)), .val (.int xa0), .val (.int xa1), .val (.int xa2), .val (.int xb0), .val (.int xb1), .val (.int xb2), .val (.int xt), .val (.double (FP.ddiv (FP.i2d xt) (4611686018427387904 : UInt64))), .second, .val (.ref d52), .val (.ref d56), .unset, .unset]) rfl kk_) ?_
    refine C56.new (W9 hw) (W10 hw) (W11 hw) at_101 (pc' := 104) rfl (by decide) (by decide) ?_
    intro T57 h57 a57 C57 K57 A57 ge57 zg57 E57 D57 S57
    show Endw p e below T57 (mkF m 104 #[.val (.int i0), .val (.int i1), .val (.int i2), .val (.int i3), .val (.int i4), .val (.int i5), .val (.int (3 : Int32)), .val (.int xa0), .val (.int xa1), .val (.int xa2), .val (.int xb0), .val (.int xb1), .val (.int xb2), .val (.int xt), .val (.double (FP.ddiv (FP.i2d xt) (4611686018427387904 : UInt64))), .second, .val (.ref d52), .val (.ref d56), .unset, .unset] [(.ref a57)]) _
    refine Endw.st (T' := T57) (g' := (mkF m 109 #[.val (.int i0), .val (.int i1), .val (.int i2), .val (.int i3), .val (.int i4), .val (.int i5), .val (.int (3 : Int32)), .val (.int xa0), .val (.int xa1), .val (.int xa2), .val (.int xb0), .val (.int xb1), .val (.int xb2), .val (.int xt), .val (.double (FP.ddiv (FP.i2d xt) (4611686018427387904 : UInt64))), .second, .val (.ref d52), .val (.ref d56), .unset, .unset] [(.ref d56), (.ref d52), (.ref a57), (.ref a57)])) (fun tt_ kk_ => XS.dup C57.here C57.hx rfl (C57.dec at_104) rfl rfl (XS.aload C57.here C57.hx rfl (C57.dec at_105) rfl rfl (XS.aload C57.here C57.hx rfl (C57.dec at_107) rfl rfl kk_))) ?_
    have f58 := ((V52.keep K56 nin0).keep K57 nin0)
    have f59 := (V56.keep K57 nin0)
    have f60 : Fld Z h57 a57 "com/example/cohabit/cohabit/FlowBounds" "lower" "[D" .null := D57 (Or.inr (W29 hw)) (ty := (.array .double)) (by decide)
    have f61 : Fld Z h57 a57 "com/example/cohabit/cohabit/FlowBounds" "upper" "[D" .null := D57 (Or.inr (W31 hw)) (ty := (.array .double)) (by decide)
    have f62 := ((E52.keep K56).keep K57)
    have f63 := (E56.keep K57)
    refine C57.special (y := (⟨"com/example/cohabit/cohabit/FlowBounds", "<init>", "([D[D)V"⟩ : MethodName)) (W := 1) (a := a57) (argsL := [(.ref d52), (.ref d56)]) (rest := [(.ref a57)]) rfl (W12 hw) (W13 hw) (W14 hw) (W11 hw) (by decide) (rm_init3 l Z a0 EL G a57 d52 d56 kd52 kd56 xa0 xb0 xa1 xb1 xa2 xb2 h57 C57.old E57 f60 f61 zg57 f58 f62 f59 f63 sxa0 sxb0 sxa1 sxb1 sxa2 sxb2) (fun _ => rfl) rfl (allS ⟨E57.lt, S57⟩ all0) (by decide) (by decide) (by decide) (by decide) (lenOf pd_285b445b442956 rfl) rfl (Nat.le_of_ble_eq_true rfl) rfl at_109 (pc' := 112) rfl ?_
    intro vm64 T64 h64 v64 C64 A64 M64 q64
    obtain ⟨rfl, d64, e64, K64, ge64, gf64, E64, F64, f64, V64, U64⟩ := q64
    show Endw p e below T64 (mkF m 112 #[.val (.int i0), .val (.int i1), .val (.int i2), .val (.int i3), .val (.int i4), .val (.int i5), .val (.int (3 : Int32)), .val (.int xa0), .val (.int xa1), .val (.int xa2), .val (.int xb0), .val (.int xb1), .val (.int xb2), .val (.int xt), .val (.double (FP.ddiv (FP.i2d xt) (4611686018427387904 : UInt64))), .second, .val (.ref d52), .val (.ref d56), .unset, .unset] [(.ref a57)]) _
    refine Endw.st (T' := T64) (g' := (mkF m 125 #[.val (.int i0), .val (.int i1), .val (.int i2), .val (.int i3), .val (.int i4), .val (.int i5), .val (.int (3 : Int32)), .val (.int xa0), .val (.int xa1), .val (.int xa2), .val (.int xb0), .val (.int xb1), .val (.int xb2), .val (.int xt), .val (.double (FP.ddiv (FP.i2d xt) (4611686018427387904 : UInt64))), .second, .val (.ref d52), .val (.ref d56), .val (.ref a57), .unset] [(.int xt), (.int xb0), (.int xa0)])) (fun tt_ kk_ => XS.astore C64.here C64.hx rfl (C64.dec at_112) rfl rfl (l' := #[.val (.int i0), .val (.int i1), .val (.int i2), .val (.int i3), .val (.int i4), .val (.int i5), .val (.int (3 : Int32)), .val (.int xa0), .val (.int xa1), .val (.int xa2), .val (.int xb0), .val (.int xb1), .val (.int xb2), .val (.int xt), .val (.double (FP.ddiv (FP.i2d xt) (4611686018427387904 : UInt64))), .second, .val (.ref d52), .val (.ref d56), .val (.ref a57), .unset]) rfl (XS.iload C64.here C64.hx rfl (C64.dec at_114) rfl (XS.ifNo C64.here C64.hx rfl (C64.dec at_116) rfl (XT.i0_le_f (by decide)) (XS.iload C64.here C64.hx rfl (C64.dec at_119) rfl (XS.iload C64.here C64.hx rfl (C64.dec at_121) rfl (XS.iload C64.here C64.hx rfl (C64.dec at_123) rfl kk_)))))) ?_
    refine C64.static (y := (⟨"com/example/cohabit/cohabit/FlowBoundsCrossedPinLaw", "over", "(III)Z"⟩ : MethodName)) (W := 0) (argsL := [(.int xa0), (.int xb0), (.int xt)]) (rest := []) (W32 hw) (W33 hw) (W34 hw) (W3 hw) (by decide) (rm_over l Z a0 EL G xa0 xb0 xt h64 C64.old) (fun _ => rfl) rfl all0 (by decide) (by decide) (by decide) (by decide) (lenOf pd_28494949295a rfl) rfl (Nat.le_of_ble_eq_true rfl) rfl at_125 (pc' := 128) rfl ?_
    intro vm65 T65 h65 v65 C65 A65 M65 q65
    obtain ⟨rfl, rfl⟩ := q65
    show Endw p e below T65 (mkF m 128 #[.val (.int i0), .val (.int i1), .val (.int i2), .val (.int i3), .val (.int i4), .val (.int i5), .val (.int (3 : Int32)), .val (.int xa0), .val (.int xa1), .val (.int xa2), .val (.int xb0), .val (.int xb1), .val (.int xb2), .val (.int xt), .val (.double (FP.ddiv (FP.i2d xt) (4611686018427387904 : UInt64))), .second, .val (.ref d52), .val (.ref d56), .val (.ref a57), .unset] [(.int (own_ov xa0 xb0 xt))]) _
    by_cases c66 : (own_ov xa0 xb0 xt) = (0 : Int32)
    · refine Endw.st (T' := T65) (g' := (mkF m 143 #[.val (.int i0), .val (.int i1), .val (.int i2), .val (.int i3), .val (.int i4), .val (.int i5), .val (.int (3 : Int32)), .val (.int xa0), .val (.int xa1), .val (.int xa2), .val (.int xb0), .val (.int xb1), .val (.int xb2), .val (.int xt), .val (.double (FP.ddiv (FP.i2d xt) (4611686018427387904 : UInt64))), .second, .val (.ref d52), .val (.ref d56), .val (.ref a57), .unset] [(.int xt), (.int xb1), (.int xa1)])) (fun tt_ kk_ => XS.ifNo C65.here C65.hx rfl (C65.dec at_128) rfl (XT.i0_ne_f c66) (XS.iload C65.here C65.hx rfl (C65.dec at_131) rfl (XS.iconst C65.here C65.hx rfl (C65.dec at_133) (XS.icmpNo C65.here C65.hx rfl (C65.dec at_134) rfl (XT.ii_le_f (by decide)) (XS.iload C65.here C65.hx rfl (C65.dec at_137) rfl (XS.iload C65.here C65.hx rfl (C65.dec at_139) rfl (XS.iload C65.here C65.hx rfl (C65.dec at_141) rfl kk_))))))) ?_
      refine C65.static (y := (⟨"com/example/cohabit/cohabit/FlowBoundsCrossedPinLaw", "over", "(III)Z"⟩ : MethodName)) (W := 0) (argsL := [(.int xa1), (.int xb1), (.int xt)]) (rest := []) (W32 hw) (W33 hw) (W34 hw) (W3 hw) (by decide) (rm_over l Z a0 EL G xa1 xb1 xt h64 C65.old) (fun _ => rfl) rfl all0 (by decide) (by decide) (by decide) (by decide) (lenOf pd_28494949295a rfl) rfl (Nat.le_of_ble_eq_true rfl) rfl at_143 (pc' := 146) rfl ?_
      intro vm67 T67 h67 v67 C67 A67 M67 q67
      obtain ⟨rfl, rfl⟩ := q67
      show Endw p e below T67 (mkF m 146 #[.val (.int i0), .val (.int i1), .val (.int i2), .val (.int i3), .val (.int i4), .val (.int i5), .val (.int (3 : Int32)), .val (.int xa0), .val (.int xa1), .val (.int xa2), .val (.int xb0), .val (.int xb1), .val (.int xb2), .val (.int xt), .val (.double (FP.ddiv (FP.i2d xt) (4611686018427387904 : UInt64))), .second, .val (.ref d52), .val (.ref d56), .val (.ref a57), .unset] [(.int (own_ov xa1 xb1 xt))]) _
      by_cases c68 : (own_ov xa1 xb1 xt) = (0 : Int32)
      · refine Endw.st (T' := T67) (g' := (mkF m 161 #[.val (.int i0), .val (.int i1), .val (.int i2), .val (.int i3), .val (.int i4), .val (.int i5), .val (.int (3 : Int32)), .val (.int xa0), .val (.int xa1), .val (.int xa2), .val (.int xb0), .val (.int xb1), .val (.int xb2), .val (.int xt), .val (.double (FP.ddiv (FP.i2d xt) (4611686018427387904 : UInt64))), .second, .val (.ref d52), .val (.ref d56), .val (.ref a57), .unset] [(.int xt), (.int xb2), (.int xa2)])) (fun tt_ kk_ => XS.ifNo C67.here C67.hx rfl (C67.dec at_146) rfl (XT.i0_ne_f c68) (XS.iload C67.here C67.hx rfl (C67.dec at_149) rfl (XS.iconst C67.here C67.hx rfl (C67.dec at_151) (XS.icmpNo C67.here C67.hx rfl (C67.dec at_152) rfl (XT.ii_le_f (by decide)) (XS.iload C67.here C67.hx rfl (C67.dec at_155) rfl (XS.iload C67.here C67.hx rfl (C67.dec at_157) rfl (XS.iload C67.here C67.hx rfl (C67.dec at_159) rfl kk_))))))) ?_
        refine C67.static (y := (⟨"com/example/cohabit/cohabit/FlowBoundsCrossedPinLaw", "over", "(III)Z"⟩ : MethodName)) (W := 0) (argsL := [(.int xa2), (.int xb2), (.int xt)]) (rest := []) (W32 hw) (W33 hw) (W34 hw) (W3 hw) (by decide) (rm_over l Z a0 EL G xa2 xb2 xt h64 C67.old) (fun _ => rfl) rfl all0 (by decide) (by decide) (by decide) (by decide) (lenOf pd_28494949295a rfl) rfl (Nat.le_of_ble_eq_true rfl) rfl at_161 (pc' := 164) rfl ?_
        intro vm69 T69 h69 v69 C69 A69 M69 q69
        obtain ⟨rfl, rfl⟩ := q69
        show Endw p e below T69 (mkF m 164 #[.val (.int i0), .val (.int i1), .val (.int i2), .val (.int i3), .val (.int i4), .val (.int i5), .val (.int (3 : Int32)), .val (.int xa0), .val (.int xa1), .val (.int xa2), .val (.int xb0), .val (.int xb1), .val (.int xb2), .val (.int xt), .val (.double (FP.ddiv (FP.i2d xt) (4611686018427387904 : UInt64))), .second, .val (.ref d52), .val (.ref d56), .val (.ref a57), .unset] [(.int (own_ov xa2 xb2 xt))]) _
        by_cases c70 : (own_ov xa2 xb2 xt) = (0 : Int32)
        · refine Endw.st (T' := T69) (g' := (mkF m 178 #[.val (.int i0), .val (.int i1), .val (.int i2), .val (.int i3), .val (.int i4), .val (.int i5), .val (.int (3 : Int32)), .val (.int xa0), .val (.int xa1), .val (.int xa2), .val (.int xb0), .val (.int xb1), .val (.int xb2), .val (.int xt), .val (.double (FP.ddiv (FP.i2d xt) (4611686018427387904 : UInt64))), .second, .val (.ref d52), .val (.ref d56), .val (.ref a57), .val (.int (0 : Int32))] [(.double (FP.ddiv (FP.i2d xt) (4611686018427387904 : UInt64))), (.ref a57)])) (fun tt_ kk_ => XS.ifYes C69.here C69.hx rfl (pc0 := 164) rfl (C69.dec at_164) rfl (XT.i0_eq_t c70) (by decide) rfl (XS.iconst C69.here C69.hx rfl (C69.dec at_171) (XS.istore C69.here C69.hx rfl (C69.dec at_172) rfl (l' := #[.val (.int i0), .val (.int i1), .val (.int i2), .val (.int i3), .val (.int i4), .val (.int i5), .val (.int (3 : Int32)), .val (.int xa0), .val (.int xa1), .val (.int xa2), .val (.int xb0), .val (.int xb1), .val (.int xb2), .val (.int xt), .val (.double (FP.ddiv (FP.i2d xt) (4611686018427387904 : UInt64))), .second, .val (.ref d52), .val (.ref d56), .val (.ref a57), .val (.int (0 : Int32))]) rfl (XS.aload C69.here C69.hx rfl (C69.dec at_174) rfl rfl (XS.dload C69.here C69.hx rfl (C69.dec at_176) rfl kk_))))) ?_
          refine C69.virtual (y := (⟨"com/example/cohabit/cohabit/FlowBounds", "crossed", "(D)Z"⟩ : MethodName)) (z := (⟨"com/example/cohabit/cohabit/FlowBounds", "crossed", "(D)Z"⟩ : MethodName)) (W := 0) (a := a57) (argsL := [(.double (FP.ddiv (FP.i2d xt) (4611686018427387904 : UInt64)))]) (rest := []) (W35 hw) (W36 hw) (fun _ q => notFace_of_selects (args := #[]) (mvT q (W38 hw))) (W38 hw) (W37 hw) (W39 hw) (W11 hw) (by decide) (rm_crossed3 l Z a0 EL G a57 d64 e64 kd52 kd56 xt xa0 xb0 xa1 xb1 xa2 xb2 h64 C69.old E64 F64 f64 V64 U64 sxa0 sxb0 sxa1 sxb1 sxa2 sxb2 sxt) (fun _ => rfl) rfl E64 all0 (by decide) (by decide) (by decide) (by decide) (lenOf pd_2844295a rfl) rfl (Nat.le_of_ble_eq_true rfl) rfl at_178 (pc' := 181) rfl ?_
          intro vm71 T71 h71 v71 C71 A71 M71 q71
          rw [if_pos c66, if_pos c68, if_pos c70] at q71
          obtain ⟨rfl, rfl⟩ := q71
          show Endw p e below T71 (mkF m 181 #[.val (.int i0), .val (.int i1), .val (.int i2), .val (.int i3), .val (.int i4), .val (.int i5), .val (.int (3 : Int32)), .val (.int xa0), .val (.int xa1), .val (.int xa2), .val (.int xb0), .val (.int xb1), .val (.int xb2), .val (.int xt), .val (.double (FP.ddiv (FP.i2d xt) (4611686018427387904 : UInt64))), .second, .val (.ref d52), .val (.ref d56), .val (.ref a57), .val (.int (0 : Int32))] [(.int (0 : Int32))]) _
          refine Endw.st (T' := T71) (g' := (mkF m 191 #[.val (.int i0), .val (.int i1), .val (.int i2), .val (.int i3), .val (.int i4), .val (.int i5), .val (.int (3 : Int32)), .val (.int xa0), .val (.int xa1), .val (.int xa2), .val (.int xb0), .val (.int xb1), .val (.int xb2), .val (.int xt), .val (.double (FP.ddiv (FP.i2d xt) (4611686018427387904 : UInt64))), .second, .val (.ref d52), .val (.ref d56), .val (.ref a57), .val (.int (0 : Int32))] [(.int (1 : Int32))])) (fun tt_ kk_ => XS.iload C71.here C71.hx rfl (C71.dec at_181) rfl (XS.icmpNo C71.here C71.hx rfl (C71.dec at_183) rfl (XT.ii_ne_f (by decide)) (XS.iconst C71.here C71.hx rfl (C71.dec at_186) (XS.goto C71.here C71.hx rfl (pc0 := 187) rfl (C71.dec at_187) (by decide) rfl kk_)))) ?_
          exact C71.retI (t := .boolean) rfl (by simp) rfl at_191 (by decide) (by decide) rfl
        · refine Endw.st (T' := T69) (g' := (mkF m 178 #[.val (.int i0), .val (.int i1), .val (.int i2), .val (.int i3), .val (.int i4), .val (.int i5), .val (.int (3 : Int32)), .val (.int xa0), .val (.int xa1), .val (.int xa2), .val (.int xb0), .val (.int xb1), .val (.int xb2), .val (.int xt), .val (.double (FP.ddiv (FP.i2d xt) (4611686018427387904 : UInt64))), .second, .val (.ref d52), .val (.ref d56), .val (.ref a57), .val (.int (1 : Int32))] [(.double (FP.ddiv (FP.i2d xt) (4611686018427387904 : UInt64))), (.ref a57)])) (fun tt_ kk_ => XS.ifNo C69.here C69.hx rfl (C69.dec at_164) rfl (XT.i0_eq_f c70) (XS.iconst C69.here C69.hx rfl (C69.dec at_167) (XS.goto C69.here C69.hx rfl (pc0 := 168) rfl (C69.dec at_168) (by decide) rfl (XS.istore C69.here C69.hx rfl (C69.dec at_172) rfl (l' := #[.val (.int i0), .val (.int i1), .val (.int i2), .val (.int i3), .val (.int i4), .val (.int i5), .val (.int (3 : Int32)), .val (.int xa0), .val (.int xa1), .val (.int xa2), .val (.int xb0), .val (.int xb1), .val (.int xb2), .val (.int xt), .val (.double (FP.ddiv (FP.i2d xt) (4611686018427387904 : UInt64))), .second, .val (.ref d52), .val (.ref d56), .val (.ref a57), .val (.int (1 : Int32))]) rfl (XS.aload C69.here C69.hx rfl (C69.dec at_174) rfl rfl (XS.dload C69.here C69.hx rfl (C69.dec at_176) rfl kk_)))))) ?_
          refine C69.virtual (y := (⟨"com/example/cohabit/cohabit/FlowBounds", "crossed", "(D)Z"⟩ : MethodName)) (z := (⟨"com/example/cohabit/cohabit/FlowBounds", "crossed", "(D)Z"⟩ : MethodName)) (W := 0) (a := a57) (argsL := [(.double (FP.ddiv (FP.i2d xt) (4611686018427387904 : UInt64)))]) (rest := []) (W35 hw) (W36 hw) (fun _ q => notFace_of_selects (args := #[]) (mvT q (W38 hw))) (W38 hw) (W37 hw) (W39 hw) (W11 hw) (by decide) (rm_crossed3 l Z a0 EL G a57 d64 e64 kd52 kd56 xt xa0 xb0 xa1 xb1 xa2 xb2 h64 C69.old E64 F64 f64 V64 U64 sxa0 sxb0 sxa1 sxb1 sxa2 sxb2 sxt) (fun _ => rfl) rfl E64 all0 (by decide) (by decide) (by decide) (by decide) (lenOf pd_2844295a rfl) rfl (Nat.le_of_ble_eq_true rfl) rfl at_178 (pc' := 181) rfl ?_
          intro vm72 T72 h72 v72 C72 A72 M72 q72
          rw [if_pos c66, if_pos c68, if_neg c70] at q72
          obtain ⟨rfl, rfl⟩ := q72
          show Endw p e below T72 (mkF m 181 #[.val (.int i0), .val (.int i1), .val (.int i2), .val (.int i3), .val (.int i4), .val (.int i5), .val (.int (3 : Int32)), .val (.int xa0), .val (.int xa1), .val (.int xa2), .val (.int xb0), .val (.int xb1), .val (.int xb2), .val (.int xt), .val (.double (FP.ddiv (FP.i2d xt) (4611686018427387904 : UInt64))), .second, .val (.ref d52), .val (.ref d56), .val (.ref a57), .val (.int (1 : Int32))] [(.int (1 : Int32))]) _
          refine Endw.st (T' := T72) (g' := (mkF m 191 #[.val (.int i0), .val (.int i1), .val (.int i2), .val (.int i3), .val (.int i4), .val (.int i5), .val (.int (3 : Int32)), .val (.int xa0), .val (.int xa1), .val (.int xa2), .val (.int xb0), .val (.int xb1), .val (.int xb2), .val (.int xt), .val (.double (FP.ddiv (FP.i2d xt) (4611686018427387904 : UInt64))), .second, .val (.ref d52), .val (.ref d56), .val (.ref a57), .val (.int (1 : Int32))] [(.int (1 : Int32))])) (fun tt_ kk_ => XS.iload C72.here C72.hx rfl (C72.dec at_181) rfl (XS.icmpNo C72.here C72.hx rfl (C72.dec at_183) rfl (XT.ii_ne_f (by decide)) (XS.iconst C72.here C72.hx rfl (C72.dec at_186) (XS.goto C72.here C72.hx rfl (pc0 := 187) rfl (C72.dec at_187) (by decide) rfl kk_)))) ?_
          exact C72.retI (t := .boolean) rfl (by simp) rfl at_191 (by decide) (by decide) rfl
      · refine Endw.st (T' := T67) (g' := (mkF m 178 #[.val (.int i0), .val (.int i1), .val (.int i2), .val (.int i3), .val (.int i4), .val (.int i5), .val (.int (3 : Int32)), .val (.int xa0), .val (.int xa1), .val (.int xa2), .val (.int xb0), .val (.int xb1), .val (.int xb2), .val (.int xt), .val (.double (FP.ddiv (FP.i2d xt) (4611686018427387904 : UInt64))), .second, .val (.ref d52), .val (.ref d56), .val (.ref a57), .val (.int (1 : Int32))] [(.double (FP.ddiv (FP.i2d xt) (4611686018427387904 : UInt64))), (.ref a57)])) (fun tt_ kk_ => XS.ifYes C67.here C67.hx rfl (pc0 := 146) rfl (C67.dec at_146) rfl (XT.i0_ne_t c68) (by decide) rfl (XS.iconst C67.here C67.hx rfl (C67.dec at_167) (XS.goto C67.here C67.hx rfl (pc0 := 168) rfl (C67.dec at_168) (by decide) rfl (XS.istore C67.here C67.hx rfl (C67.dec at_172) rfl (l' := #[.val (.int i0), .val (.int i1), .val (.int i2), .val (.int i3), .val (.int i4), .val (.int i5), .val (.int (3 : Int32)), .val (.int xa0), .val (.int xa1), .val (.int xa2), .val (.int xb0), .val (.int xb1), .val (.int xb2), .val (.int xt), .val (.double (FP.ddiv (FP.i2d xt) (4611686018427387904 : UInt64))), .second, .val (.ref d52), .val (.ref d56), .val (.ref a57), .val (.int (1 : Int32))]) rfl (XS.aload C67.here C67.hx rfl (C67.dec at_174) rfl rfl (XS.dload C67.here C67.hx rfl (C67.dec at_176) rfl kk_)))))) ?_
        refine C67.virtual (y := (⟨"com/example/cohabit/cohabit/FlowBounds", "crossed", "(D)Z"⟩ : MethodName)) (z := (⟨"com/example/cohabit/cohabit/FlowBounds", "crossed", "(D)Z"⟩ : MethodName)) (W := 0) (a := a57) (argsL := [(.double (FP.ddiv (FP.i2d xt) (4611686018427387904 : UInt64)))]) (rest := []) (W35 hw) (W36 hw) (fun _ q => notFace_of_selects (args := #[]) (mvT q (W38 hw))) (W38 hw) (W37 hw) (W39 hw) (W11 hw) (by decide) (rm_crossed3 l Z a0 EL G a57 d64 e64 kd52 kd56 xt xa0 xb0 xa1 xb1 xa2 xb2 h64 C67.old E64 F64 f64 V64 U64 sxa0 sxb0 sxa1 sxb1 sxa2 sxb2 sxt) (fun _ => rfl) rfl E64 all0 (by decide) (by decide) (by decide) (by decide) (lenOf pd_2844295a rfl) rfl (Nat.le_of_ble_eq_true rfl) rfl at_178 (pc' := 181) rfl ?_
        intro vm73 T73 h73 v73 C73 A73 M73 q73
        rw [if_pos c66, if_neg c68] at q73
        obtain ⟨rfl, rfl⟩ := q73
        show Endw p e below T73 (mkF m 181 #[.val (.int i0), .val (.int i1), .val (.int i2), .val (.int i3), .val (.int i4), .val (.int i5), .val (.int (3 : Int32)), .val (.int xa0), .val (.int xa1), .val (.int xa2), .val (.int xb0), .val (.int xb1), .val (.int xb2), .val (.int xt), .val (.double (FP.ddiv (FP.i2d xt) (4611686018427387904 : UInt64))), .second, .val (.ref d52), .val (.ref d56), .val (.ref a57), .val (.int (1 : Int32))] [(.int (1 : Int32))]) _
        refine Endw.st (T' := T73) (g' := (mkF m 191 #[.val (.int i0), .val (.int i1), .val (.int i2), .val (.int i3), .val (.int i4), .val (.int i5), .val (.int (3 : Int32)), .val (.int xa0), .val (.int xa1), .val (.int xa2), .val (.int xb0), .val (.int xb1), .val (.int xb2), .val (.int xt), .val (.double (FP.ddiv (FP.i2d xt) (4611686018427387904 : UInt64))), .second, .val (.ref d52), .val (.ref d56), .val (.ref a57), .val (.int (1 : Int32))] [(.int (1 : Int32))])) (fun tt_ kk_ => XS.iload C73.here C73.hx rfl (C73.dec at_181) rfl (XS.icmpNo C73.here C73.hx rfl (C73.dec at_183) rfl (XT.ii_ne_f (by decide)) (XS.iconst C73.here C73.hx rfl (C73.dec at_186) (XS.goto C73.here C73.hx rfl (pc0 := 187) rfl (C73.dec at_187) (by decide) rfl kk_)))) ?_
        exact C73.retI (t := .boolean) rfl (by simp) rfl at_191 (by decide) (by decide) rfl
    · refine Endw.st (T' := T65) (g' := (mkF m 178 #[.val (.int i0), .val (.int i1), .val (.int i2), .val (.int i3), .val (.int i4), .val (.int i5), .val (.int (3 : Int32)), .val (.int xa0), .val (.int xa1), .val (.int xa2), .val (.int xb0), .val (.int xb1), .val (.int xb2), .val (.int xt), .val (.double (FP.ddiv (FP.i2d xt) (4611686018427387904 : UInt64))), .second, .val (.ref d52), .val (.ref d56), .val (.ref a57), .val (.int (1 : Int32))] [(.double (FP.ddiv (FP.i2d xt) (4611686018427387904 : UInt64))), (.ref a57)])) (fun tt_ kk_ => XS.ifYes C65.here C65.hx rfl (pc0 := 128) rfl (C65.dec at_128) rfl (XT.i0_ne_t c66) (by decide) rfl (XS.iconst C65.here C65.hx rfl (C65.dec at_167) (XS.goto C65.here C65.hx rfl (pc0 := 168) rfl (C65.dec at_168) (by decide) rfl (XS.istore C65.here C65.hx rfl (C65.dec at_172) rfl (l' := #[.val (.int i0), .val (.int i1), .val (.int i2), .val (.int i3), .val (.int i4), .val (.int i5), .val (.int (3 : Int32)), .val (.int xa0), .val (.int xa1), .val (.int xa2), .val (.int xb0), .val (.int xb1), .val (.int xb2), .val (.int xt), .val (.double (FP.ddiv (FP.i2d xt) (4611686018427387904 : UInt64))), .second, .val (.ref d52), .val (.ref d56), .val (.ref a57), .val (.int (1 : Int32))]) rfl (XS.aload C65.here C65.hx rfl (C65.dec at_174) rfl rfl (XS.dload C65.here C65.hx rfl (C65.dec at_176) rfl kk_)))))) ?_
      refine C65.virtual (y := (⟨"com/example/cohabit/cohabit/FlowBounds", "crossed", "(D)Z"⟩ : MethodName)) (z := (⟨"com/example/cohabit/cohabit/FlowBounds", "crossed", "(D)Z"⟩ : MethodName)) (W := 0) (a := a57) (argsL := [(.double (FP.ddiv (FP.i2d xt) (4611686018427387904 : UInt64)))]) (rest := []) (W35 hw) (W36 hw) (fun _ q => notFace_of_selects (args := #[]) (mvT q (W38 hw))) (W38 hw) (W37 hw) (W39 hw) (W11 hw) (by decide) (rm_crossed3 l Z a0 EL G a57 d64 e64 kd52 kd56 xt xa0 xb0 xa1 xb1 xa2 xb2 h64 C65.old E64 F64 f64 V64 U64 sxa0 sxb0 sxa1 sxb1 sxa2 sxb2 sxt) (fun _ => rfl) rfl E64 all0 (by decide) (by decide) (by decide) (by decide) (lenOf pd_2844295a rfl) rfl (Nat.le_of_ble_eq_true rfl) rfl at_178 (pc' := 181) rfl ?_
      intro vm74 T74 h74 v74 C74 A74 M74 q74
      rw [if_neg c66] at q74
      obtain ⟨rfl, rfl⟩ := q74
      show Endw p e below T74 (mkF m 181 #[.val (.int i0), .val (.int i1), .val (.int i2), .val (.int i3), .val (.int i4), .val (.int i5), .val (.int (3 : Int32)), .val (.int xa0), .val (.int xa1), .val (.int xa2), .val (.int xb0), .val (.int xb1), .val (.int xb2), .val (.int xt), .val (.double (FP.ddiv (FP.i2d xt) (4611686018427387904 : UInt64))), .second, .val (.ref d52), .val (.ref d56), .val (.ref a57), .val (.int (1 : Int32))] [(.int (1 : Int32))]) _
      refine Endw.st (T' := T74) (g' := (mkF m 191 #[.val (.int i0), .val (.int i1), .val (.int i2), .val (.int i3), .val (.int i4), .val (.int i5), .val (.int (3 : Int32)), .val (.int xa0), .val (.int xa1), .val (.int xa2), .val (.int xb0), .val (.int xb1), .val (.int xb2), .val (.int xt), .val (.double (FP.ddiv (FP.i2d xt) (4611686018427387904 : UInt64))), .second, .val (.ref d52), .val (.ref d56), .val (.ref a57), .val (.int (1 : Int32))] [(.int (1 : Int32))])) (fun tt_ kk_ => XS.iload C74.here C74.hx rfl (C74.dec at_181) rfl (XS.icmpNo C74.here C74.hx rfl (C74.dec at_183) rfl (XT.ii_ne_f (by decide)) (XS.iconst C74.here C74.hx rfl (C74.dec at_186) (XS.goto C74.here C74.hx rfl (pc0 := 187) rfl (C74.dec at_187) (by decide) rfl kk_)))) ?_
      exact C74.retI (t := .boolean) rfl (by simp) rfl at_191 (by decide) (by decide) rfl
set_option maxRecDepth 65536 in
set_option maxHeartbeats 40000000 in
theorem comes_1 {Post : Tables → Env → Array Value → State → Outcome → State → Prop} (hpost : ∀ tb e args s v u, (limb_1_1.after args s (.returned v) u = true ∧ limb_1_2.after args s (.returned v) u = true ∧ True) → FrameEnd s (.returned v) u (Jvm.fieldLocs frame_1_writes args s ++ Jvm.arrayLocs frame_1_arrays args s ++ Jvm.staticLocs frame_1_statics s) 24 128 → Post tb e args s (.returned v) u) :
    ArmFor flags0 classFile x code maxLocals ret World_1 tables_1 room_1 Calls_1 rest_1 Pre_1 Post := by
  intro l hfl _ _ p e ha hc hk s m args below hf hA hF happ hP
  obtain ⟨hcalls, hrest, hpre⟩ := hP
  obtain ⟨-, -, -, hnamed, -, -, -, hat⟩ := (Spec.applies_iff hf).mp happ
  obtain ⟨hg, hn⟩ := and_e (Cond.before_iff.mp (show (Jvm.Cond.and given_1 narrow_1).before args s = true from hpre))
  obtain ⟨h1, g0⟩ := and_e hg
  obtain ⟨a0, g1⟩ := and_e g0
  obtain ⟨a1, g2⟩ := and_e g1
  obtain ⟨a2, g3⟩ := and_e g2
  obtain ⟨a3, g4⟩ := and_e g3
  obtain ⟨a4, g5⟩ := and_e g4
  have a5 := g5
  obtain ⟨w0, w1, w2, w3, w4, w5, rfl⟩ : ∃ w0 w1 w2 w3 w4 w5 : Value, args = #[w0, w1, w2, w3, w4, w5] := by
    have hs : args.size = 6 := by simpa [Cond.value, given_1] using h1
    obtain ⟨L⟩ := args
    match L, hs with
    | [w0, w1, w2, w3, w4, w5], _ => exact ⟨w0, w1, w2, w3, w4, w5, rfl⟩
  have hw := fun d (hd : d ∈ tables_1) => atoms_spec (ws := Jvm.Cond.code x code maxLocals ret :: tables_1) hat d (List.mem_cons_of_mem _ hd)
  obtain ⟨i0, e0⟩ := is_v a0
  obtain rfl : w0 = (.int i0) := Option.some.inj e0
  obtain ⟨i1, e1⟩ := is_v a1
  obtain rfl : w1 = (.int i1) := Option.some.inj e1
  obtain ⟨i2, e2⟩ := is_v a2
  obtain rfl : w2 = (.int i2) := Option.some.inj e2
  obtain ⟨i3, e3⟩ := is_v a3
  obtain rfl : w3 = (.int i3) := Option.some.inj e3
  obtain ⟨i4, e4⟩ := is_v a4
  obtain rfl : w4 = (.int i4) := Option.some.inj e4
  obtain ⟨i5, e5⟩ := is_v a5
  obtain rfl : w5 = (.int i5) := Option.some.inj e5
  have hEW : EW s #[(.int i0), (.int i1), (.int i2), (.int i3), (.int i4), (.int i5)] [] := EW.nil
  have hG : Glob s #[(.int i0), (.int i1), (.int i2), (.int i3), (.int i4), (.int i5)] [] := ⟨hw, hEW, rfl⟩
  have hCH : CHv s [] s.vm s.heap := fun p hp => by cases hp
  obtain ⟨n, o, h1, h2, h3, v, L, rfl, ⟨rfl, N, -⟩, ⟨-, hwm⟩, hq⟩ := rm_law l s _ [] hG i0 i1 i2 i3 i4 i5 s.heap ⟨Nat.le_refl _, fun _ _ q => q⟩ p e ha hc hk s m _ below hf ((Spec.applies_iff_loose hf).mp happ).1 ⟨rfl, State.Warmed39.refl s, rfl, hCH, all0⟩ trivial
  refine ⟨n, _, h1, h2, h3, hpost _ _ _ _ _ _ ⟨Cond.after_iff.mpr rfl, Cond.after_iff.mpr (eq_i res_at (Term.int_eval (1)) rfl), trivial⟩ ⟨hq.1, (hwm rfl).1, (hq.2.2.2.sift fun y hy => Or.inr (N y hy)).mono (by decide) (by decide)⟩⟩
theorem main_1_1 : Claimed_1_1 := comes_1 fun _ _ _ _ _ _ h hF => ⟨h.1, hF⟩
theorem main_1_2 : Claimed_1_2 := comes_1 fun _ _ _ _ _ _ h hF => ⟨h.2.1, hF⟩
end Jvm.Pilot.@@N@@
namespace Jvm.Pilot.@@N@@
open Jvm Jvm.ClassFile Sem Op Lib Jvm.Free Jvm.Stand Jvm.Pilot.@@N@@.Jvm.D
/-! MADE BY PROGRAM (witnessworld.py) out of the Statement's table words and the real class files: 11 classes; the members and pool entries that the words name. The judged class is class 1, her method 1. -/
namespace start1
open Jvm.ClassFile
def u (s : String) : CpInfo := .utf8 (stringToUtf16 s)
/-- a pool by its gaps: so many unusable entries, then the entry; so many at the end -/
def gap : Nat → List CpInfo → List CpInfo
  | 0, r => r
  | n + 1, r => .unusable :: gap n r
def poolList (es : List (Nat × CpInfo)) (last : Nat) : List CpInfo := es.foldr (fun e r => gap e.1 (e.2 :: r)) (gap last [])
def pool (es : List (Nat × CpInfo)) (last : Nat) : Array CpInfo := ⟨poolList es last⟩
def fileOf (pool : Array CpInfo) (this : Nat) (attrs : Array Attribute := #[]) (ms : Array MethodInfo := #[]) (fl : Nat := 33) (sup : Nat := 0) (ifs : Array Nat := #[]) (fds : Array FieldInfo := #[]) : ClassFile where
  minorVersion := 0
  majorVersion := 65
  constantPool := pool
  accessFlags := fl
  thisClass := this
  superClass := sup
  interfaces := ifs
  fields := fds
  methods := ms
  attributes := attrs
def plain (name : String) (sup : Option ClassId) : Class where
  name := name
  kind := .ordinary
  loader := none
  accessFlags := 33
  super := sup
  interfaces := #[]
  cf := none
  fields := #[]
  methods := #[]
  instanceTypes := #[]
  staticTypes := #[]
  resolved := #[]
  callSites := []
  init := .initialized
  statics := none
  mirror := none

def pool0 : Array CpInfo := pool [(5, u "<init>"), (0, u "()V"), (1, .class_ 10), (1, u "java/lang/Object"), (85, u "clone"), (0, u "()Ljava/lang/Object;")] 26

def k0c0 : Code := { maxStack := 0, maxLocals := 1, code := object_method_1_code, exceptionTable := #[], attributes := #[] }
def k0m0 : Method := { name := "<init>", desc := "()V", sig := { parameters := [], returnType := none }, accessFlags := 1, code := some k0c0 }
def k0m1 : Method := { name := "clone", desc := "()Ljava/lang/Object;", sig := { parameters := [], returnType := some (.object "java/lang/Object") }, accessFlags := 260, code := none }
/-- java/lang/Object -/
def k0 : Class := { plain "java/lang/Object" none with
  accessFlags := 33
  interfaces := #[]
  cf := some (fileOf pool0 8 #[] #[{ accessFlags := 1, nameIndex := 5, descriptorIndex := 6, attributes := #[] }, { accessFlags := 260, nameIndex := 96, descriptorIndex := 97, attributes := #[] }] 33 0 #[] #[])
  fields := #[]
  methods := #[k0m0, k0m1]
  instanceTypes := #[]
  staticTypes := #[]
  resolved := Array.replicate 124 none
  statics := none }

def pool1 : Array CpInfo := pool [(2, .class_ 4), (1, u "java/lang/Object"), (0, u "<init>"), (0, u "()V"), (0, .double 4611686018427387904), (1, .methodref 10 11), (0, .class_ 12), (0, .nameAndType 13 14), (0, u "com/example/cohabit/cohabit/FlowBoundsCrossedPinLaw"), (0, u "take"), (0, u "(IDDD)[D"), (0, .methodref 10 16), (0, .nameAndType 17 18), (0, u "up"), (0, u "(I)D"), (0, .class_ 20), (0, u "com/example/cohabit/cohabit/FlowBounds"), (0, .methodref 19 22), (0, .nameAndType 5 23), (0, u "([D[D)V"), (0, .methodref 10 25), (0, .nameAndType 26 27), (0, u "over"), (0, u "(III)Z"), (0, .methodref 19 29), (0, .nameAndType 30 31), (0, u "crossed"), (0, u "(D)Z"), (2, .double 9218868437227405312), (3, u "law"), (0, u "(IIIIII)Z")] 5

def k1m0 : Method := { name := "<init>", desc := "()V", sig := { parameters := [], returnType := none }, accessFlags := 1, code := none }
def k1c1 : Code := { maxStack := 7, maxLocals := 20, code := code, exceptionTable := #[], attributes := #[] }
def k1m1 : Method := { name := "law", desc := "(IIIIII)Z", sig := { parameters := [.int, .int, .int, .int, .int, .int], returnType := some .boolean }, accessFlags := 9, code := some k1c1 }
def k1c2 : Code := { maxStack := 2, maxLocals := 1, code := method_3_code, exceptionTable := #[], attributes := #[] }
def k1m2 : Method := { name := "up", desc := "(I)D", sig := { parameters := [.int], returnType := some .double }, accessFlags := 10, code := some k1c2 }
def k1c3 : Code := { maxStack := 3, maxLocals := 3, code := method_4_code, exceptionTable := #[], attributes := #[] }
def k1m3 : Method := { name := "over", desc := "(III)Z", sig := { parameters := [.int, .int, .int], returnType := some .boolean }, accessFlags := 10, code := some k1c3 }
def k1c4 : Code := { maxStack := 5, maxLocals := 7, code := method_5_code, exceptionTable := #[], attributes := #[] }
def k1m4 : Method := { name := "take", desc := "(IDDD)[D", sig := { parameters := [.int, .double, .double, .double], returnType := some (.array .double) }, accessFlags := 10, code := some k1c4 }
/-- com/example/cohabit/cohabit/FlowBoundsCrossedPinLaw -/
def k1 : Class := { plain "com/example/cohabit/cohabit/FlowBoundsCrossedPinLaw" (some 0) with
  accessFlags := 49
  interfaces := #[]
  cf := some (fileOf pool1 10 #[] #[{ accessFlags := 1, nameIndex := 5, descriptorIndex := 6, attributes := #[] }, { accessFlags := 9, nameIndex := 38, descriptorIndex := 39, attributes := #[] }, { accessFlags := 10, nameIndex := 17, descriptorIndex := 18, attributes := #[] }, { accessFlags := 10, nameIndex := 26, descriptorIndex := 27, attributes := #[] }, { accessFlags := 10, nameIndex := 13, descriptorIndex := 14, attributes := #[] }] 49 2 #[] #[])
  fields := #[]
  methods := #[k1m0, k1m1, k1m2, k1m3, k1m4]
  instanceTypes := #[]
  staticTypes := #[]
  resolved := Array.replicate 45 none
  statics := none }

def pool2 : Array CpInfo := pool [(1, .methodref 2 3), (0, .class_ 4), (0, .nameAndType 5 6), (0, u "java/lang/Object"), (0, u "<init>"), (0, u "()V"), (11, .double 9218868437227405312), (4, .methodref 24 25), (0, .class_ 26), (0, .nameAndType 27 28), (0, u "[D"), (0, u "clone"), (0, u "()Ljava/lang/Object;"), (0, .fieldref 30 31), (0, .class_ 32), (0, .nameAndType 33 26), (0, u "com/example/cohabit/cohabit/FlowBounds"), (0, u "lower"), (0, .fieldref 30 35), (0, .nameAndType 36 26), (0, u "upper"), (8, u "([D[D)V"), (65, u "crossed"), (0, u "(D)Z")] 19

def k2c0 : Code := { maxStack := 7, maxLocals := 4, code := prog_10_method_1_code, exceptionTable := #[], attributes := #[] }
def k2m0 : Method := { name := "<init>", desc := "([D[D)V", sig := { parameters := [(.array .double), (.array .double)], returnType := none }, accessFlags := 1, code := some k2c0 }
def k2c1 : Code := { maxStack := 4, maxLocals := 4, code := prog_10_method_11_code, exceptionTable := #[], attributes := #[] }
def k2m1 : Method := { name := "crossed", desc := "(D)Z", sig := { parameters := [.double], returnType := some .boolean }, accessFlags := 0, code := some k2c1 }
/-- com/example/cohabit/cohabit/FlowBounds -/
def k2 : Class := { plain "com/example/cohabit/cohabit/FlowBounds" (some 0) with
  accessFlags := 49
  interfaces := #[]
  cf := some (fileOf pool2 30 #[] #[{ accessFlags := 1, nameIndex := 5, descriptorIndex := 45, attributes := #[] }, { accessFlags := 0, nameIndex := 111, descriptorIndex := 112, attributes := #[] }] 49 2 #[] #[{ accessFlags := 18, nameIndex := 33, descriptorIndex := 26, attributes := #[] }, { accessFlags := 18, nameIndex := 36, descriptorIndex := 26, attributes := #[] }])
  fields := #[{ name := "lower", type := (.array .double), accessFlags := 18, slot := 0, constantValue := 0 }, { name := "upper", type := (.array .double), accessFlags := 18, slot := 1, constantValue := 0 }]
  methods := #[k2m0, k2m1]
  instanceTypes := #[(.array .double), (.array .double)]
  staticTypes := #[]
  resolved := Array.replicate 132 none
  statics := none }

def pool3 : Array CpInfo := pool [(1, .class_ 2), (0, u "java/lang/Cloneable"), (0, .class_ 4), (0, u "java/lang/Object")] 2

/-- java/lang/Cloneable -/
def k3 : Class := { plain "java/lang/Cloneable" (some 0) with
  accessFlags := 1537
  interfaces := #[]
  cf := some (fileOf pool3 1 #[] #[] 1537 3 #[] #[])
  fields := #[]
  methods := #[]
  instanceTypes := #[]
  staticTypes := #[]
  resolved := Array.replicate 7 none
  statics := none }

def pool4 : Array CpInfo := pool [(1, u "java/io/Serializable"), (0, .class_ 1), (0, u "java/lang/Object"), (0, .class_ 3)] 3

/-- java/io/Serializable -/
def k4 : Class := { plain "java/io/Serializable" (some 0) with
  accessFlags := 1537
  interfaces := #[]
  cf := some (fileOf pool4 2 #[] #[] 1537 4 #[] #[])
  fields := #[]
  methods := #[]
  instanceTypes := #[]
  staticTypes := #[]
  resolved := Array.replicate 8 none
  statics := none }

/-- the primitive byte -/
def k5 : Class := { plain "byte" none with kind := .primitive 'B', accessFlags := 0x411 }
/-- [B -/
def k6 : Class := { plain "[B" (some 0) with kind := .array 5 .byte, interfaces := #[3, 4], accessFlags := 1041 }

/-- the primitive double -/
def k7 : Class := { plain "double" none with kind := .primitive 'D', accessFlags := 0x411 }
/-- [D -/
def k8 : Class := { plain "[D" (some 0) with kind := .array 7 .double, interfaces := #[3, 4], accessFlags := 1041 }

/-- the primitive int -/
def k9 : Class := { plain "int" none with kind := .primitive 'I', accessFlags := 0x411 }
/-- [I -/
def k10 : Class := { plain "[I" (some 0) with kind := .array 9 .int, interfaces := #[3, 4], accessFlags := 1041 }

def heap : Heap := #[]
def classes : Array Class := #[k0, k1, k2, k3, k4, k5, k6, k7, k8, k9, k10]
def interned : List (Array UInt16 × Addr) := []
def slotsUsed : Nat := 0
def theMethod : MethodId := ⟨1, 1⟩
def args0 : Array Value := #[.int 5, .int 6, .int 7, .int 100, .int 3, .int 3]
def aboutOver (below : List Frame) : State where
  vm := { classes := classes, interned := interned.toArray }
  heap := heap
  slotsUsed := slotsUsed
  threads := #[{ frames := .invoking theMethod args0 :: below }]
def below0 : List Frame := [.native { method := ⟨0, 0⟩, args := #[] }]
def about1 : State := aboutOver below0
def p0 : Program := .bare "" "" ""
def e0 : Env := launch0.env 0 0 0
theorem w_frames : about1.frames = Frame.invoking theMethod args0 :: below0 := rfl
set_option maxRecDepth 65536 in
theorem w_args : argsFit about1.vm theMethod args0 = true := by decide +kernel
set_option maxRecDepth 65536 in
theorem w_heap : heapFits about1 = true := by decide +kernel
set_option maxRecDepth 65536 in
theorem w_runnable : about1.curStatus? = some .runnable := by decide +kernel
set_option maxRecDepth 65536 in
theorem w_alone : about1.alone = true := by decide +kernel
set_option maxRecDepth 65536 in
theorem w_named : about1.methodNamed? x = some theMethod := by decide +kernel
set_option maxRecDepth 65536 in
theorem w_hears : about1.hears theMethod below0 = true := by decide +kernel
set_option maxRecDepth 65536 in
theorem w_ripe : about1.ripe theMethod args0 below0 = true := by decide +kernel
theorem w_running : about1.status = .running := rfl
set_option maxRecDepth 65536 in
theorem w_room : about1.hasRoom e0.platform room_1 = true :=
  launch0.hasRoom_least _ room_1 (by decide +kernel) (by decide +kernel) (by decide +kernel) (by decide +kernel) (by decide +kernel) (by decide +kernel)
theorem allAtoms_all (ts : List Jvm.Cond) (a : Array Jvm.Value) (st : Jvm.State) : (allAtoms ts).before a st = ts.all (fun c => c.before a st) := by
  induction ts with
  | nil => rfl
  | cons c t ih =>
    show (Jvm.Cond.and c (allAtoms t)).before a st = _
    rw [Jvm.Cond.before_and, ih, List.all_cons]
def words1 : List Jvm.Cond := Jvm.Cond.code x code maxLocals ret :: tables_1
/-- a 'code' word, met by the world's own term for the bytes: nothing is compared byte by byte -/
theorem code_word {y : MethodName} {bytes : ByteArray} {mx : Nat} {rt : Option FieldType} {a : Array Value} {s : State} {m : MethodId} {meth : Method} {c : Code} (h1 : s.methodNamed? y = some m) (h2 : s.vm.method? m = some meth) (h3 : meth.code = some c) (h4 : c.code = bytes)
    (h5 : (c.maxLocals == mx && c.exceptionTable.isEmpty && decide (c.maxStack ≤ mostOperands) && decide (meth.sig.returnType = rt) && !meth.locks && decide (parseMethodDescriptor y.desc = some meth.sig)) = true) : (Jvm.Cond.code y bytes mx rt).before a s = true := by
  simp only [Bool.and_eq_true, beq_iff_eq, Bool.not_eq_true', decide_eq_true_eq] at h5
  obtain ⟨⟨⟨⟨⟨g1, g2⟩, g3⟩, g4⟩, g5⟩, g6⟩ := h5
  simp [Cond.before, Cond.holds, Cond.value, h1, h2, h3, h4, g1, g2, g3, g4, g5, g6]
def isCode : Jvm.Cond → Bool
  | .code _ _ _ _ => true
  | _ => false
theorem all_split {L : List Jvm.Cond} {P : Jvm.Cond → Bool} (h1 : L.all (fun c => isCode c || P c) = true) (h2 : ∀ c ∈ L.filter isCode, P c = true) : L.all P = true := by
  refine List.all_eq_true.mpr fun c hc => ?_
  have h := List.all_eq_true.mp h1 c hc
  rcases Bool.eq_false_or_eq_true (isCode c) with hi | hi
  · exact h2 c (List.mem_filter.mpr ⟨hc, hi⟩)
  · simpa [hi] using h
set_option maxRecDepth 65536 in
theorem w_c0 : (Jvm.Cond.code x code maxLocals ret).before args0 about1 = true := code_word (m := ⟨1, 1⟩) (meth := k1m1) (c := k1c1) (by decide +kernel) rfl rfl rfl (by decide +kernel)
set_option maxRecDepth 65536 in
theorem w_c1 : (Jvm.Cond.code ({ cls := "com/example/cohabit/cohabit/FlowBoundsCrossedPinLaw", name := "take", desc := "(IDDD)[D" } : Jvm.MethodName) method_5_code (7 : Nat) (Option.some (Jvm.ClassFile.FieldType.array Jvm.ClassFile.FieldType.double))).before args0 about1 = true := code_word (m := ⟨1, 4⟩) (meth := k1m4) (c := k1c4) (by decide +kernel) rfl rfl rfl (by decide +kernel)
set_option maxRecDepth 65536 in
theorem w_c2 : (Jvm.Cond.code ({ cls := "com/example/cohabit/cohabit/FlowBoundsCrossedPinLaw", name := "up", desc := "(I)D" } : Jvm.MethodName) method_3_code (1 : Nat) (Option.some Jvm.ClassFile.FieldType.double)).before args0 about1 = true := code_word (m := ⟨1, 2⟩) (meth := k1m2) (c := k1c2) (by decide +kernel) rfl rfl rfl (by decide +kernel)
set_option maxRecDepth 65536 in
theorem w_c3 : (Jvm.Cond.code ({ cls := "com/example/cohabit/cohabit/FlowBounds", name := "<init>", desc := "([D[D)V" } : Jvm.MethodName) prog_10_method_1_code (4 : Nat) (Option.none : Option Jvm.ClassFile.FieldType)).before args0 about1 = true := code_word (m := ⟨2, 0⟩) (meth := k2m0) (c := k2c0) (by decide +kernel) rfl rfl rfl (by decide +kernel)
set_option maxRecDepth 65536 in
theorem w_c4 : (Jvm.Cond.code ({ cls := "java/lang/Object", name := "<init>", desc := "()V" } : Jvm.MethodName) object_method_1_code (1 : Nat) (Option.none : Option Jvm.ClassFile.FieldType)).before args0 about1 = true := code_word (m := ⟨0, 0⟩) (meth := k0m0) (c := k0c0) (by decide +kernel) rfl rfl rfl (by decide +kernel)
set_option maxRecDepth 65536 in
theorem w_c5 : (Jvm.Cond.code ({ cls := "com/example/cohabit/cohabit/FlowBoundsCrossedPinLaw", name := "over", desc := "(III)Z" } : Jvm.MethodName) method_4_code (3 : Nat) (Option.some Jvm.ClassFile.FieldType.boolean)).before args0 about1 = true := code_word (m := ⟨1, 3⟩) (meth := k1m3) (c := k1c3) (by decide +kernel) rfl rfl rfl (by decide +kernel)
set_option maxRecDepth 65536 in
theorem w_c6 : (Jvm.Cond.code ({ cls := "com/example/cohabit/cohabit/FlowBounds", name := "crossed", desc := "(D)Z" } : Jvm.MethodName) prog_10_method_11_code (4 : Nat) (Option.some Jvm.ClassFile.FieldType.boolean)).before args0 about1 = true := code_word (m := ⟨2, 1⟩) (meth := k2m1) (c := k2c1) (by decide +kernel) rfl rfl rfl (by decide +kernel)
def codes1 : List Jvm.Cond := [Jvm.Cond.code x code maxLocals ret, Jvm.Cond.code ({ cls := "com/example/cohabit/cohabit/FlowBoundsCrossedPinLaw", name := "take", desc := "(IDDD)[D" } : Jvm.MethodName) method_5_code (7 : Nat) (Option.some (Jvm.ClassFile.FieldType.array Jvm.ClassFile.FieldType.double)), Jvm.Cond.code ({ cls := "com/example/cohabit/cohabit/FlowBoundsCrossedPinLaw", name := "up", desc := "(I)D" } : Jvm.MethodName) method_3_code (1 : Nat) (Option.some Jvm.ClassFile.FieldType.double), Jvm.Cond.code ({ cls := "com/example/cohabit/cohabit/FlowBounds", name := "<init>", desc := "([D[D)V" } : Jvm.MethodName) prog_10_method_1_code (4 : Nat) (Option.none : Option Jvm.ClassFile.FieldType), Jvm.Cond.code ({ cls := "java/lang/Object", name := "<init>", desc := "()V" } : Jvm.MethodName) object_method_1_code (1 : Nat) (Option.none : Option Jvm.ClassFile.FieldType), Jvm.Cond.code ({ cls := "com/example/cohabit/cohabit/FlowBoundsCrossedPinLaw", name := "over", desc := "(III)Z" } : Jvm.MethodName) method_4_code (3 : Nat) (Option.some Jvm.ClassFile.FieldType.boolean), Jvm.Cond.code ({ cls := "com/example/cohabit/cohabit/FlowBounds", name := "crossed", desc := "(D)Z" } : Jvm.MethodName) prog_10_method_11_code (4 : Nat) (Option.some Jvm.ClassFile.FieldType.boolean)]
set_option maxRecDepth 65536 in
theorem codes_eq : words1.filter isCode = codes1 := rfl
theorem w_codes : ∀ c ∈ words1.filter isCode, c.before args0 about1 = true := by
  rw [codes_eq]
  intro c hc
  simp only [codes1, List.mem_cons, List.not_mem_nil, or_false] at hc
  rcases hc with rfl | rfl | rfl | rfl | rfl | rfl | rfl
  · exact w_c0
  · exact w_c1
  · exact w_c2
  · exact w_c3
  · exact w_c4
  · exact w_c5
  · exact w_c6
set_option maxRecDepth 65536 in
theorem w_t1 : (words1.take 24).all (fun c => isCode c || c.before args0 about1) = true := by decide +kernel
set_option maxRecDepth 65536 in
theorem w_t2 : (words1.drop 24).all (fun c => isCode c || c.before args0 about1) = true := by decide +kernel
theorem w_tables : (allAtoms (Jvm.Cond.code x code maxLocals ret :: tables_1)).before args0 about1 = true := by
  rw [allAtoms_all]
  show words1.all (fun c => c.before args0 about1) = true
  refine all_split ?_ w_codes
  rw [← List.take_append_drop 24 words1, List.all_append, w_t1, w_t2]
  rfl
set_option maxRecDepth 65536 in
theorem w_case : (Jvm.Cond.and given_1 narrow_1).before args0 about1 = true := by decide +kernel
theorem w_applies : (headSpec (Jvm.Cond.code x code maxLocals ret :: tables_1) room_1).applies x e0.platform about1 = true :=
  (Spec.applies_iff w_frames).mpr ⟨w_running, w_runnable, w_alone, w_named, w_hears, w_ripe, w_room, w_tables⟩
theorem atStart : AtStart classFile x code maxLocals ret World_1 tables_1 room_1 Calls_1 rest_1 Pre_1 launch0 p0 e0 about1 theMethod args0 below0 :=
  ⟨lists_1, trivial, launch0.admits_env _ _ _, launch0.least_env, fairChoices_fair.cas, fairChoices_fair.clock, w_frames, w_args, w_heap, w_applies, trivial, trivial, w_case⟩
end start1
theorem witness_1 : WitnessClaimed_1 := ⟨start1.p0, start1.e0, start1.about1, start1.theMethod, start1.args0, start1.below0, start1.atStart⟩
end Jvm.Pilot.@@N@@
