import JvmDerived
import JvmDerived.Pilot.@@N@@Statement
import JvmDerived.Pilot.@@N@@Code
set_option linter.unusedVariables false
set_option linter.unusedSimpArgs false
namespace Jvm.Own
open Jvm Jvm.ClassFile Sem Op Lib Jvm.Free Jvm.Stand Jvm.LawKit Jvm.RoadKit Bundle
section Walk
/-- from this frame the body comes to its end, and the end is as F says -/
def Endw (p : Program) (e : Env) (below : List Frame) (T : State) (g : JFrame) (F : Outcome → State → Prop) : Prop :=
  ∃ s₂ o, Steps p.tables e below (T.setTop g) s₂ ∧ s₂.status = .running ∧ Ended s₂ below o ∧ F o s₂
/-- where a walk stands: its surroundings, its state, the heap at hand, what it has spent -/
def Core (p : Program) (l : Launch) (e : Env) (R : Room) (s : State) (m : MethodId) (args : Array Value) (below : List Frame) (meth : Method) (c : Code) (bs : ByteArray) (ml : Nat) (ret : Option FieldType) (nm own : String) (Z : State) (a0 : Array Value) (EL : List (String × Nat)) (nw : Bool) (vm : Vm) (T : State) (h : Heap) (k n : Nat) : Prop :=
  (p.tables.exec = Jvm.exec ∧ c.code = bs ∧ c.maxLocals = ml ∧ meth.sig.returnType = ret ∧ meth.locks = false ∧ meth.name = nm ∧ EW Z a0 EL) ∧
  (∃ L, Stand p l e R (s.setVm vm) m args below meth c T L k n ∧ Fr Z.heap.size L) ∧ T.heap = h ∧ Z.Warmed39 vm ∧ vm.findClass own = some m.cls ∧ (∃ k0, s.Since vm k0 ∧ k0 ≤ h.size) ∧ CHr Z EL s.vm s.heap vm h ∧ Ext Z.heap h ∧ (nw = true → s.WarmedH vm ∧ ∀ y, Bk Z EL vm h y → Bk Z EL s.vm s.heap y)
/-- what a body leaves behind -/
def Fin (s : State) (Z : State) (EL : List (String × Nat)) (nw : Bool) (Q : Option Value → Heap → Prop) (K N : Nat) (o : Outcome) (U : State) : Prop :=
  ∃ v L, o = .returned v ∧ (Q v U.heap ∧ Fr Z.heap.size L ∧ Ext Z.heap U.heap) ∧ (CHr Z EL s.vm s.heap U.vm U.heap ∧ (nw = true → s.WarmedH U.vm ∧ ∀ y, Bk Z EL U.vm U.heap y → Bk Z EL s.vm s.heap y)) ∧ ReturnedEndW s o U L K N
/-- the contract of a body: the arguments, the heap at the call, the places that it may write though they be Strings or byte arrays, what comes back -/
def Met (l : Launch) (Z : State) (EL : List (String × Nat)) (nw : Bool) (y : MethodName) (bs : ByteArray) (ml : Nat) (ret : Option FieldType) (ws : List Jvm.Cond) (rm : Room) (as' : Array Value) (h : Heap) (xs : List Addr) (Q : Option Value → Heap → Prop) : Prop :=
  MetFree l y (head1 (Jvm.Cond.code y bs ml ret :: ws) rm) (fun a U => a = as' ∧ Z.Warmed39 U.vm ∧ U.heap = h ∧ CHv Z EL U.vm h ∧ ∀ x ∈ xs, Safe Z EL U.vm h x) (fun _ _ _ _ _ => True)
    (fun _ U o U' => Fin U Z EL nw Q rm.cells rm.slots o U')
variable {p : Program} {l : Launch} {e : Env} {R : Room} {s : State} {m : MethodId} {args : Array Value} {below : List Frame} {meth : Method} {c : Code}
variable {bs : ByteArray} {ml : Nat} {ret : Option FieldType} {nm own : String} {Z : State} {a0 : Array Value} {EL : List (String × Nat)} {nw : Bool} {vm : Vm} {T T' : State} {h h' : Heap} {k n k' n' : Nat} {F : Outcome → State → Prop} {pc pc' : Nat} {Ls : Array Slot} {rest : List Value} {g g' : JFrame} {Q : Option Value → Heap → Prop}
theorem Endw.st (q : ∀ t, Steps p.tables e below (T'.setTop g') t → Steps p.tables e below (T.setTop g) t) (E : Endw p e below T' g' F) : Endw p e below T g F := by
  obtain ⟨s₂, o, h1, h2⟩ := E; exact ⟨s₂, o, q _ h1, h2⟩
theorem Endw.ste (q : Steps p.tables e below (T.setTop g) (T'.setTop g')) (E : Endw p e below T' g' F) : Endw p e below T g F := Endw.st (fun _ r => q.trans r) E
theorem Endw.eq (q : g = g') (E : Endw p e below T g' F) : Endw p e below T g F := q ▸ E
section Reads
theorem Core.hx (C : Core p l e R s m args below meth c bs ml ret nm own Z a0 EL nw vm T h k n) : p.tables.exec = Jvm.exec := C.1.1
theorem Core.dec (C : Core p l e R s m args below meth c bs ml ret nm own Z a0 EL nw vm T h k n) {r : Except DecodeError (Instr × Nat)} (hd : decode bs pc = r) : decode c.code pc = r := hb C.1.2.1 hd
theorem Core.mlq (C : Core p l e R s m args below meth c bs ml ret nm own Z a0 EL nw vm T h k n) : c.maxLocals = ml := C.1.2.2.1
theorem Core.rtq (C : Core p l e R s m args below meth c bs ml ret nm own Z a0 EL nw vm T h k n) : meth.sig.returnType = ret := C.1.2.2.2.1
theorem Core.locks (C : Core p l e R s m args below meth c bs ml ret nm own Z a0 EL nw vm T h k n) : meth.locks = false := C.1.2.2.2.2.1
theorem Core.nam (C : Core p l e R s m args below meth c bs ml ret nm own Z a0 EL nw vm T h k n) : meth.name = nm := C.1.2.2.2.2.2.1
theorem Core.ew (C : Core p l e R s m args below meth c bs ml ret nm own Z a0 EL nw vm T h k n) : EW Z a0 EL := C.1.2.2.2.2.2.2
theorem Core.here (C : Core p l e R s m args below meth c bs ml ret nm own Z a0 EL nw vm T h k n) : At T m c below := by obtain ⟨-, ⟨_, X, -⟩, -⟩ := C; exact X.here
theorem Core.heq (C : Core p l e R s m args below meth c bs ml ret nm own Z a0 EL nw vm T h k n) : T.heap = h := C.2.2.1
theorem Core.warm (C : Core p l e R s m args below meth c bs ml ret nm own Z a0 EL nw vm T h k n) : Z.Warmed39 vm := C.2.2.2.1
theorem Core.hown (C : Core p l e R s m args below meth c bs ml ret nm own Z a0 EL nw vm T h k n) : vm.findClass own = some m.cls := C.2.2.2.2.1
theorem Core.since (C : Core p l e R s m args below meth c bs ml ret nm own Z a0 EL nw vm T h k n) : ∃ k0, s.Since vm k0 ∧ k0 ≤ h.size := C.2.2.2.2.2.1
theorem Core.chr (C : Core p l e R s m args below meth c bs ml ret nm own Z a0 EL nw vm T h k n) : CHr Z EL s.vm s.heap vm h := C.2.2.2.2.2.2.1
theorem Core.chv (C : Core p l e R s m args below meth c bs ml ret nm own Z a0 EL nw vm T h k n) : CHv Z EL vm h := C.chr.1
theorem Core.old (C : Core p l e R s m args below meth c bs ml ret nm own Z a0 EL nw vm T h k n) : Ext Z.heap h := C.2.2.2.2.2.2.2.1
theorem Core.nwm (C : Core p l e R s m args below meth c bs ml ret nm own Z a0 EL nw vm T h k n) : nw = true → s.WarmedH vm ∧ ∀ y, Bk Z EL vm h y → Bk Z EL s.vm s.heap y := C.2.2.2.2.2.2.2.2
theorem Core.le (C : Core p l e R s m args below meth c bs ml ret nm own Z a0 EL nw vm T h k n) : Z.heap.size ≤ h.size := C.old.1
end Reads
theorem CHr.step (A : CHr Z EL s.vm s.heap vm h) (B : CHr Z EL vm h vm h') : CHr Z EL s.vm s.heap vm h' := A.trans B
theorem old_keep {ws : List Addr} (O : Ext Z.heap h) (K : Keep h h' ws) (q : ∀ x ∈ ws, Z.heap.size ≤ x) : Ext Z.heap h' :=
  ⟨Nat.le_trans O.1 K.1, fun x c r => K.2.1 x c (O.2 x c r) fun z => absurd (Array.getElem?_eq_some_iff.mp r).1 (Nat.not_lt.mpr (q x z))⟩
theorem keep_of_ext (E : Ext h h') : Keep h h' [] := (Keep.refl h []).ext E
/-- the walk goes on with the same tables behind a step that keeps all but ws -/
theorem Core.on (C : Core p l e R s m args below meth c bs ml ret nm own Z a0 EL nw vm T h k n) {ws : List Addr} {L' : List Loc} (X' : Stand p l e R (s.setVm vm) m args below meth c T' L' k' n') (N : Fr Z.heap.size L') (e' : T'.heap = h') (K : Keep h h' ws) (q : ∀ x ∈ ws, Z.heap.size ≤ x) (S : ∀ x ∈ ws, Safe Z EL vm h x) :
    Core p l e R s m args below meth c bs ml ret nm own Z a0 EL nw vm T' h' k' n' :=
  ⟨C.1, ⟨L', X', N⟩, e', C.warm, C.hown, by obtain ⟨k0, h1, h2⟩ := C.since; exact ⟨k0, h1, Nat.le_trans h2 K.1⟩, CHr.step C.chr (CHr.keep K S C.chv), old_keep C.old K q, fun z => ⟨(C.nwm z).1, fun y b => (C.nwm z).2 y ((CHv.keepStep K S C.chv).2 y b)⟩⟩
theorem Core.same (C : Core p l e R s m args below meth c bs ml ret nm own Z a0 EL nw vm T h k n) {L' : List Loc} (X' : Stand p l e R (s.setVm vm) m args below meth c T' L' k' n') (N : Fr Z.heap.size L') (e' : T'.heap = h) :
    Core p l e R s m args below meth c bs ml ret nm own Z a0 EL nw vm T' h k' n' :=
  C.on (ws := []) X' N e' (Keep.refl _ _) all0 sf0
theorem Core.more (C : Core p l e R s m args below meth c bs ml ret nm own Z a0 EL nw vm T h k n) (hk : k ≤ k') (hn : n ≤ n') : Core p l e R s m args below meth c bs ml ret nm own Z a0 EL nw vm T h k' n' := by
  obtain ⟨h1, ⟨L, X, N⟩, r⟩ := C; exact ⟨h1, ⟨L, X.more hk hn, N⟩, r⟩
/-! ## steps -/
theorem Core.getF (C : Core p l e R s m args below meth c bs ml ret nm own Z a0 EL nw vm T h k n) {O nm' d : String} {ix : Nat} {a : Addr} {v : Value} (w : (Jvm.Cond.fieldLink own ix O nm' d).before a0 Z = true) (f : Fld Z h a O nm' d v) (hd : decode bs pc = .ok (.getfield ix, 3)) (hp : pc + 3 = pc')
    (K : ∀ T', Core p l e R s m args below meth c bs ml ret nm own Z a0 EL nw vm T' h k n → Endw p e below T' (mkF m pc' Ls (v :: rest)) F) : Endw p e below T (mkF m pc Ls (.ref a :: rest)) F := by
  subst hp
  obtain ⟨-, ⟨L, X, N⟩, -⟩ := id C
  obtain ⟨T', X', e', st⟩ := RoadKit.getF X C.hx C.warm C.hown (host := "") (Or.inl w) Via.refl C.heq f (g := mkF m pc Ls (.ref a :: rest)) rfl rfl (C.dec hd)
  exact Endw.st st (K T' (C.same X' N e'))
theorem Core.getFN (C : Core p l e R s m args below meth c bs ml ret nm own Z a0 EL nw vm T h k n) {O nm' d host : String} {ix : Nat} {a : Addr} {v : Value} (w : (Jvm.Cond.fieldLinkNest own ix O nm' d host).before a0 Z = true) (f : Fld Z h a O nm' d v) (hd : decode bs pc = .ok (.getfield ix, 3)) (hp : pc + 3 = pc')
    (K : ∀ T', Core p l e R s m args below meth c bs ml ret nm own Z a0 EL nw vm T' h k n → Endw p e below T' (mkF m pc' Ls (v :: rest)) F) : Endw p e below T (mkF m pc Ls (.ref a :: rest)) F := by
  subst hp
  obtain ⟨-, ⟨L, X, N⟩, -⟩ := id C
  obtain ⟨T', X', e', st⟩ := RoadKit.getF X C.hx C.warm C.hown (Or.inr w) Via.refl C.heq f (g := mkF m pc Ls (.ref a :: rest)) rfl rfl (C.dec hd)
  exact Endw.st st (K T' (C.same X' N e'))
theorem Core.getFV (C : Core p l e R s m args below meth c bs ml ret nm own Z a0 EL nw vm T h k n) {R0 O nm' d : String} {ix : Nat} {a : Addr} {v : Value} (w : (Jvm.Cond.fieldLink own ix R0 nm' d).before a0 Z = true) (via : Via Z R0 O nm' d) (f : Fld Z h a O nm' d v) (hd : decode bs pc = .ok (.getfield ix, 3)) (hp : pc + 3 = pc')
    (K : ∀ T', Core p l e R s m args below meth c bs ml ret nm own Z a0 EL nw vm T' h k n → Endw p e below T' (mkF m pc' Ls (v :: rest)) F) : Endw p e below T (mkF m pc Ls (.ref a :: rest)) F := by
  subst hp
  obtain ⟨-, ⟨L, X, N⟩, -⟩ := id C
  obtain ⟨T', X', e', st⟩ := RoadKit.getF X C.hx C.warm C.hown (host := "") (Or.inl w) via C.heq f (g := mkF m pc Ls (.ref a :: rest)) rfl rfl (C.dec hd)
  exact Endw.st st (K T' (C.same X' N e'))
theorem Core.getS (C : Core p l e R s m args below meth c bs ml ret nm own Z a0 EL nw vm T h k n) {O nm' d : String} {ix : Nat} {v : Value} (w : (Jvm.Cond.fieldLink own ix O nm' d).before a0 Z = true) (f : Sta Z Z.heap O nm' d v) (hd : decode bs pc = .ok (.getstatic ix, 3)) (hp : pc + 3 = pc')
    (K : ∀ T', Core p l e R s m args below meth c bs ml ret nm own Z a0 EL nw vm T' h k n → Endw p e below T' (mkF m pc' Ls (v :: rest)) F) : Endw p e below T (mkF m pc Ls rest) F := by
  subst hp
  obtain ⟨-, ⟨L, X, N⟩, -⟩ := id C
  obtain ⟨T', X', e', st⟩ := RoadKit.getS X C.hx C.warm C.hown (host := "") w Via.refl C.heq (f.ext C.old) (g := mkF m pc Ls rest) rfl (C.dec hd)
  exact Endw.st st (K T' (C.same X' N e'))
theorem Core.putF (C : Core p l e R s m args below meth c bs ml ret nm own Z a0 EL nw vm T h k n) {O nm' d Cl : String} {ix kk : Nat} {a : Addr} {v old : Value} {ty : FieldType} (w : (Jvm.Cond.fieldLink own ix O nm' d).before a0 Z = true) (f : Fld Z h a O nm' d old) (E : Exa Z h a Cl) (la : (Jvm.Cond.lays Cl O nm' d).before a0 Z = true ∨ ((Jvm.Cond.laysFinal Cl O nm' d).before a0 Z = true ∧ own = O ∧ nm = "<init>")) (wi : (Jvm.Cond.instantiable Cl kk).before a0 Z = true)
    (hty : parseFieldDescriptor d = some ty) (hn : narrow ty v = v) (hf : fits ty v = true) (ge : Z.heap.size ≤ a) (sf : Safe Z EL vm h a) (hd : decode bs pc = .ok (.putfield ix, 3)) (hp : pc + 3 = pc')
    (K : ∀ T' h', Core p l e R s m args below meth c bs ml ret nm own Z a0 EL nw vm T' h' k n → Keep h h' [a] → CHr Z EL vm h vm h' → Wr h h' a (RoadKit.slotOf Z O nm' d) v → Endw p e below T' (mkF m pc' Ls rest) F) : Endw p e below T (mkF m pc Ls (v :: .ref a :: rest)) F := by
  subst hp
  obtain ⟨-, ⟨L, X, N⟩, -⟩ := id C
  obtain ⟨T', h', X', e', W, st⟩ := RoadKit.putF X C.hx C.warm C.hown (host := "") (Or.inl w) Via.refl C.heq f E (la.imp id fun q => ⟨q.1, q.2.1, C.nam.trans q.2.2⟩) wi hty hn hf (g := mkF m pc Ls (v :: .ref a :: rest)) rfl rfl (C.dec hd)
  exact Endw.st st (K T' h' (C.on (ws := [a]) X' (N.app fun y hy => by cases List.mem_singleton.mp hy; exact ge) e' (Keep.of_wr W) (allS ge all0) (sfS sf sf0)) (Keep.of_wr W) (CHr.keep (Keep.of_wr W) (sfS sf sf0) C.chv) W)
theorem Core.new (C : Core p l e R s m args below meth c bs ml ret nm own Z a0 EL nw vm T h k n) {Cl : String} {ix nn : Nat} (w : (Jvm.Cond.classLink own ix Cl).before a0 Z = true) (wi : (Jvm.Cond.instantiable Cl nn).before a0 Z = true) (wz : (Jvm.Cond.initialized Cl).before a0 Z = true) (hd : decode bs pc = .ok (.new ix, 3)) (hp : pc + 3 = pc') (hk : k + 1 ≤ R.cells) (hn : n + nn ≤ R.slots)
    (K : ∀ T' h' x, Core p l e R s m args below meth c bs ml ret nm own Z a0 EL nw vm T' h' (k + 1) (n + nn) → Keep h h' [] → CHr Z EL vm h vm h' → h.size ≤ x → Z.heap.size ≤ x → Exa Z h' x Cl → (∀ {O nm d : String} {ty : FieldType}, Laid Z a0 Cl O nm d → parseFieldDescriptor d = some ty → Fld Z h' x O nm d (defaultValue ty)) → Safe Z EL vm h' x → Endw p e below T' (mkF m pc' Ls (.ref x :: rest)) F) : Endw p e below T (mkF m pc Ls rest) F := by
  subst hp
  obtain ⟨-, ⟨L, X, N⟩, -⟩ := id C
  obtain ⟨T', h', X', e', E, A, D, -, st⟩ := RoadKit.newO X C.hx C.warm C.hown w wi wz C.heq (g := mkF m pc Ls rest) rfl (C.dec hd) hk hn
  exact Endw.st st (K T' h' h.size (C.on (ws := []) X' N e' (keep_of_ext E) all0 sf0) (keep_of_ext E) (CHr.keep (keep_of_ext E) sf0 C.chv) (Nat.le_refl _) C.le A D (Safe.ext E C.chv (Safe.new (Nat.le_refl _))))
theorem Core.newA (C : Core p l e R s m args below meth c bs ml ret nm own Z a0 EL nw vm T h k n) {aty : ArrayType} {z : Int32} {cap : Nat} {vs : List Value} (w : (Jvm.Cond.arrayClass (newarray.typeOf aty)).before a0 Z = true) (hd : decode bs pc = .ok (.newarray aty, 2)) (hp : pc + 2 = pc') (hz : ¬ z < 0) (hcap : z.toNatClampNeg ≤ cap) (hb : cap * 8 ≤ 536870912) (hk : k + 1 ≤ R.cells) (hn : n + cap ≤ R.slots) (hvs : vs = List.replicate vs.length (defaultValue (newarray.typeOf aty)))
    (K : ∀ T' h' x kA, Core p l e R s m args below meth c bs ml ret nm own Z a0 EL nw vm T' h' (k + 1) (n + cap) → Keep h h' [] → CHr Z EL vm h vm h' → h.size ≤ x → Z.heap.size ≤ x → Arv Z h' x kA (newarray.typeOf aty) z vs (defaultValue (newarray.typeOf aty)) → Safe Z EL vm h' x → Endw p e below T' (mkF m pc' Ls (.ref x :: rest)) F) : Endw p e below T (mkF m pc Ls (.int z :: rest)) F := by
  subst hp
  obtain ⟨-, ⟨L, X, N⟩, -⟩ := id C
  obtain ⟨T', h', cA, X', e', E, A, st⟩ := RoadKit.newP X C.hx C.warm w C.heq (g := mkF m pc Ls (.int z :: rest)) rfl (C.dec hd) rfl hz hcap hb hk hn
  have q := (Arv.new A hz).pad (vs' := [] ++ List.replicate vs.length (defaultValue (newarray.typeOf aty))) (pad_rep _ _ _)
  rw [List.nil_append, ← hvs] at q
  exact Endw.st st (K T' h' h.size cA (C.on (ws := []) X' N e' (keep_of_ext E) all0 sf0) (keep_of_ext E) (CHr.keep (keep_of_ext E) sf0 C.chv) (Nat.le_refl _) C.le q (Safe.ext E C.chv (Safe.new (Nat.le_refl _))))
theorem Core.len (C : Core p l e R s m args below meth c bs ml ret nm own Z a0 EL nw vm T h k n) {a : Addr} {kA : ClassId} {ty : FieldType} {z : Int32} {vs : List Value} {dv : Value} (A : Arv Z h a kA ty z vs dv) (hd : decode bs pc = .ok (.arraylength, 1)) (hp : pc + 1 = pc')
    (K : Endw p e below T (mkF m pc' Ls (.int z :: rest)) F) : Endw p e below T (mkF m pc Ls (.ref a :: rest)) F := by
  subst hp
  obtain ⟨-, ⟨L, X, N⟩, -⟩ := id C
  obtain ⟨cl, Ar, -, S, hz, -⟩ := A
  refine Endw.st (fun t r => X.arraylength C.hx (by rw [C.heq]; exact Ar.1) (State.isArrayOf_alike C.warm.alike Ar.2.1) (g := mkF m pc Ls (.ref a :: rest)) rfl rfl (C.dec hd) t r) ?_
  rw [len_of S hz]; exact K
theorem Core.caload (C : Core p l e R s m args below meth c bs ml ret nm own Z a0 EL nw vm T h k n) {a : Addr} {kA : ClassId} {z j : Int32} {vs : List Value} {dv v : Value} (A : Arv Z h a kA .char z vs dv) (hj : ¬ j < 0 ∧ j < z) (hv : vs.getD j.toNatClampNeg dv = v) (hd : decode bs pc = .ok (.caload, 1)) (hp : pc + 1 = pc')
    (K : Endw p e below T (mkF m pc' Ls (v :: rest)) F) : Endw p e below T (mkF m pc Ls (.int j :: .ref a :: rest)) F := by
  subst hp
  obtain ⟨-, ⟨L, X, N⟩, -⟩ := id C
  obtain ⟨cl, Ar, -, S, hz, H, -⟩ := A
  exact Endw.st (fun t r => X.caload C.hx (by rw [C.heq]; exact Ar.1) (State.isArrayOf_alike C.warm.alike Ar.2.1) Ar.2.2 (inb_of S hj) (H.at (inb_of S hj) hv) (g := mkF m pc Ls (.int j :: .ref a :: rest)) rfl rfl (C.dec hd) t r) K
theorem Core.baload (C : Core p l e R s m args below meth c bs ml ret nm own Z a0 EL nw vm T h k n) {a : Addr} {kA : ClassId} {z j : Int32} {vs : List Value} {dv v : Value} (A : Arv Z h a kA .byte z vs dv) (hj : ¬ j < 0 ∧ j < z) (hv : vs.getD j.toNatClampNeg dv = v) (hd : decode bs pc = .ok (.baload, 1)) (hp : pc + 1 = pc')
    (K : Endw p e below T (mkF m pc' Ls (v :: rest)) F) : Endw p e below T (mkF m pc Ls (.int j :: .ref a :: rest)) F := by
  subst hp
  obtain ⟨-, ⟨L, X, N⟩, -⟩ := id C
  obtain ⟨cl, Ar, -, S, hz, H, -⟩ := A
  exact Endw.st (fun t r => X.baloadBytes C.hx (by rw [C.heq]; exact Ar.1) (State.isArrayOf_alike C.warm.alike Ar.2.1) Ar.2.2 (inb_of S hj) (H.at (inb_of S hj) hv) (g := mkF m pc Ls (.int j :: .ref a :: rest)) rfl rfl (C.dec hd) t r) K
theorem Core.aaload (C : Core p l e R s m args below meth c bs ml ret nm own Z a0 EL nw vm T h k n) {a : Addr} {kA : ClassId} {ty : FieldType} {z j : Int32} {vs : List Value} {dv v : Value} (A : Arv Z h a kA ty z vs dv) (hty : ty.isReference = true) (hj : ¬ j < 0 ∧ j < z) (hv : vs.getD j.toNatClampNeg dv = v) (hd : decode bs pc = .ok (.aaload, 1)) (hp : pc + 1 = pc')
    (K : Endw p e below T (mkF m pc' Ls (v :: rest)) F) : Endw p e below T (mkF m pc Ls (.int j :: .ref a :: rest)) F := by
  subst hp
  obtain ⟨-, ⟨L, X, N⟩, -⟩ := id C
  obtain ⟨cl, Ar, -, S, hz, H, -⟩ := A
  exact Endw.st (fun t r => X.aaload C.hx (by rw [C.heq]; exact Ar.1) (State.isArrayOf_alike C.warm.alike Ar.2.1) hty Ar.2.2 (inb_of S hj) (H.at (inb_of S hj) hv) (g := mkF m pc Ls (.int j :: .ref a :: rest)) rfl rfl (C.dec hd) t r) K
theorem Core.castore (C : Core p l e R s m args below meth c bs ml ret nm own Z a0 EL nw vm T h k n) {a : Addr} {kA : ClassId} {z j x x' : Int32} {vs vs' : List Value} {dv : Value} (A : Arv Z h a kA .char z vs dv) (hj : ¬ j < 0 ∧ j < z) (i : Nat) (hi : j.toNatClampNeg = i) (hl : i < vs.length) (hx' : nar .char x = x') (ge : Z.heap.size ≤ a) (hvs : vs.set i (.int x') = vs') (hd : decode bs pc = .ok (.castore, 1)) (hp : pc + 1 = pc')
    (K : ∀ T' h', Core p l e R s m args below meth c bs ml ret nm own Z a0 EL nw vm T' h' k n → Keep h h' [a] → CHr Z EL vm h vm h' → Arv Z h' a kA .char z vs' dv → Endw p e below T' (mkF m pc' Ls rest) F) : Endw p e below T (mkF m pc Ls (.int x :: .int j :: .ref a :: rest)) F := by
  subst hp hx' hvs
  obtain ⟨-, ⟨L, X, N⟩, -⟩ := id C
  have sf : Safe Z EL vm h a := Safe.arv C.warm.alike A (by decide)
  obtain ⟨cl, Ar, q1, S, hz, H, G⟩ := A
  obtain ⟨T', h', X', e', W, st⟩ := RoadKit.stC X C.hx C.warm C.heq Ar (inb_of S hj) (g := mkF m pc Ls (.int x :: .int j :: .ref a :: rest)) rfl rfl (C.dec hd)
  exact Endw.st st (K T' h' (C.on (ws := [a]) X' (N.app fun y hy => by cases List.mem_singleton.mp hy; exact ge) e' (Keep.of_wr W) (allS ge all0) (sfS sf sf0)) (Keep.of_wr W) (CHr.keep (Keep.of_wr W) (sfS sf sf0) C.chv) (Arv.set Ar q1 S hz H G (fits_nar_char _) W i hi hl))
theorem Core.bastore (C : Core p l e R s m args below meth c bs ml ret nm own Z a0 EL nw vm T h k n) {a : Addr} {kA : ClassId} {z j x x' : Int32} {vs vs' : List Value} {dv : Value} (A : Arv Z h a kA .byte z vs dv) (hj : ¬ j < 0 ∧ j < z) (i : Nat) (hi : j.toNatClampNeg = i) (hl : i < vs.length) (hx' : nar .byte x = x') (ge : Z.heap.size ≤ a) (sf : Safe Z EL vm h a) (hvs : vs.set i (.int x') = vs') (hd : decode bs pc = .ok (.bastore, 1)) (hp : pc + 1 = pc')
    (K : ∀ T' h', Core p l e R s m args below meth c bs ml ret nm own Z a0 EL nw vm T' h' k n → Keep h h' [a] → CHr Z EL vm h vm h' → Arv Z h' a kA .byte z vs' dv → Endw p e below T' (mkF m pc' Ls rest) F) : Endw p e below T (mkF m pc Ls (.int x :: .int j :: .ref a :: rest)) F := by
  subst hp hx' hvs
  obtain ⟨-, ⟨L, X, N⟩, -⟩ := id C
  obtain ⟨cl, Ar, q1, S, hz, H, G⟩ := A
  obtain ⟨T', h', X', e', W, st⟩ := RoadKit.stB X C.hx C.warm C.heq Ar (inb_of S hj) (g := mkF m pc Ls (.int x :: .int j :: .ref a :: rest)) rfl rfl (C.dec hd)
  exact Endw.st st (K T' h' (C.on (ws := [a]) X' (N.app fun y hy => by cases List.mem_singleton.mp hy; exact ge) e' (Keep.of_wr W) (allS ge all0) (sfS sf sf0)) (Keep.of_wr W) (CHr.keep (Keep.of_wr W) (sfS sf sf0) C.chv) (Arv.set Ar q1 S hz H G (fits_nar_byte _) W i hi hl))
/-- Object.<init> -/
theorem Core.initO (C : Core p l e R s m args below meth c bs ml ret nm own Z a0 EL nw vm T h k n) {ix : Nat} {a : Addr} (w1 : (Jvm.Cond.methodLink own ix Lib.objectInit).before a0 Z = true) (w2 : (Jvm.Cond.instanceMethod Lib.objectInit).before a0 Z = true) (w3 : (Jvm.Cond.code Lib.objectInit ⟨#[0xb1]⟩ 1 none).before a0 Z = true) (hsz : Ls.size = ml) (hd : decode bs pc = .ok (.invokespecial ix, 3)) (hp : pc + 3 = pc') (hf : 1 ≤ R.frames) {W : Nat} (hW : (rest.map fun v => v.category).sum ≤ W) (hl : W + 12 ≤ R.locals)
    (K : ∀ T', Core p l e R s m args below meth c bs ml ret nm own Z a0 EL nw vm T' h k n → Endw p e below T' (mkF m pc' Ls rest) F) : Endw p e below T (mkF m pc Ls (.ref a :: rest)) F := by
  subst hp
  obtain ⟨-, ⟨L, X, N⟩, -⟩ := id C
  obtain ⟨T', X', e', st⟩ := RoadKit.initO X C.hx C.warm C.hown w1 w2 w3 C.heq (g := mkF m pc Ls (.ref a :: rest)) rfl (hsz.trans C.mlq.symm) rfl (C.dec hd) hf (W := W) (by show 2 * 0 + _ ≤ _; omega) hl
  exact Endw.st st (K T' (C.same X' N e'))
/-! ## calls by a contract of ours -/
theorem backOwn {nw' : Bool} {y : MethodName} {bytes : ByteArray} {mx : Nat} {rt : Option FieldType} {rm : Room} {len W : Nat} {as' : Array Value} {xs : List Addr} (hM : Met l Z EL nw' y bytes mx rt [] rm as' h xs Q) (hZ : Z.Warmed39 vm) (wc : (Jvm.Cond.code y bytes mx rt).before a0 Z = true) (wz : (Jvm.Cond.initialized y.cls).before a0 Z = true) (hf : rm.frames + 1 ≤ R.frames) (hl : W + (mx + 11) + rm.locals ≤ R.locals) (hEL : EW Z a0 EL) (H : CHv Z EL vm h) (hs : ∀ x ∈ xs, x < h.size ∧ Safe Z EL vm h x) :
    BackS l R p e below (s.setVm vm) args y len W (fun A a => a = as' ∧ A.U.heap = h ∧ A.cells + rm.cells ≤ R.cells ∧ A.slots + rm.slots ≤ R.slots)
      (fun A _ v B => ∃ L, (Q v B.U.heap ∧ Fr Z.heap.size L ∧ Ext Z.heap B.U.heap) ∧ B.locs = A.locs ++ L ∧ B.cells = A.cells + rm.cells ∧ B.slots = A.slots + rm.slots ∧ CHr Z EL vm h B.U.vm B.U.heap ∧ (nw' = true → (s.setVm vm).WarmedH B.U.vm ∧ ∀ y, Bk Z EL B.U.vm B.U.heap y → Bk Z EL vm h y)) := by
  refine BackS.of_freeW (bytes := bytes) (maxL := mx) (ret := rt) (E := fun _ f o t L i j => i = rm.cells ∧ j = rm.slots ∧ (∃ v, o = .returned v ∧ Q v t.heap ∧ Fr Z.heap.size L ∧ Ext Z.heap t.heap) ∧ CHr Z EL f.vm f.heap t.vm t.heap ∧ (nw' = true → f.WarmedH t.vm ∧ ∀ y, Bk Z EL t.vm t.heap y → Bk Z EL f.vm f.heap y)) hM hf hl ?_ ?_ (fun _ _ _ _ _ _ _ _ _ => trivial) ?_ ?_
  · intro m' meth' c' A a Y hp
    have hU : Z.Warmed39 A.U.vm := wtrans (s := s.setVm vm) hZ Y.warmed
    refine ⟨?_, mv hU wc, mv hU wz, hp.2.2.1, hp.2.2.2⟩
    show (Jvm.Cond.and _ .tt).before a A.U = true
    rw [Cond.before_and, mv hU wc]; rfl
  · intro m' meth' c' A a g' mk Y hp
    have q := CHv.at Y hZ hEL H
    exact ⟨hp.1, wtrans (s := s.setVm vm) hZ Y.warmed, hp.2.1, q.1, fun x hx => q.safe (hs x hx).1 (hs x hx).2⟩
  · intro a f o t ⟨v, L, h1, h2, h3, h4⟩
    exact ⟨L, _, _, h4, rfl, rfl, ⟨v, h1, h2⟩, h3.1, h3.2⟩
  · intro m' meth' c' A a g' mk v t L i j Y hp _ _ q
    obtain ⟨rfl, rfl, ⟨v', e1, e2⟩, e3, e5⟩ := q
    cases e1
    refine ⟨L, e2, rfl, rfl, rfl, (CHv.at Y hZ hEL H).trans ?_, fun z => ⟨State.WarmedH.trans Y.warmed (e5 z).1, fun y' b => ?_⟩⟩
    · have e4 : CHr Z EL A.U.vm A.U.heap t.vm t.heap := e3
      rw [hp.2.1] at e4; exact e4
    · have b1 : Bk Z EL A.U.vm A.U.heap y' := (e5 z).2 y' b
      rw [hp.2.1] at b1
      rcases (CHv.at Y hZ hEL H).2.2 y' b1 with q | q
      · exact q
      · obtain ⟨c0, hc0⟩ := Bk.there b1; exact absurd (Array.getElem?_eq_some_iff.mp hc0).1 (Nat.not_lt.mpr q)
/-- behind a call by such a contract -/
theorem Core.behind (C : Core p l e R s m args below meth c bs ml ret nm own Z a0 EL nw vm T h k n) {B : Pt} {L L' : List Loc} (X' : Stand p l e R ((s.setVm vm).setVm B.U.vm) m args below meth c B.U B.locs B.cells B.slots) (h2 : (s.setVm vm).Since B.U.vm B.U.heap.size) (N : Fr Z.heap.size L) (N' : Fr Z.heap.size L') (O : Ext Z.heap B.U.heap) (e1 : B.locs = L ++ L') (e2 : B.cells = k') (e3 : B.slots = n') (A : CHr Z EL vm h B.U.vm B.U.heap) (M : nw = true → (s.setVm vm).WarmedH B.U.vm ∧ ∀ y, Bk Z EL B.U.vm B.U.heap y → Bk Z EL vm h y) :
    Core p l e R s m args below meth c bs ml ret nm own Z a0 EL nw B.U.vm B.U B.U.heap k' n' := by
  subst e2 e3
  obtain ⟨k0, hS, hk⟩ := C.since
  obtain ⟨r1, r2, r3, r4⟩ := rebS hS hk X' h2 A.2.1 C.warm C.hown
  exact ⟨C.1, ⟨_, r1, e1 ▸ N.app N'⟩, rfl, r3, r4, ⟨_, r2, Nat.le_refl _⟩, C.chr.trans A, O, fun z => ⟨State.WarmedH.trans (C.nwm z).1 (M z).1, fun y b => (C.nwm z).2 y ((M z).2 y b)⟩⟩
theorem Core.special (C : Core p l e R s m args below meth c bs ml ret nm own Z a0 EL nw vm T h k n) {nw' : Bool} {y : MethodName} {ix : Nat} {bytes : ByteArray} {mx : Nat} {rm : Room} {xs : List Addr} {W : Nat} {a : Addr} {argsL st : List Value} {as' : Array Value} (hy1 : y.name = "<init>")
    (w1 : (Jvm.Cond.methodLink own ix y).before a0 Z = true) (w2 : (Jvm.Cond.instanceMethod y).before a0 Z = true) (w3 : (Jvm.Cond.code y bytes mx none).before a0 Z = true) (w4 : (Jvm.Cond.initialized y.cls).before a0 Z = true) (hy : y.cls ≠ "java/lang/invoke/MethodHandle" ∧ y.cls ≠ "java/lang/invoke/VarHandle")
    (hM : Met l Z EL nw' y bytes mx none [] rm as' h xs Q) (hnn : nw = true → nw' = true) (has : as' = (.ref a :: argsL).toArray) (hs : ∀ x ∈ xs, x < h.size ∧ Safe Z EL vm h x) (hf : rm.frames + 1 ≤ R.frames) (hl : W + (mx + 11) + rm.locals ≤ R.locals) (hk : k + rm.cells ≤ R.cells) (hn : n + rm.slots ≤ R.slots)
    (hlen : ∀ sig, parseMethodDescriptor y.desc = some sig → argsL.length = sig.parameters.length) (hst : st = argsL.reverse ++ .ref a :: rest) (hW : (rest.map fun v => v.category).sum ≤ W) (hsz : Ls.size = ml) (hd : decode bs pc = .ok (.invokespecial ix, 3)) (hp : pc + 3 = pc')
    (K : ∀ vm' T' h' v, Core p l e R s m args below meth c bs ml ret nm own Z a0 EL nw vm' T' h' (k + rm.cells) (n + rm.slots) → CHr Z EL vm h vm' h' → (nw' = true → ∀ y, Bk Z EL vm' h' y → Bk Z EL vm h y) → Q v h' → Endw p e below T' (mkF m pc' Ls (v.toList ++ rest)) F) : Endw p e below T (mkF m pc Ls st) F := by
  subst hp has
  obtain ⟨-, ⟨L, X, N⟩, -⟩ := id C
  obtain ⟨v, vm₁, B, -, X', h2, -, ⟨L', ⟨q1, q2, q3⟩, e1, e2, e3, A, M⟩, st'⟩ := X.specialBackS C.hx (y := y) hy1 C.hown (mvT C.warm w1) (mvT C.warm w2) (mvT C.warm w3) hy (backOwn (W := W) hM C.warm w3 w4 hf hl C.ew C.chv hs) (g := mkF m pc Ls st) rfl (hsz.trans C.mlq.symm) (Steps.refl _) (a := a) (argsL := argsL) (rest := rest) hlen hst (by show 2 * 0 + _ ≤ _; omega) (C.dec hd) (fun _ _ => ⟨rfl, C.heq, hk, hn⟩)
  exact Endw.ste st' (K _ _ _ v (C.behind X' h2 N q2 q3 e1 e2 e3 A (fun z => M (hnn z))) A (fun z => (M z).2) q1)
theorem Core.static (C : Core p l e R s m args below meth c bs ml ret nm own Z a0 EL nw vm T h k n) {nw' : Bool} {y : MethodName} {ix : Nat} {bytes : ByteArray} {mx : Nat} {rt : Option FieldType} {rm : Room} {xs : List Addr} {W : Nat} {argsL st : List Value} {as' : Array Value}
    (w1 : (Jvm.Cond.methodLink own ix y).before a0 Z = true) (w2 : (Jvm.Cond.static y).before a0 Z = true) (w3 : (Jvm.Cond.code y bytes mx rt).before a0 Z = true) (w4 : (Jvm.Cond.initialized y.cls).before a0 Z = true) (hy : y.cls ≠ "java/lang/invoke/MethodHandle" ∧ y.cls ≠ "java/lang/invoke/VarHandle")
    (hM : Met l Z EL nw' y bytes mx rt [] rm as' h xs Q) (hnn : nw = true → nw' = true) (has : as' = argsL.toArray) (hs : ∀ x ∈ xs, x < h.size ∧ Safe Z EL vm h x) (hf : rm.frames + 1 ≤ R.frames) (hl : W + (mx + 11) + rm.locals ≤ R.locals) (hk : k + rm.cells ≤ R.cells) (hn : n + rm.slots ≤ R.slots)
    (hlen : ∀ sig, parseMethodDescriptor y.desc = some sig → argsL.length = sig.parameters.length) (hst : st = argsL.reverse ++ rest) (hW : (rest.map fun v => v.category).sum ≤ W) (hsz : Ls.size = ml) (hd : decode bs pc = .ok (.invokestatic ix, 3)) (hp : pc + 3 = pc')
    (K : ∀ vm' T' h' v, Core p l e R s m args below meth c bs ml ret nm own Z a0 EL nw vm' T' h' (k + rm.cells) (n + rm.slots) → CHr Z EL vm h vm' h' → (nw' = true → ∀ y, Bk Z EL vm' h' y → Bk Z EL vm h y) → Q v h' → Endw p e below T' (mkF m pc' Ls (v.toList ++ rest)) F) : Endw p e below T (mkF m pc Ls st) F := by
  subst hp has
  obtain ⟨-, ⟨L, X, N⟩, -⟩ := id C
  obtain ⟨v, vm₁, B, -, X', h2, -, ⟨L', ⟨q1, q2, q3⟩, e1, e2, e3, A, M⟩, st'⟩ := RoadKit.callSS X C.hx (y := y) C.hown (mvT C.warm w1) (mvT C.warm w2) (mvT C.warm w4) (mvT C.warm w3) hy (backOwn (W := W) hM C.warm w3 w4 hf hl C.ew C.chv hs) (g := mkF m pc Ls st) rfl (hsz.trans C.mlq.symm) (argsL := argsL) (rest := rest) hlen hst (by show 2 * 0 + _ ≤ _; omega) (C.dec hd) (fun _ _ => ⟨rfl, C.heq, hk, hn⟩)
  exact Endw.ste st' (K _ _ _ v (C.behind X' h2 N q2 q3 e1 e2 e3 A (fun z => M (hnn z))) A (fun z => (M z).2) q1)
theorem Core.virtual (C : Core p l e R s m args below meth c bs ml ret nm own Z a0 EL nw vm T h k n) {nw' : Bool} {y z : MethodName} {Cl : String} {ix : Nat} {bytes : ByteArray} {mx : Nat} {rt : Option FieldType} {rm : Room} {xs : List Addr} {W : Nat} {a : Addr} {argsL st : List Value} {as' : Array Value}
    (w1 : (Jvm.Cond.methodLink own ix y).before a0 Z = true) (w2 : (Jvm.Cond.declares y).before a0 Z = true) (hnf : ∀ U : State, Z.Warmed39 U.vm → NotFace U y) (w5 : (Jvm.Cond.selects Cl y z).before a0 Z = true) (w6 : (Jvm.Cond.instanceMethod z).before a0 Z = true) (w3 : (Jvm.Cond.code z bytes mx rt).before a0 Z = true) (w4 : (Jvm.Cond.initialized z.cls).before a0 Z = true) (hy : y.cls ≠ "java/lang/invoke/MethodHandle" ∧ y.cls ≠ "java/lang/invoke/VarHandle")
    (hM : Met l Z EL nw' z bytes mx rt [] rm as' h xs Q) (hnn : nw = true → nw' = true) (has : as' = (.ref a :: argsL).toArray) (E : Exa Z h a Cl) (hs : ∀ x ∈ xs, x < h.size ∧ Safe Z EL vm h x) (hf : rm.frames + 1 ≤ R.frames) (hl : W + (mx + 11) + rm.locals ≤ R.locals) (hk : k + rm.cells ≤ R.cells) (hn : n + rm.slots ≤ R.slots)
    (hlen : ∀ sig, parseMethodDescriptor y.desc = some sig → argsL.length = sig.parameters.length) (hst : st = argsL.reverse ++ .ref a :: rest) (hW : (rest.map fun v => v.category).sum ≤ W) (hsz : Ls.size = ml) (hd : decode bs pc = .ok (.invokevirtual ix, 3)) (hp : pc + 3 = pc')
    (K : ∀ vm' T' h' v, Core p l e R s m args below meth c bs ml ret nm own Z a0 EL nw vm' T' h' (k + rm.cells) (n + rm.slots) → CHr Z EL vm h vm' h' → (nw' = true → ∀ y, Bk Z EL vm' h' y → Bk Z EL vm h y) → Q v h' → Endw p e below T' (mkF m pc' Ls (v.toList ++ rest)) F) : Endw p e below T (mkF m pc Ls st) F := by
  subst hp has
  obtain ⟨-, ⟨L, X, N⟩, -⟩ := id C
  obtain ⟨cq, kq, qa, qb, qc⟩ := isOf (s := s.setVm vm) C.warm C.heq E
  obtain ⟨v, vm₁, B, -, X', h2, -, ⟨L', ⟨q1, q2, q3⟩, e1, e2, e3, A, M⟩, st'⟩ := X.virtualBackS C.hx (y := y) (z := z) C.hown (mvT C.warm w1) (mvT C.warm w2) (hnf _ (show Z.Warmed39 (s.setVm vm).vm from C.warm)) (mvT C.warm w5) (mvT C.warm w6) hy (backOwn (W := W) hM C.warm w3 w4 hf hl C.ew C.chv hs) qa qc (g := mkF m pc Ls st) rfl (hsz.trans C.mlq.symm) (Steps.refl _) (argsL := argsL) (rest := rest) hlen hst (by show 2 * 0 + _ ≤ _; omega) (C.dec hd) (fun _ _ => ⟨rfl, C.heq, hk, hn⟩)
  exact Endw.ste st' (K _ _ _ v (C.behind X' h2 N q2 q3 e1 e2 e3 A (fun z => M (hnn z))) A (fun z => (M z).2) q1)
/-! ## calls by a law of the library's (it interns nothing) -/
theorem Core.behindF (C : Core p l e R s m args below meth c bs ml ret nm own Z a0 EL nw vm T h k n) {B : Pt} {L L' : List Loc} {ws : List Addr} (X' : Stand p l e R (s.setVm vm) m args below meth c B.U B.locs B.cells B.slots) (N : Fr Z.heap.size L) (N' : Fr Z.heap.size L') (K : Keep h B.U.heap ws) (ge : ∀ x ∈ ws, Z.heap.size ≤ x) (S : ∀ x ∈ ws, Safe Z EL vm h x) (e1 : B.locs = L ++ L') (e2 : B.cells = k') (e3 : B.slots = n') :
    Core p l e R s m args below meth c bs ml ret nm own Z a0 EL nw vm B.U B.U.heap k' n' := by
  subst e2 e3
  exact C.on X' (e1 ▸ N.app N') rfl K ge S
theorem Core.specialF (C : Core p l e R s m args below meth c bs ml ret nm own Z a0 EL nw vm T h k n) {y : MethodName} {ix : Nat} {bytes : ByteArray} {mx ck cn : Nat} {ws : List Addr} {W : Nat} {a : Addr} {argsL st : List Value} {as' : Array Value} {Qf : Option Value → Heap → List Loc → Prop} (hy1 : y.name = "<init>")
    (w1 : (Jvm.Cond.methodLink own ix y).before a0 Z = true) (w2 : (Jvm.Cond.instanceMethod y).before a0 Z = true) (w3 : (Jvm.Cond.code y bytes mx none).before a0 Z = true) (hy : y.cls ≠ "java/lang/invoke/MethodHandle" ∧ y.cls ≠ "java/lang/invoke/VarHandle")
    (hK : Back l R p e below (s.setVm vm) args y 3 W (fun P a => a = as' ∧ P.U.heap = h ∧ P.cells + ck ≤ R.cells ∧ P.slots + cn ≤ R.slots) (fun P _ v B => ∃ L, Qf v B.U.heap L ∧ B.locs = P.locs ++ L ∧ B.cells = P.cells + ck ∧ B.slots = P.slots + cn))
    (hQ : ∀ v h' L, Qf v h' L → Fr Z.heap.size L ∧ Keep h h' ws) (ge : ∀ x ∈ ws, Z.heap.size ≤ x) (S : ∀ x ∈ ws, Safe Z EL vm h x) (has : as' = (.ref a :: argsL).toArray) (hk : k + ck ≤ R.cells) (hn : n + cn ≤ R.slots)
    (hlen : ∀ sig, parseMethodDescriptor y.desc = some sig → argsL.length = sig.parameters.length) (hst : st = argsL.reverse ++ .ref a :: rest) (hW : (rest.map fun v => v.category).sum ≤ W) (hsz : Ls.size = ml) (hd : decode bs pc = .ok (.invokespecial ix, 3)) (hp : pc + 3 = pc')
    (K : ∀ T' h' v, Core p l e R s m args below meth c bs ml ret nm own Z a0 EL nw vm T' h' (k + ck) (n + cn) → Keep h h' ws → CHr Z EL vm h vm h' → (∃ L, Qf v h' L) → Endw p e below T' (mkF m pc' Ls (v.toList ++ rest)) F) : Endw p e below T (mkF m pc Ls st) F := by
  subst hp has
  obtain ⟨-, ⟨L, X, N⟩, -⟩ := id C
  obtain ⟨v, vm₁, B, -, X', ⟨L', q1, e1, e2, e3⟩, st'⟩ := X.specialBack C.hx (y := y) hy1 C.hown (mvT C.warm w1) (mvT C.warm w2) (mvT C.warm w3) hy hK (g := mkF m pc Ls st) rfl (hsz.trans C.mlq.symm) (Steps.refl _) (a := a) (argsL := argsL) (rest := rest) hlen hst (by show 2 * 0 + _ ≤ _; omega) (C.dec hd) (fun _ _ => ⟨rfl, C.heq, hk, hn⟩)
  obtain ⟨r1, r2⟩ := hQ _ _ _ q1
  exact Endw.ste st' (K _ _ v (C.behindF X' N r1 r2 ge S e1 e2 e3) r2 (CHr.keep r2 S C.chv) ⟨_, q1⟩)
theorem Core.staticF (C : Core p l e R s m args below meth c bs ml ret nm own Z a0 EL nw vm T h k n) {y : MethodName} {ix : Nat} {bytes : ByteArray} {mx ck cn : Nat} {rt : Option FieldType} {ws : List Addr} {W : Nat} {argsL st : List Value} {as' : Array Value} {Qf : Option Value → Heap → List Loc → Prop}
    (w1 : (Jvm.Cond.methodLink own ix y).before a0 Z = true) (w2 : (Jvm.Cond.static y).before a0 Z = true) (w3 : (Jvm.Cond.code y bytes mx rt).before a0 Z = true) (w4 : (Jvm.Cond.initialized y.cls).before a0 Z = true) (hy : y.cls ≠ "java/lang/invoke/MethodHandle" ∧ y.cls ≠ "java/lang/invoke/VarHandle")
    (hK : Back l R p e below (s.setVm vm) args y 3 W (fun P a => a = as' ∧ P.U.heap = h ∧ P.cells + ck ≤ R.cells ∧ P.slots + cn ≤ R.slots) (fun P _ v B => ∃ L, Qf v B.U.heap L ∧ B.locs = P.locs ++ L ∧ B.cells = P.cells + ck ∧ B.slots = P.slots + cn))
    (hQ : ∀ v h' L, Qf v h' L → Fr Z.heap.size L ∧ Keep h h' ws) (ge : ∀ x ∈ ws, Z.heap.size ≤ x) (S : ∀ x ∈ ws, Safe Z EL vm h x) (has : as' = argsL.toArray) (hk : k + ck ≤ R.cells) (hn : n + cn ≤ R.slots)
    (hlen : ∀ sig, parseMethodDescriptor y.desc = some sig → argsL.length = sig.parameters.length) (hst : st = argsL.reverse ++ rest) (hW : (rest.map fun v => v.category).sum ≤ W) (hsz : Ls.size = ml) (hd : decode bs pc = .ok (.invokestatic ix, 3)) (hp : pc + 3 = pc')
    (K : ∀ T' h' v, Core p l e R s m args below meth c bs ml ret nm own Z a0 EL nw vm T' h' (k + ck) (n + cn) → Keep h h' ws → CHr Z EL vm h vm h' → (∃ L, Qf v h' L) → Endw p e below T' (mkF m pc' Ls (v.toList ++ rest)) F) : Endw p e below T (mkF m pc Ls st) F := by
  subst hp has
  obtain ⟨-, ⟨L, X, N⟩, -⟩ := id C
  obtain ⟨v, vm₁, B, -, X', ⟨L', q1, e1, e2, e3⟩, st'⟩ := Jvm.LawKit.callS X C.hx (y := y) C.hown (mvT C.warm w1) (mvT C.warm w2) (mvT C.warm w4) (mvT C.warm w3) hy hK (g := mkF m pc Ls st) rfl (hsz.trans C.mlq.symm) (argsL := argsL) (rest := rest) hlen hst (by show 2 * 0 + _ ≤ _; omega) (C.dec hd) (fun _ _ => ⟨rfl, C.heq, hk, hn⟩)
  obtain ⟨r1, r2⟩ := hQ _ _ _ q1
  exact Endw.st st' (K _ _ v (C.behindF X' N r1 r2 ge S e1 e2 e3) r2 (CHr.keep r2 S C.chv) ⟨_, q1⟩)
theorem Core.virtualF (C : Core p l e R s m args below meth c bs ml ret nm own Z a0 EL nw vm T h k n) {y z : MethodName} {Cl : String} {ix ck cn : Nat} {ws : List Addr} {W : Nat} {a : Addr} {argsL st : List Value} {as' : Array Value} {Qf : Option Value → Heap → List Loc → Prop}
    (w1 : (Jvm.Cond.methodLink own ix y).before a0 Z = true) (w2 : (Jvm.Cond.declares y).before a0 Z = true) (hnf : ∀ U : State, Z.Warmed39 U.vm → NotFace U y) (w5 : (Jvm.Cond.selects Cl y z).before a0 Z = true) (w6 : (Jvm.Cond.instanceMethod z).before a0 Z = true) (hy : y.cls ≠ "java/lang/invoke/MethodHandle" ∧ y.cls ≠ "java/lang/invoke/VarHandle")
    (hK : Back l R p e below (s.setVm vm) args z 3 W (fun P a => a = as' ∧ P.U.heap = h ∧ P.cells + ck ≤ R.cells ∧ P.slots + cn ≤ R.slots) (fun P _ v B => ∃ L, Qf v B.U.heap L ∧ B.locs = P.locs ++ L ∧ B.cells = P.cells + ck ∧ B.slots = P.slots + cn))
    (hQ : ∀ v h' L, Qf v h' L → Fr Z.heap.size L ∧ Keep h h' ws) (ge : ∀ x ∈ ws, Z.heap.size ≤ x) (S : ∀ x ∈ ws, Safe Z EL vm h x) (has : as' = (.ref a :: argsL).toArray) (E : Exa Z h a Cl) (hk : k + ck ≤ R.cells) (hn : n + cn ≤ R.slots)
    (hlen : ∀ sig, parseMethodDescriptor y.desc = some sig → argsL.length = sig.parameters.length) (hst : st = argsL.reverse ++ .ref a :: rest) (hW : (rest.map fun v => v.category).sum ≤ W) (hsz : Ls.size = ml) (hd : decode bs pc = .ok (.invokevirtual ix, 3)) (hp : pc + 3 = pc')
    (K : ∀ T' h' v, Core p l e R s m args below meth c bs ml ret nm own Z a0 EL nw vm T' h' (k + ck) (n + cn) → Keep h h' ws → CHr Z EL vm h vm h' → (∃ L, Qf v h' L) → Endw p e below T' (mkF m pc' Ls (v.toList ++ rest)) F) : Endw p e below T (mkF m pc Ls st) F := by
  subst hp has
  obtain ⟨-, ⟨L, X, N⟩, -⟩ := id C
  obtain ⟨cq, kq, qa, qb, qc⟩ := isOf (s := s.setVm vm) C.warm C.heq E
  obtain ⟨v, vm₁, B, -, X', ⟨L', q1, e1, e2, e3⟩, st'⟩ := X.virtualBack C.hx (y := y) (z := z) C.hown (mvT C.warm w1) (mvT C.warm w2) (hnf _ (show Z.Warmed39 (s.setVm vm).vm from C.warm)) (mvT C.warm w5) (mvT C.warm w6) hy hK qa qc (g := mkF m pc Ls st) rfl (hsz.trans C.mlq.symm) (Steps.refl _) (argsL := argsL) (rest := rest) hlen hst (by show 2 * 0 + _ ≤ _; omega) (C.dec hd) (fun _ _ => ⟨rfl, C.heq, hk, hn⟩)
  obtain ⟨r1, r2⟩ := hQ _ _ _ q1
  exact Endw.ste st' (K _ _ v (C.behindF X' N r1 r2 ge S e1 e2 e3) r2 (CHr.keep r2 S C.chv) ⟨_, q1⟩)
/-! ## the head and the end of a body -/
theorem Met.of {y : MethodName} {bytes : ByteArray} {mx : Nat} {rt : Option FieldType} {ws : List Jvm.Cond} {rm : Room} {as' : Array Value} {xs : List Addr} (hy : plainFor y = true) (hEL : EW Z a0 EL) (O : Ext Z.heap h)
    (body : ∀ p e s m below meth c T, Core p l e rm s m as' below meth c bytes mx rt y.name y.cls Z a0 EL nw s.vm T h 0 0 → (∀ x ∈ xs, Safe Z EL s.vm h x) → Endw p e below T (entryFrame m as' mx) (Fin s Z EL nw Q rm.cells rm.slots)) :
    Met l Z EL nw y bytes mx rt ws rm as' h xs Q := by
  refine MetFree.of_bodySF hy hisR ?_
  intro p e s m args below meth c s₁ Bd hml hP hK
  obtain ⟨rfl, hZ, hh, hC, hS⟩ := hP
  have X0 : Stand p l e rm s m args below meth c s₁ [] 0 0 := Stand.of_body Bd
  have e0 : s₁.heap = h := by rw [← hh, Bd.state]; rfl
  have hC' : CHv Z EL s.vm s.heap := by rw [hh]; exact hC
  refine body p e s m below meth c s₁ ⟨⟨Bd.exec, Bd.bytes, hml, Bd.returns, BodyLoose.notSynchronized Bd, (name_of_methodNamed Bd.named Bd.method).1, hEL⟩, ⟨[], X0, Fr.nil _⟩, e0, hZ, findClass_of_methodNamed Bd.named, ⟨s.heap.size, (State.WarmedH.refl s).since _, by rw [hh]; exact Nat.le_refl _⟩, ?_, O, fun _ => ⟨State.WarmedH.refl s, fun y b => by rw [hh]; exact b⟩⟩ hS
  rw [← hh]; exact CHr.refl hC'
theorem Core.leave (C : Core p l e R s m args below meth c bs ml ret nm own Z a0 EL nw vm T h k n) {K N : Nat} {v : Option Value} (hv : ret = none → v = none) (hk : k ≤ K) (hn : n ≤ N) (q : Q v h) (st : ∀ {L : List Loc} {vm' : Vm}, Stand p l e R (s.setVm vm') m args below meth c T L k n → ∀ fs, (∀ (f : JFrame) (acts : List Action), f.method = m → f.locked = none → f.entered = [] → (doReturn e (T.setTop f) acts v).1 = T.setFrames fs) → Steps p.tables e below (T.setTop g) (T.setFrames fs)) :
    Endw p e below T g (Fin s Z EL nw Q K N) := by
  obtain ⟨-, ⟨L, X, NL⟩, -⟩ := id C
  obtain ⟨k0, hS, hk0⟩ := C.since
  have hk1 : k0 ≤ T.heap.size := by rw [C.heq]; exact hk0
  obtain ⟨fs, h1, h2, h3, h4, h5, h6, h7⟩ := X.leaveW hS hk1 (v := v) (fun hr => hv (C.rtq.symm.trans hr)) C.locks
  have e1 : (T.setFrames fs).heap = h := C.heq
  refine ⟨_, _, st X fs h1, h2, h3, v, L, rfl, ⟨by rw [e1]; exact q, NL, by rw [e1]; exact C.old⟩, ⟨?_, fun z => ⟨State.WarmedH.trans (C.nwm z).1 X.warmed, fun y b => ?_⟩⟩, h4, h5, h6, h7.mono hk hn⟩
  · have A := C.chr.trans (CHv.at X C.warm C.ew C.chv)
    rw [e1]; exact A
  · rw [e1] at b
    have b1 : Bk Z EL T.vm h y := b
    rcases (CHv.at X C.warm C.ew C.chv).2.2 y b1 with q1 | q1
    · exact (C.nwm z).2 y q1
    · obtain ⟨c0, hc0⟩ := Bk.there b1; exact absurd (Array.getElem?_eq_some_iff.mp hc0).1 (Nat.not_lt.mpr q1)
theorem Core.retV (C : Core p l e R s m args below meth c bs ml none nm own Z a0 EL nw vm T h k n) {K N : Nat} (hd : decode bs pc = .ok (.return_, 1)) (hk : k ≤ K) (hn : n ≤ N) (q : Q none h) : Endw p e below T (mkF m pc Ls []) (Fin s Z EL nw Q K N) :=
  C.leave (fun _ => rfl) hk hn q fun X fs hl => X.returnOut C.hx C.rtq (C.dec hd) hl
theorem Core.retX (C : Core p l e R s m args below meth c bs ml ret nm own Z a0 EL nw vm T h k n) {K N : Nat} {t : FieldType} {w : Value} {i : Instr} (hr : ret = some t) (hn' : narrow t w = w) (hi : (i = .ireturn ∧ (t = .int ∨ t = .boolean ∨ t = .byte ∨ t = .char ∨ t = .short) ∧ ∃ z, w = .int z) ∨ (i = .lreturn ∧ t = .long ∧ ∃ z, w = .long z) ∨ (i = .dreturn ∧ t = .double ∧ ∃ z, w = .double z) ∨ (i = .freturn ∧ t = .float ∧ ∃ z, w = .float z) ∨ (i = .areturn ∧ t.isReference = true ∧ w.isRef = true))
    (hd : decode bs pc = .ok (i, 1)) (hk : k ≤ K) (hn : n ≤ N) (q : Q (some w) h) : Endw p e below T (mkF m pc Ls (w :: rest)) (Fin s Z EL nw Q K N) :=
  C.leave (fun z => by subst hr; cases z) hk hn q fun X fs hl => RoadKit.retOut X C.hx (C.rtq.trans hr) hn' hi (C.dec hd) hl
theorem Core.retI (C : Core p l e R s m args below meth c bs ml ret nm own Z a0 EL nw vm T h k n) {K N : Nat} {t : FieldType} {z : Int32} (hr : ret = some t) (ht : t = .int ∨ t = .boolean ∨ t = .byte ∨ t = .char ∨ t = .short) (hn' : narrow t (.int z) = .int z) (hd : decode bs pc = .ok (.ireturn, 1)) (hk : k ≤ K) (hn : n ≤ N) (q : Q (some (.int z)) h) : Endw p e below T (mkF m pc Ls (.int z :: rest)) (Fin s Z EL nw Q K N) :=
  C.retX hr hn' (Or.inl ⟨rfl, ht, _, rfl⟩) hd hk hn q
theorem Core.retA (C : Core p l e R s m args below meth c bs ml ret nm own Z a0 EL nw vm T h k n) {K N : Nat} {t : FieldType} {w : Value} (hr : ret = some t) (ht : t.isReference = true) (hw : w.isRef = true) (hn' : narrow t w = w) (hd : decode bs pc = .ok (.areturn, 1)) (hk : k ≤ K) (hn : n ≤ N) (q : Q (some w) h) : Endw p e below T (mkF m pc Ls (w :: rest)) (Fin s Z EL nw Q K N) :=
  C.retX hr hn' (Or.inr (Or.inr (Or.inr (Or.inr ⟨rfl, ht, hw⟩)))) hd hk hn q
/-! ## String constants -/
theorem Core.ldcC (C : Core p l e R s m args below meth c bs ml ret nm own Z a0 EL nw vm T h k n) {text : String} {ix N : Nat} {vs : List Value} {z : Int32} (w : (Jvm.Cond.stringLink own ix text).before a0 Z = true) (wS : ∀ a ∈ Bundle.stringAtoms, a.before a0 Z = true) (hmem : (own, ix) ∈ EL) (ht : (∀ c ∈ text.toList, c.toNat < 256) ∧ text.toList.map (fun c => Value.int (Jvm.Lit.byteI c.toNat.toUInt16)) = vs) (hz : ¬ z < 0) (hl : z.toNatClampNeg = vs.length)
    (hN : 4 * text.toList.length ≤ N) (hbig : N ≤ 536870912) (hk : k + 2 ≤ R.cells) (hn : n + (N + 4) ≤ R.slots) (hd : decode bs pc = .ok (.ldc ix, 2)) (hp : pc + 2 = pc') (hnw : nw = false)
    (K : ∀ vm' T' h' a b kA, Core p l e R s m args below meth c bs ml ret nm own Z a0 EL nw vm' T' h' (k + 2) (n + (N + 4)) → Keep h h' [] → CHr Z EL vm h vm' h' → Exa Z h' a "java/lang/String" → Fld Z h' a "java/lang/String" "coder" "B" (.int 0) → Fld Z h' a "java/lang/String" "value" "[B" (.ref b) → Arv Z h' b kA .byte z vs (.int 0) → (∀ x, Safe Z EL vm' h' x → x ≠ a ∧ x ≠ b) → Endw p e below T' (mkF m pc' Ls (.ref a :: rest)) F) : Endw p e below T (mkF m pc Ls rest) F := by
  subst hp
  obtain ⟨-, ⟨L, X, NL⟩, -⟩ := id C
  obtain ⟨k0, hS, hk0⟩ := C.since
  obtain ⟨a, T', h', k1, b, kA, X', e', E, hS', hk1, hZ', hown', r1, r2, r3, r4, -, -, A, -, r5, st⟩ := RoadKit.ldcCH X C.hx C.warm C.hown w wS C.heq hS hk0 C.ew hmem C.chv ht hz hl (g := mkF m pc Ls rest) rfl (C.dec hd) hN hbig hk hn
  exact Endw.st st (K T'.vm T' h' a b kA ⟨C.1, ⟨L, X', NL⟩, e', hZ', hown', ⟨k1, hS', hk1⟩, C.chr.trans A, old_keep C.old (keep_of_ext E) all0, fun z => by rw [hnw] at z; cases z⟩ (keep_of_ext E) A r1 r2 r3 r4 r5)
theorem Core.ldcO (C : Core p l e R s m args below meth c bs ml ret nm own Z a0 EL nw vm T h k n) {text : String} {ix N : Nat} (w : (Jvm.Cond.stringLink own ix text).before a0 Z = true) (wS : ∀ a ∈ Bundle.stringAtoms, a.before a0 Z = true)
    (hN : 4 * text.toList.length ≤ N) (hbig : N ≤ 536870912) (hk : k + 2 ≤ R.cells) (hn : n + (N + 4) ≤ R.slots) (hd : decode bs pc = .ok (.ldc ix, 2)) (hp : pc + 2 = pc') (hnw : nw = false)
    (K : ∀ vm' T' h' a, Core p l e R s m args below meth c bs ml ret nm own Z a0 EL nw vm' T' h' (k + 2) (n + (N + 4)) → Keep h h' [] → CHr Z EL vm h vm' h' → Endw p e below T' (mkF m pc' Ls (.ref a :: rest)) F) : Endw p e below T (mkF m pc Ls rest) F := by
  subst hp
  obtain ⟨-, ⟨L, X, NL⟩, -⟩ := id C
  obtain ⟨k0, hS, hk0⟩ := C.since
  obtain ⟨a, T', h', k1, X', e', E, hS', hk1, hZ', hown', A, -, st⟩ := RoadKit.ldcOH X C.hx C.warm C.hown w wS C.heq hS hk0 C.ew C.chv (g := mkF m pc Ls rest) rfl (C.dec hd) hN hbig hk hn
  exact Endw.st st (K T'.vm T' h' a ⟨C.1, ⟨L, X', NL⟩, e', hZ', hown', ⟨k1, hS', hk1⟩, C.chr.trans A, old_keep C.old (keep_of_ext E) all0, fun z => by rw [hnw] at z; cases z⟩ (keep_of_ext E) A)
end Walk
end Jvm.Own
namespace Jvm.Own
open Jvm Jvm.ClassFile Sem Op Lib Jvm.Free Jvm.Stand Jvm.LawKit Jvm.RoadKit Bundle
section Help
variable {p : Program} {l : Launch} {e : Env} {R : Room} {s : State} {m : MethodId} {args : Array Value} {below : List Frame} {meth : Method} {c : Code}
variable {bs : ByteArray} {ml : Nat} {ret : Option FieldType} {nm own : String} {Z : State} {a0 : Array Value} {EL : List (String × Nat)} {nw : Bool} {vm : Vm} {T T' : State} {h h' : Heap} {k n : Nat} {g : JFrame} {rest : List Value}
theorem own_irem (C : Core p l e R s m args below meth c bs ml ret nm own Z a0 EL nw vm T h k n) {x y : Int32} {target : State} (hg : g.method = m) (hd : decode bs g.pc = .ok (.irem, 1)) (hs : g.stack = .int y :: .int x :: rest) (hy : y ≠ 0) (hr : Steps p.tables e below (T.setTop { g with pc := g.pc + 1, stack := .int (x % y) :: rest }) target) : Steps p.tables e below (T.setTop g) target := by
  obtain ⟨-, ⟨L, X, -⟩, -⟩ := id C
  exact iremM X C.hx hg (C.dec hd) hs hy hr
theorem own_ldcI (C : Core p l e R s m args below meth c bs ml ret nm own Z a0 EL nw vm T h k n) {ix : Nat} {v : Int32} {target : State} (w : (Jvm.Cond.constant own ix v).before a0 Z = true) (hg : g.method = m) (hd : decode bs g.pc = .ok (.ldc ix, 2)) (hr : Steps p.tables e below (T.setTop { g with pc := g.pc + 2, stack := .int v :: g.stack }) target) : Steps p.tables e below (T.setTop g) target := by
  obtain ⟨-, ⟨L, X, -⟩, -⟩ := id C
  exact X.ldcI C.hx C.hown (mvT C.warm w) hg (C.dec hd) hr
theorem own_nar_mask {x : Int32} : nar .char ((x &&& 255).toUInt32.toUInt16.toUInt32.toInt32) = x &&& 255 := by
  show ((x &&& 255).toUInt32.toUInt16.toUInt32.toInt32).toUInt32.toUInt16.toUInt32.toInt32 = _
  rw [i2c_mask, i2c_mask]
theorem own_toInt {y : Int32} (h : y.toBitVec.toNat < 2147483648) : y.toInt = (y.toBitVec.toNat : Int) := by
  have : y.toInt = y.toBitVec.toInt := rfl
  rw [this, BitVec.toInt_eq_toNat_cond, if_pos (by omega)]
theorem own_and_nat (x m : Int32) : (x &&& m).toBitVec.toNat = x.toBitVec.toNat &&& m.toBitVec.toNat := by simp [Int32.toBitVec_and, BitVec.toNat_and]
theorem own_cI (x : Int32) : (Value.int x).category = 1 := rfl
theorem own_cR (x : Addr) : (Value.ref x).category = 1 := rfl
theorem own_cN : Value.null.category = 1 := rfl
theorem own_cJ (x : Int64) : (Value.long x).category = 2 := rfl
theorem own_cD (x : UInt64) : (Value.double x).category = 2 := rfl
/-- a char of one byte -/
def B8 (c : Int32) : Prop := ¬ c < 0 ∧ ¬ (255 : Int32) < c
theorem own_mask255 (x : Int32) : B8 (x &&& 255) := by
  have e : (x &&& 255).toBitVec.toNat ≤ 255 := by rw [own_and_nat]; exact Nat.and_le_right
  have q := own_toInt (y := x &&& 255) (by omega)
  refine ⟨?_, ?_⟩ <;> rw [Int32.lt_iff_toInt_lt, q]
  · show ¬ (_ < (0 : Int)); omega
  · show ¬ ((255 : Int) < _); omega
theorem own_b16 {c : Int32} (h : B8 c) : ¬ c < 0 ∧ ¬ (65535 : Int32) < c := by
  refine ⟨h.1, fun q => h.2 ?_⟩
  rw [Int32.lt_iff_toInt_lt] at q ⊢
  have e1 : (65535 : Int32).toInt = 65535 := rfl
  have e2 : (255 : Int32).toInt = 255 := rfl
  omega
theorem own_c0 {P : Int32 → Prop} : ∀ c ∈ ([] : List Int32), P c := fun _ q => nomatch q
theorem own_cS {P : Int32 → Prop} {y : Int32} {L : List Int32} (q : P y) (r : ∀ c ∈ L, P c) : ∀ c ∈ y :: L, P c := fun x z => (List.mem_cons.mp z).elim (fun u => u ▸ q) (r x)
theorem own_nar_ref {v : Value} {t : FieldType} (h : v.isRef = true) (ht : t.isReference = true := by rfl) : narrow t v = v := by
  cases v <;> cases t <;> first | rfl | (cases h; done) | (cases ht; done)
theorem own_fits_ref {v : Value} {t : FieldType} (h : v.isRef = true) (ht : t.isReference = true := by rfl) : fits t v = true := by
  cases v <;> cases t <;> first | rfl | (cases h; done) | (cases ht; done)
theorem own_nar_byte {x : Int32} : nar .byte (x.toInt8.toInt32) = x.toInt8.toInt32 := by
  show (x.toInt8.toInt32).toInt8.toInt32 = _
  simp
theorem own_eqInt {args : Array Value} {first s : State} {o : Option Outcome} {idx : List Nat} {t : Term} {n : Int32} (h : (Jvm.Cond.eq t (Term.int n)).value args first o s idx = some true) : t.eval args first o idx s = some (.int n) := by
  simp only [Cond.value, Term.eval] at h
  cases ht : t.eval args first o idx s with
  | none => simp [ht] at h
  | some x => cases x <;> simp_all
/-- the bytes of a Latin-1 text -/
def bys (cs : List Int32) : List Value := (cs.map fun c => c.toInt8.toInt32).map Value.int
/-- the String at a: Latin-1, its byte[] at b, its chars cs -/
def Str (Z : State) (h : Heap) (a b : Addr) (kb : ClassId) (cs : List Int32) : Prop :=
  Exa Z h a "java/lang/String" ∧ Fld Z h a "java/lang/String" "coder" "B" (.int 0) ∧ Fld Z h a "java/lang/String" "value" "[B" (.ref b) ∧
    Arv Z h b kb .byte (Int32.ofNat cs.length) (bys cs) (.int 0) ∧ (∀ c ∈ cs, B8 c) ∧ cs.length ≤ 4000
theorem Str.keep {a b : Addr} {kb : ClassId} {cs : List Int32} {ws : List Addr} (S : Str Z h a b kb cs) (K : Keep h h' ws) (q1 : a ∉ ws) (q2 : b ∉ ws) : Str Z h' a b kb cs :=
  ⟨S.1.keep K, S.2.1.keep K q1, S.2.2.1.keep K q1, S.2.2.2.1.keep K q2, S.2.2.2.2⟩
theorem own_instanceofNull (C : Core p l e R s m args below meth c bs ml ret nm own Z a0 EL nw vm T h k n) {ix : Nat} {target : State} (hg : g.method = m) (hs : g.stack = .null :: rest) (hd : decode bs g.pc = .ok (.instanceof ix, 3)) (hr : Steps p.tables e below (T.setTop { g with pc := g.pc + 3, stack := .int 0 :: rest }) target) : Steps p.tables e below (T.setTop g) target := by
  obtain ⟨-, ⟨L, X, -⟩, -⟩ := id C
  exact X.instanceofNull C.hx hg hs (C.dec hd) _ hr
theorem own_checkcastNull (C : Core p l e R s m args below meth c bs ml ret nm own Z a0 EL nw vm T h k n) {ix : Nat} {target : State} (hg : g.method = m) (hs : g.stack = .null :: rest) (hd : decode bs g.pc = .ok (.checkcast ix, 3)) (hr : Steps p.tables e below (T.setTop { g with pc := g.pc + 3 }) target) : Steps p.tables e below (T.setTop g) target := by
  obtain ⟨-, ⟨L, X, -⟩, -⟩ := id C
  exact X.checkcastNull C.hx hg hs (C.dec hd) _ hr
theorem own_ldc2J (C : Core p l e R s m args below meth c bs ml ret nm own Z a0 EL nw vm T h k n) {ix : Nat} {v : Int64} {target : State} (w : (Jvm.Cond.constantLong own ix v).before a0 Z = true) (hg : g.method = m) (hd : decode bs g.pc = .ok (.ldc2_w ix, 3)) (hr : Steps p.tables e below (T.setTop { g with pc := g.pc + 3, stack := .long v :: g.stack }) target) : Steps p.tables e below (T.setTop g) target := by
  obtain ⟨-, ⟨L, X, -⟩, -⟩ := id C
  exact X.ldc2J C.hx C.hown (mvT C.warm w) hg (C.dec hd) hr
variable {F : Outcome → State → Prop} {pc pc' : Nat} {Ls : Array Slot}
theorem Core.instY (C : Core p l e R s m args below meth c bs ml ret nm own Z a0 EL nw vm T h k n) {K : String} {ix : Nat} {a : Addr} (w : (Jvm.Cond.classLink own ix K).before a0 Z = true) (f : Ins Z h a K true) (hd : decode bs pc = .ok (.instanceof ix, 3)) (hp : pc + 3 = pc')
    (Kk : ∀ T', Core p l e R s m args below meth c bs ml ret nm own Z a0 EL nw vm T' h k n → Endw p e below T' (mkF m pc' Ls (.int 1 :: rest)) F) : Endw p e below T (mkF m pc Ls (.ref a :: rest)) F := by
  subst hp
  obtain ⟨-, ⟨L, X, N⟩, -⟩ := id C
  obtain ⟨T', X', e', st⟩ := RoadKit.instY X C.hx C.warm C.hown w C.heq f (g := mkF m pc Ls (.ref a :: rest)) rfl rfl (C.dec hd)
  exact Endw.st st (Kk T' (C.same X' N e'))
theorem Core.castY (C : Core p l e R s m args below meth c bs ml ret nm own Z a0 EL nw vm T h k n) {K : String} {ix : Nat} {a : Addr} (w : (Jvm.Cond.classLink own ix K).before a0 Z = true) (f : Ins Z h a K true) (hd : decode bs pc = .ok (.checkcast ix, 3)) (hp : pc + 3 = pc')
    (Kk : ∀ T', Core p l e R s m args below meth c bs ml ret nm own Z a0 EL nw vm T' h k n → Endw p e below T' (mkF m pc' Ls (.ref a :: rest)) F) : Endw p e below T (mkF m pc Ls (.ref a :: rest)) F := by
  subst hp
  obtain ⟨-, ⟨L, X, N⟩, -⟩ := id C
  obtain ⟨T', X', e', st⟩ := RoadKit.castY X C.hx C.warm C.hown w C.heq f (g := mkF m pc Ls (.ref a :: rest)) rfl rfl (C.dec hd)
  exact Endw.st st (Kk T' (C.same X' N e'))
theorem Core.instNo (C : Core p l e R s m args below meth c bs ml ret nm own Z a0 EL nw vm T h k n) {K Cl : String} {ix : Nat} {a : Addr} (w : (Jvm.Cond.classLink own ix K).before a0 Z = true) (E : Exa Z h a Cl) (f : ∃ c t, Z.vm.findClass Cl = some c ∧ Z.vm.findClass K = some t ∧ Z.vm.assignable c t = false) (hd : decode bs pc = .ok (.instanceof ix, 3)) (hp : pc + 3 = pc')
    (Kk : ∀ T', Core p l e R s m args below meth c bs ml ret nm own Z a0 EL nw vm T' h k n → Endw p e below T' (mkF m pc' Ls (.int 0 :: rest)) F) : Endw p e below T (mkF m pc Ls (.ref a :: rest)) F := by
  subst hp
  obtain ⟨-, ⟨L, X, N⟩, -⟩ := id C
  obtain ⟨T', X', e', st⟩ := RoadKit.instNo X C.hx C.warm C.hown w C.heq E f (g := mkF m pc Ls (.ref a :: rest)) rfl rfl (C.dec hd)
  exact Endw.st st (Kk T' (C.same X' N e'))
theorem own_found {K : String} {i : Nat} (wk : (Jvm.Cond.instantiable K i).before a0 Z = true) : ∃ t kt, Z.vm.findClass K = some t ∧ Z.vm.classes[t]? = some kt ∧ kt.kind = .ordinary ∧ kt.isInterface = false := by
  obtain ⟨t, kt, h1, h2, h3, h4, -⟩ := Cond.instantiable_spec wk
  exact ⟨t, kt, h1, h2, h3, (Bool.or_eq_false_iff.mp h4).1⟩
theorem own_NSroot {O K : String} {i : Nat} (w : (Jvm.Cond.noSuperclass O).before a0 Z = true) (wk : (Jvm.Cond.instantiable K i).before a0 Z = true) (hn : O ≠ K) : NS Z O K := by
  obtain ⟨c, k, h1, h2, h3, -, -⟩ := Cond.noSuperclass_spec w
  obtain ⟨t, -, g1, -⟩ := own_found wk
  have ne := ids_ne h1 g1 hn
  refine ⟨c, t, h1, g1, fun fuel => ?_⟩
  cases fuel with
  | zero => rfl
  | succ f => simp [Vm.isSubclassAux, ne, h2, h3]
theorem own_NSno {Cl S K : String} {i : Nat} (w : (Jvm.Cond.superclass Cl S).before a0 Z = true) (wk : (Jvm.Cond.instantiable K i).before a0 Z = true) (n : NS Z Cl K) (hn : Cl ≠ K) : ∃ c t, Z.vm.findClass Cl = some c ∧ Z.vm.findClass K = some t ∧ Z.vm.assignable c t = false := by
  obtain ⟨c, t, h0, g0, n3⟩ := n
  obtain ⟨p, k, kp, h1, h2, h3, h4, h5, -, h7⟩ := Cond.superclass_spec h0 w
  obtain ⟨t', kt, g1, g2, g3, g4⟩ := own_found wk
  cases g0.symm.trans g1
  have ne := ids_ne h0 g0 hn
  refine ⟨c, t, h0, g0, ?_⟩
  show Z.vm.assignableAux (255 + 1) c t = false
  simp [Vm.assignableAux, ne, h2, g2, h5, g3, g4, Vm.isSubclass, n3]
end Help
end Jvm.Own
namespace Jvm.Own
open Jvm Jvm.ClassFile Sem Op Lib Jvm.Free Jvm.Stand Jvm.LawKit Jvm.RoadKit Bundle
section Calls
variable {p : Program} {l : Launch} {e : Env} {R : Room} {s : State} {m : MethodId} {args : Array Value} {below : List Frame} {meth : Method} {c : Code}
variable {bs : ByteArray} {ml : Nat} {ret : Option FieldType} {nm own : String} {Z : State} {a0 : Array Value} {EL : List (String × Nat)} {nw nw' : Bool} {vm vm' : Vm} {T T' : State} {h h' : Heap} {k n k' n' : Nat} {F : Outcome → State → Prop} {pc pc' : Nat} {Ls : Array Slot} {rest : List Value} {g g' : JFrame} {Q : Option Value → Heap → Prop}
/-- what a callee that interns nothing has made is safe -/
theorem own_safe_new {t : Addr} (M : ∀ y, Bk Z EL vm' h' y → Bk Z EL vm h y) (ge : h.size ≤ t) : Safe Z EL vm' h' t := fun b => Safe.new ge (M t b)
/-- the class of y is no interface -/
def Plain (Z : State) (C : String) : Prop := ∃ c k, Z.vm.findClass C = some c ∧ Z.vm.classes[c]? = some k ∧ k.isInterface = false
theorem own_plain {C : String} {y : MethodName} (w : (Jvm.Cond.selects C y y).before a0 Z = true) (wi : (Jvm.Cond.instanceMethod y).before a0 Z = true) : Plain Z y.cls := by
  obtain ⟨mk, methM, hn, -, -, -⟩ := Cond.instanceMethod_spec wi
  obtain ⟨kr, h1, h2⟩ := notFace_of_selects w _ hn
  exact ⟨_, kr, findClass_of_methodNamed hn, h1, h2⟩
theorem own_nf {y : MethodName} (P : Plain Z y.cls) : NotFace Z y := fun r0 h0 => by
  obtain ⟨cc, kc, h1, h2, h3⟩ := P
  cases h1.symm.trans (findClass_of_methodNamed h0)
  exact ⟨kc, h2, h3⟩
theorem own_same {y : MethodName} (w : (Jvm.Cond.declares y).before a0 Z = true) (P : Plain Z y.cls) (hy : y.cls ≠ "java/lang/invoke/MethodHandle" ∧ y.cls ≠ "java/lang/invoke/VarHandle") : (Jvm.Cond.sameMethod y.cls y.cls y.name y.desc).before a0 Z = true := by
  obtain ⟨r0, r, hn, -, -, -⟩ := Cond.declares_spec w
  obtain ⟨c, kc, h1, h2, h3⟩ := P
  have hf := State.methodFound?_of_named hn hy
  have hn' : Z.methodNamed? ⟨y.cls, y.name, y.desc⟩ = some r0 := hn
  simp [Cond.before, Cond.holds, Cond.value, h1, hf, hn', h2, h3]
theorem Core.super (C : Core p l e R s m args below meth c bs ml ret nm own Z a0 EL nw vm T h k n) {y : MethodName} {Cl : String} {ix : Nat} {bytes : ByteArray} {mx : Nat} {rt : Option FieldType} {rm : Room} {xs : List Addr} {W : Nat} {a : Addr} {argsL st : List Value} {as' : Array Value} (hne : y.name ≠ "<init>")
    (w1 : (Jvm.Cond.methodLink own ix y).before a0 Z = true) (w2 : (Jvm.Cond.sameMethod y.cls y.cls y.name y.desc).before a0 Z = true) (w6 : (Jvm.Cond.instanceMethod y).before a0 Z = true) (w5 : (Jvm.Cond.superclass own y.cls).before a0 Z = true) (w3 : (Jvm.Cond.code y bytes mx rt).before a0 Z = true) (w4 : (Jvm.Cond.initialized y.cls).before a0 Z = true)
    (hM : Met l Z EL nw' y bytes mx rt [] rm as' h xs Q) (hnn : nw = true → nw' = true) (has : as' = (.ref a :: argsL).toArray) (E : Exa Z h a Cl) (hs : ∀ x ∈ xs, x < h.size ∧ Safe Z EL vm h x) (hf : rm.frames + 1 ≤ R.frames) (hl : W + (mx + 11) + rm.locals ≤ R.locals) (hk : k + rm.cells ≤ R.cells) (hn : n + rm.slots ≤ R.slots)
    (hlen : ∀ sig, parseMethodDescriptor y.desc = some sig → argsL.length = sig.parameters.length) (hst : st = argsL.reverse ++ .ref a :: rest) (hW : (rest.map fun v => v.category).sum ≤ W) (hsz : Ls.size = ml) (hd : decode bs pc = .ok (.invokespecial ix, 3)) (hp : pc + 3 = pc')
    (K : ∀ vm' T' h' v, Core p l e R s m args below meth c bs ml ret nm own Z a0 EL nw vm' T' h' (k + rm.cells) (n + rm.slots) → CHr Z EL vm h vm' h' → (nw' = true → ∀ y, Bk Z EL vm' h' y → Bk Z EL vm h y) → Q v h' → Endw p e below T' (mkF m pc' Ls (v.toList ++ rest)) F) : Endw p e below T (mkF m pc Ls st) F := by
  subst hp has
  obtain ⟨-, ⟨L, X, N⟩, -⟩ := id C
  obtain ⟨v, vm₁, B, -, X', h2, -, ⟨L', ⟨q1, q2, q3⟩, e1, e2, e3, A, M⟩, st'⟩ := RoadKit.superBackS (a0 := a0) (s := s.setVm vm) (K := Cl) X C.hx C.warm (y := y) C.hown w1 w2 w6 w5 hne (backOwn (W := W) hM C.warm w3 w4 hf hl C.ew C.chv hs) C.heq (Ins.self E) (g := mkF m pc Ls st) rfl (hsz.trans C.mlq.symm) w3 (argsL := argsL) (rest := rest) hlen hst (by show 2 * 0 + _ ≤ _; omega) (C.dec hd) (fun _ _ => ⟨rfl, C.heq, hk, hn⟩)
  exact Endw.ste st' (K _ _ _ v (C.behind X' h2 N q2 q3 e1 e2 e3 A (fun z => M (hnn z))) A (fun z => (M z).2) q1)
theorem Core.priv (C : Core p l e R s m args below meth c bs ml ret nm own Z a0 EL nw vm T h k n) {y : MethodName} {Cl : String} {ix : Nat} {bytes : ByteArray} {mx : Nat} {rt : Option FieldType} {rm : Room} {xs : List Addr} {W : Nat} {a : Addr} {argsL st : List Value} {as' : Array Value}
    (w1 : (Jvm.Cond.methodLink own ix y).before a0 Z = true) (w6 : (Jvm.Cond.instanceMethod y).before a0 Z = true) (P : Plain Z y.cls) (w7 : (Jvm.Cond.privateMethod y).before a0 Z = true) (w3 : (Jvm.Cond.code y bytes mx rt).before a0 Z = true) (w4 : (Jvm.Cond.initialized y.cls).before a0 Z = true) (hy : y.cls ≠ "java/lang/invoke/MethodHandle" ∧ y.cls ≠ "java/lang/invoke/VarHandle")
    (hM : Met l Z EL nw' y bytes mx rt [] rm as' h xs Q) (hnn : nw = true → nw' = true) (has : as' = (.ref a :: argsL).toArray) (E : Exa Z h a Cl) (hs : ∀ x ∈ xs, x < h.size ∧ Safe Z EL vm h x) (hf : rm.frames + 1 ≤ R.frames) (hl : W + (mx + 11) + rm.locals ≤ R.locals) (hk : k + rm.cells ≤ R.cells) (hn : n + rm.slots ≤ R.slots)
    (hlen : ∀ sig, parseMethodDescriptor y.desc = some sig → argsL.length = sig.parameters.length) (hst : st = argsL.reverse ++ .ref a :: rest) (hW : (rest.map fun v => v.category).sum ≤ W) (hsz : Ls.size = ml) (hd : decode bs pc = .ok (.invokevirtual ix, 3)) (hp : pc + 3 = pc')
    (K : ∀ vm' T' h' v, Core p l e R s m args below meth c bs ml ret nm own Z a0 EL nw vm' T' h' (k + rm.cells) (n + rm.slots) → CHr Z EL vm h vm' h' → (nw' = true → ∀ y, Bk Z EL vm' h' y → Bk Z EL vm h y) → Q v h' → Endw p e below T' (mkF m pc' Ls (v.toList ++ rest)) F) : Endw p e below T (mkF m pc Ls st) F := by
  subst hp has
  obtain ⟨-, ⟨L, X, N⟩, -⟩ := id C
  obtain ⟨cell, c1, c2⟩ := Exa.cell E
  obtain ⟨cP, kP, p1, p2, p3⟩ := P
  have w5 : (Jvm.Cond.selects y.cls y y).before a0 Z = true := selects_self_of_private p1 p2 p3 (Cond.privateMethod_at w7) w6 hy
  obtain ⟨v, vm₁, B, -, X', h2, -, ⟨L', ⟨q1, q2, q3⟩, e1, e2, e3, A, M⟩, st'⟩ := X.privateBackS C.hx (y := y) C.hown (mvT C.warm w1) (mvT C.warm w6) (mvT C.warm w5) (Cond.privateMethod_at (mvP (s := s.setVm vm) C.warm w7 (args := #[]))) (mvT C.warm w3) hy (backOwn (W := W) hM C.warm w3 w4 hf hl C.ew C.chv hs) (g := mkF m pc Ls st) rfl (hsz.trans C.mlq.symm) (Steps.refl _) (a := a) (by rw [C.heq]; exact c1) c2 (argsL := argsL) (rest := rest) hlen hst (by show 2 * 0 + _ ≤ _; omega) (C.dec hd) (fun _ _ => ⟨rfl, C.heq, hk, hn⟩)
  exact Endw.ste st' (K _ _ _ v (C.behind X' h2 N q2 q3 e1 e2 e3 A (fun z => M (hnn z))) A (fun z => (M z).2) q1)
/-- System.arraycopy between two primitive arrays of one kind -/
theorem Core.acopy (C : Core p l e R s m args below meth c bs ml ret nm own Z a0 EL nw vm T h k n) {ix : Nat} {a b : Addr} {k1 k2 : ClassId} {ty : FieldType} {z1 z2 sp dp nn : Int32} {vs vd vr : List Value} {d1 d2 : Value} {W : Nat}
    (w1 : (Jvm.Cond.methodLink own ix Jvm.Stand.acN).before a0 Z = true) (w2 : (Jvm.Cond.native Jvm.Stand.acN).before a0 Z = true) (w3 : (Jvm.Cond.static Jvm.Stand.acN).before a0 Z = true) (w4 : (Jvm.Cond.initialized "java/lang/System").before a0 Z = true)
    (A : Arv Z h a k1 ty z1 vs d1) (B : Arv Z h b k2 ty z2 vd d2) (hty : refKind ty = false) (h1 : ¬ sp < 0) (h2 : ¬ dp < 0) (h3 : ¬ nn < 0) (h4 : sp.toNatClampNeg + nn.toNatClampNeg ≤ z1.toNatClampNeg) (h5 : dp.toNatClampNeg + nn.toNatClampNeg ≤ z2.toNatClampNeg) (hl : dp.toNatClampNeg + nn.toNatClampNeg ≤ vd.length)
    (hr : vd.take dp.toNatClampNeg ++ ((List.range nn.toNatClampNeg).map fun i => vs.getD (sp.toNatClampNeg + i) d1) ++ vd.drop (dp.toNatClampNeg + nn.toNatClampNeg) = vr) (ge : Z.heap.size ≤ b) (sf : Safe Z EL vm h b) (hsz : Ls.size = ml) (hd : decode bs pc = .ok (.invokestatic ix, 3)) (hp : pc + 3 = pc')
    (hf : 1 ≤ R.frames) (hW : (rest.map fun v => v.category).sum ≤ W) (hlo : W + (nativeFrameWords "java/lang/System" "arraycopy" 5 + 11) ≤ R.locals)
    (K : ∀ T' h', Core p l e R s m args below meth c bs ml ret nm own Z a0 EL nw vm T' h' k n → Keep h h' [b] → CHr Z EL vm h vm h' → Arv Z h' b k2 ty z2 vr d2 → Endw p e below T' (mkF m pc' Ls rest) F) : Endw p e below T (mkF m pc Ls (.int nn :: .int dp :: .ref b :: .int sp :: .ref a :: rest)) F := by
  subst hp hr
  obtain ⟨-, ⟨L, X, N⟩, -⟩ := id C
  obtain ⟨T', h', L', X', e', N', Kp, V, st⟩ := RoadKit.cpA X C.hx C.warm C.hown w1 w2 w3 w4 C.heq A B (Or.inl ⟨rfl, hty⟩) h1 h2 h3 h4 h5 rfl hl N ge (g := mkF m pc Ls (.int nn :: .int dp :: .ref b :: .int sp :: .ref a :: rest)) rfl (hsz.trans C.mlq.symm) rfl (C.dec hd) hf (W := W) (by show 2 * 0 + _ ≤ _; omega) hlo
  exact Endw.st st (K T' h' (C.on (ws := [b]) X' N' e' Kp (allS ge all0) (sfS sf sf0)) Kp (CHr.keep Kp (sfS sf sf0) C.chv) V)
end Calls
end Jvm.Own
namespace Jvm.OwnF
open Jvm.FP Jvm.FP.Core
/-- 2.0 -/
def two : UInt64 := 4611686018427387904
theorem val_two : val64 two = .fin false (2 ^ 52) (-51) := by decide +kernel
theorem qm : b64.qmin = -1074 := by decide
theorem half_val {x : UInt64} {s : Bool} {c : Nat} {q : Int} (hx : val64 x = .fin s c q) (hq : c ≠ 0 → b64.qmin < q) : val64 (Core.ddiv x two) = .fin s c (if c = 0 then b64.qmin else q - 1) := by
  rw [val64_ddiv, hx, val_two]
  have e0 : quotient b64 (.fin s c q) (.fin false (2 ^ 52) (-51)) = roundRatio b64 (s != false) c (2 ^ 52) (q - (-51)) := by
    unfold quotient; exact if_neg (by decide)
  rw [e0]
  have hs : (s != false) = s := by cases s <;> rfl
  rw [hs]
  by_cases h0 : c = 0
  · subst h0; simp [roundRatio]
  · rw [if_neg h0]
    have F := val64_fits x
    rw [hx] at F
    obtain ⟨f1, f2, f3, f4⟩ := F
    have hq' := hq h0
    have f4' : b64.tails ≤ c := f4.resolve_left (by omega)
    refine roundRatio_exact good_b64 (by decide) ⟨f1, by omega, by omega, Or.inr f4'⟩ ?_
    rw [show (q - (-51) - (q - 1)).toNat = 52 by omega, show (q - 1 - (q - (-51))).toNat = 0 by omega]
    omega
theorem order_shift (t : Bool) (d : Nat) (r : Int) (s : Bool) (c : Nat) (q : Int) : order (.fin t d r) (.fin s c (q - 1)) = order (.fin t d (r + 1)) (.fin s c q) := by
  simp only [order, inUnits]
  rw [show min (r + 1) q = min r (q - 1) + 1 by omega, show r + 1 - (min r (q - 1) + 1) = r - min r (q - 1) by omega, show q - (min r (q - 1) + 1) = q - 1 - min r (q - 1) by omega]
theorem whole_shift {i : Int} {t : Bool} {d : Nat} {r : Int} (h : Whole i (.fin t d r)) : Whole (2 * i) (.fin t d (r + 1)) := by
  have h' : signed t (d * 2 ^ r.toNat) = i * ((2 ^ (-r).toNat : Nat) : Int) := h
  show signed t (d * 2 ^ (r + 1).toNat) = 2 * i * ((2 ^ (-(r + 1)).toNat : Nat) : Int)
  by_cases hr : 0 ≤ r
  · rw [show (r + 1).toNat = r.toNat + 1 by omega, show (-(r + 1)).toNat = 0 by omega, Nat.pow_succ, ← Nat.mul_assoc, signed_mul, h', show (-r).toNat = 0 by omega]
    simp; omega
  · rw [show (r + 1).toNat = 0 by omega]
    rw [show r.toNat = 0 by omega, show (-r).toNat = (-(r + 1)).toNat + 1 by omega, Nat.pow_succ] at h'
    rw [h']; push_cast; rw [Int.mul_comm 2 i, Int.mul_assoc, Int.mul_comm 2]
theorem whole_q {i : Int} {s : Bool} {c : Nat} {q : Int} (hw : Whole i (.fin s c q)) (hf : Core.fits b64 (.fin s c q)) (hc : c ≠ 0) : b64.qmin < q := by
  obtain ⟨f1, f2, f3, f4⟩ := hf
  rcases Int.lt_or_eq_of_le f2 with h | h
  · exact h
  · exfalso
    have h' : signed s (c * 2 ^ q.toNat) = i * ((2 ^ (-q).toNat : Nat) : Int) := hw
    rw [← h, qm] at h'
    have e1 : ((-1074 : Int)).toNat = 0 := by decide
    have e2 : (-(-1074 : Int)).toNat = 1074 := by decide
    rw [e1, e2, Nat.pow_zero, Nat.mul_one] at h'
    have h2 := congrArg Int.natAbs h'
    rw [natAbs_signed, Int.natAbs_mul, Int.natAbs_natCast] at h2
    have f1' : c < 2 ^ 53 := f1
    have hi : i.natAbs ≠ 0 := fun z => hc (by rw [h2, z, Nat.zero_mul])
    have h3 : 2 ^ 1074 ≤ i.natAbs * 2 ^ 1074 := Nat.le_mul_of_pos_left _ (Nat.pos_of_ne_zero hi)
    have h4 : (2 : Nat) ^ 53 ≤ 2 ^ 1074 := Nat.pow_le_pow_right (by decide) (by decide)
    omega
/-- a whole number against half a whole number -/
theorem cmp_half {x y : UInt64} {i j : Int} (hx : DInt i x) (hy : DInt j y) : Core.dcmp x (Core.ddiv y two) = some (compare (2 * i) j) := by
  show order (val64 x) (val64 (Core.ddiv y two)) = _
  have hx' : Whole i (val64 x) := hx
  have hy' : Whole j (val64 y) := hy
  cases ex : val64 x with
  | nan => rw [ex] at hx'; exact hx'.elim
  | inf => rw [ex] at hx'; exact hx'.elim
  | fin t d r =>
    cases ey : val64 y with
    | nan => rw [ey] at hy'; exact hy'.elim
    | inf => rw [ey] at hy'; exact hy'.elim
    | fin s c q =>
      rw [ex] at hx'; rw [ey] at hy'
      have hf := val64_fits y
      rw [ey] at hf
      rw [half_val ey (whole_q hy' hf)]
      by_cases h0 : c = 0
      · rw [if_pos h0]
        subst h0
        have hj : j = 0 := by
          have h' : signed s (0 * 2 ^ q.toNat) = j * ((2 ^ (-q).toNat : Nat) : Int) := hy'
          rw [Nat.zero_mul, signed_zero] at h'
          have p := Nat.two_pow_pos (-q).toNat
          rcases Int.mul_eq_zero.mp h'.symm with z | z
          · exact z
          · omega
        have w0 : Whole 0 (.fin s 0 b64.qmin) := by show signed s (0 * _) = 0 * _; rw [Nat.zero_mul, signed_zero, Int.zero_mul]
        rw [order_whole hx' w0, hj]
        congr 1
        simp only [compare, compareOfLessAndEq]
        by_cases z : i < 0
        · rw [if_pos z, if_pos (by omega)]
        · rw [if_neg z, if_neg (show ¬ 2 * i < 0 by omega)]
          by_cases z2 : i = 0
          · rw [if_pos z2, if_pos (by omega)]
          · rw [if_neg z2, if_neg (by omega)]
      · rw [if_neg h0, order_shift]
        exact order_whole (whole_shift hx') hy'
end Jvm.OwnF
namespace Jvm.Own
open Jvm Jvm.ClassFile Sem Op Lib Jvm.Free Jvm.Stand Jvm.LawKit Jvm.RoadKit Bundle Jvm.Free.Fl
section FltS
variable {p : Program} {l : Launch} {e : Env} {R : Room} {s : State} {m : MethodId} {args : Array Value} {below : List Frame} {meth : Method} {c : Code}
variable {bs : ByteArray} {ml : Nat} {ret : Option FieldType} {nm own : String} {Z : State} {a0 : Array Value} {EL : List (String × Nat)} {nw : Bool} {vm : Vm} {T T' : State} {h h' : Heap} {k n : Nat} {F : Outcome → State → Prop} {pc pc' : Nat} {Ls : Array Slot} {rest : List Value} {g : JFrame}
theorem own_ldc2D (C : Core p l e R s m args below meth c bs ml ret nm own Z a0 EL nw vm T h k n) {ix : Nat} {v : UInt64} {target : State} (w : (Jvm.Cond.constantDouble own ix v).before a0 Z = true) (hg : g.method = m) (hd : decode bs g.pc = .ok (.ldc2_w ix, 3)) (hr : Steps p.tables e below (T.setTop { g with pc := g.pc + 3, stack := .double v :: g.stack }) target) : Steps p.tables e below (T.setTop g) target := by
  obtain ⟨-, ⟨L, X, -⟩, -⟩ := id C
  exact X.ldc2DoubleC C.hx C.hown (mvT C.warm w) hg (C.dec hd) _ hr
theorem Core.daload (C : Core p l e R s m args below meth c bs ml ret nm own Z a0 EL nw vm T h k n) {a : Addr} {kA : ClassId} {z j : Int32} {vs : List Value} {dv v : Value} (A : Arv Z h a kA .double z vs dv) (hj : ¬ j < 0 ∧ j < z) (hv : vs.getD j.toNatClampNeg dv = v) (hd : decode bs pc = .ok (.daload, 1)) (hp : pc + 1 = pc')
    (K : Endw p e below T (mkF m pc' Ls (v :: rest)) F) : Endw p e below T (mkF m pc Ls (.int j :: .ref a :: rest)) F := by
  subst hp
  obtain ⟨-, ⟨L, X, N⟩, -⟩ := id C
  obtain ⟨cl, Ar, -, S, hz, H, -⟩ := A
  exact Endw.st (fun t r => X.daload C.hx (by rw [C.heq]; exact Ar.1) (State.isArrayOf_alike C.warm.alike Ar.2.1) Ar.2.2 (inb_of S hj) (H.at (inb_of S hj) hv) (g := mkF m pc Ls (.int j :: .ref a :: rest)) rfl rfl (C.dec hd) t r) K
theorem Core.dastore (C : Core p l e R s m args below meth c bs ml ret nm own Z a0 EL nw vm T h k n) {a : Addr} {kA : ClassId} {z j : Int32} {x : UInt64} {vs vs' : List Value} {dv : Value} (A : Arv Z h a kA .double z vs dv) (hj : ¬ j < 0 ∧ j < z) (i : Nat) (hi : j.toNatClampNeg = i) (hl : i < vs.length) (ge : Z.heap.size ≤ a) (hvs : vs.set i (.double x) = vs') (hd : decode bs pc = .ok (.dastore, 1)) (hp : pc + 1 = pc')
    (K : ∀ T' h', Core p l e R s m args below meth c bs ml ret nm own Z a0 EL nw vm T' h' k n → Keep h h' [a] → CHr Z EL vm h vm h' → Arv Z h' a kA .double z vs' dv → Endw p e below T' (mkF m pc' Ls rest) F) : Endw p e below T (mkF m pc Ls (.double x :: .int j :: .ref a :: rest)) F := by
  subst hp hvs
  obtain ⟨-, ⟨L, X, N⟩, -⟩ := id C
  have sf : Safe Z EL vm h a := Safe.arv C.warm.alike A (by decide)
  obtain ⟨cl, Ar, q1, S, hz, H, G⟩ := A
  obtain ⟨T', h', X', e', W, st⟩ := RoadKit.stD X C.hx C.warm C.heq Ar (inb_of S hj) (g := mkF m pc Ls (.double x :: .int j :: .ref a :: rest)) rfl rfl (C.dec hd)
  exact Endw.st st (K T' h' (C.on (ws := [a]) X' (N.app fun y hy => by cases List.mem_singleton.mp hy; exact ge) e' (Keep.of_wr W) (allS ge all0) (sfS sf sf0)) (Keep.of_wr W) (CHr.keep (Keep.of_wr W) (sfS sf sf0) C.chv) (Arv.set Ar q1 S hz H G rfl W i hi hl))
theorem Core.minD (C : Core p l e R s m args below meth c bs ml ret nm own Z a0 EL nw vm T h k n) {ix W : Nat} {a b r : UInt64} (w1 : (Jvm.Cond.methodLink own ix Abs.minDN).before a0 Z = true) (w2 : (Jvm.Cond.static Abs.minDN).before a0 Z = true) (w3 : (Jvm.Cond.initialized "java/lang/Math").before a0 Z = true) (w4 : (Jvm.Cond.code Abs.minDN Abs.minDCode 4 (some .double)).before a0 Z = true)
    (ha : NoNaN64 a) (hb : NoNaN64 b) (hr : Native.java_lang_Math.nans.pick64 false a b = r) (hfr : 1 ≤ R.frames) (hlo : W + 15 ≤ R.locals) (hk : k ≤ R.cells) (hn : n ≤ R.slots) (hW : (rest.map fun v => v.category).sum ≤ W) (hsz : Ls.size = ml) (hd : decode bs pc = .ok (.invokestatic ix, 3)) (hp : pc + 3 = pc')
    (K : ∀ T', Core p l e R s m args below meth c bs ml ret nm own Z a0 EL nw vm T' h k n → Endw p e below T' (mkF m pc' Ls (.double r :: rest)) F) : Endw p e below T (mkF m pc Ls (.double b :: .double a :: rest)) F := by
  subst hp
  obtain ⟨-, ⟨L, X, N⟩, -⟩ := id C
  obtain ⟨T', X', e', st⟩ := RoadKit.natS X C.hx C.warm C.hown w1 w2 w3 w4 (by decide) C.heq (W := W) (fun w => Abs.minD_pays a b w hfr hlo) (g := mkF m pc Ls (.double b :: .double a :: rest)) rfl (hsz.trans C.mlq.symm) (argsL := [.double a, .double b]) (rest := rest) (lenOf (by decide +kernel : parseMethodDescriptor "(DD)D" = some ⟨[.double, .double], some .double⟩) rfl) rfl (by show 2 * 0 + _ ≤ _; omega) (C.dec hd) hk hn ⟨rfl, ha, hb⟩ (val' := .double r) (by rw [hr])
  exact Endw.st st (K T' (C.same X' N e'))
theorem Core.maxD (C : Core p l e R s m args below meth c bs ml ret nm own Z a0 EL nw vm T h k n) {ix W : Nat} {a b r : UInt64} (w1 : (Jvm.Cond.methodLink own ix Abs.maxDN).before a0 Z = true) (w2 : (Jvm.Cond.static Abs.maxDN).before a0 Z = true) (w3 : (Jvm.Cond.initialized "java/lang/Math").before a0 Z = true) (w4 : (Jvm.Cond.code Abs.maxDN Abs.maxDCode 4 (some .double)).before a0 Z = true)
    (ha : NoNaN64 a) (hb : NoNaN64 b) (hr : Native.java_lang_Math.nans.pick64 true a b = r) (hfr : 1 ≤ R.frames) (hlo : W + 15 ≤ R.locals) (hk : k ≤ R.cells) (hn : n ≤ R.slots) (hW : (rest.map fun v => v.category).sum ≤ W) (hsz : Ls.size = ml) (hd : decode bs pc = .ok (.invokestatic ix, 3)) (hp : pc + 3 = pc')
    (K : ∀ T', Core p l e R s m args below meth c bs ml ret nm own Z a0 EL nw vm T' h k n → Endw p e below T' (mkF m pc' Ls (.double r :: rest)) F) : Endw p e below T (mkF m pc Ls (.double b :: .double a :: rest)) F := by
  subst hp
  obtain ⟨-, ⟨L, X, N⟩, -⟩ := id C
  obtain ⟨T', X', e', st⟩ := RoadKit.natS X C.hx C.warm C.hown w1 w2 w3 w4 (by decide) C.heq (W := W) (fun w => Abs.maxD_pays a b w hfr hlo) (g := mkF m pc Ls (.double b :: .double a :: rest)) rfl (hsz.trans C.mlq.symm) (argsL := [.double a, .double b]) (rest := rest) (lenOf (by decide +kernel : parseMethodDescriptor "(DD)D" = some ⟨[.double, .double], some .double⟩) rfl) rfl (by show 2 * 0 + _ ≤ _; omega) (C.dec hd) hk hn ⟨rfl, ha, hb⟩ (val' := .double r) (by rw [hr])
  exact Endw.st st (K T' (C.same X' N e'))
theorem Core.retD (C : Core p l e R s m args below meth c bs ml ret nm own Z a0 EL nw vm T h k n) {Q : Option Value → Heap → Prop} {K N : Nat} {x : UInt64} (hr : ret = some .double) (hd : decode bs pc = .ok (.dreturn, 1)) (hk : k ≤ K) (hn : n ≤ N) (q : Q (some (.double x)) h) : Endw p e below T (mkF m pc Ls (.double x :: rest)) (Fin s Z EL nw Q K N) :=
  C.retX hr rfl (Or.inr (Or.inr (Or.inl ⟨rfl, rfl, _, rfl⟩))) hd hk hn q
/-! whole doubles -/
theorem own_b32 (x : Int32) : B53 x.toInt64 := by
  have h1 := x.toInt_lt; have h2 := x.le_toInt
  constructor <;> rw [Int32.toInt_toInt64] <;> omega
theorem own_nnI (x : Int32) : NoNaN64 (FP.i2d x) := (i2d_fin x).noNaN
theorem own_lt64 {x y : Int32} : x.toInt64 < y.toInt64 ↔ x < y := by rw [Int64.lt_iff_toInt_lt, Int32.lt_iff_toInt_lt, Int32.toInt_toInt64, Int32.toInt_toInt64]
theorem own_minW (x y : Int32) : Native.java_lang_Math.nans.pick64 false (FP.i2d x) (FP.i2d y) = FP.i2d (if y < x then y else x) := by
  by_cases q : x < y
  · have q' : ¬ y < x := by rw [Int32.lt_iff_toInt_lt] at q ⊢; omega
    rw [if_neg q', i2d_w, i2d_w]; exact min_l (own_b32 x) (own_b32 y) (own_lt64.mpr q)
  · have e := min_g (own_b32 x) (own_b32 y) (fun z => q (own_lt64.mp z))
    rw [i2d_w x, i2d_w y]
    by_cases q' : y < x
    · rw [if_pos q', i2d_w y]; exact e
    · have : y = x := by apply Int32.toInt_inj.mp; rw [Int32.lt_iff_toInt_lt] at q q'; omega
      subst this; rw [if_neg q', i2d_w y]; exact e
theorem own_maxW (x y : Int32) : Native.java_lang_Math.nans.pick64 true (FP.i2d x) (FP.i2d y) = FP.i2d (if x < y then y else x) := by
  by_cases q : x < y
  · rw [if_pos q, i2d_w, i2d_w]; exact max_l (own_b32 x) (own_b32 y) (own_lt64.mpr q)
  · rw [if_neg q, i2d_w, i2d_w]; exact max_g (own_b32 x) (own_b32 y) (fun z => q (own_lt64.mp z))
theorem own_pinfMin (x : Int32) : Native.java_lang_Math.nans.pick64 false 9218868437227405312 (FP.i2d x) = FP.i2d x := by
  have q : FP.dcmp 9218868437227405312 (FP.i2d x) = some .gt := (FP.Core.fin_lt_inf (fin64_core.mp (i2d_fin x))).2.2.1
  simp [Native.java_lang_Math.nans.pick64, q]
theorem own_ninfMax (x : Int32) : Native.java_lang_Math.nans.pick64 true 18442240474082181120 (FP.i2d x) = FP.i2d x := by
  have q : FP.dcmp 18442240474082181120 (FP.i2d x) = some .lt := (FP.Core.fin_lt_inf (fin64_core.mp (i2d_fin x))).2.2.2
  simp [Native.java_lang_Math.nans.pick64, q]
theorem own_nnP : NoNaN64 9218868437227405312 := by unfold NoNaN64; decide
theorem own_nnM : NoNaN64 18442240474082181120 := by unfold NoNaN64; decide
/-- the two's sum, in either order -/
theorem own_sumW (x y : Int32) : FP.dadd (FP.i2d (if y < x then y else x)) (FP.i2d (if x < y then y else x)) = FP.l2d (x.toInt64 + y.toInt64) := by
  rw [i2d_w, i2d_w, dadd_w (own_b32 _) (own_b32 _)]
  congr 1
  by_cases q : y < x
  · have q' : ¬ x < y := by rw [Int32.lt_iff_toInt_lt] at q ⊢; omega
    rw [if_pos q, if_neg q', Int64.add_comm]
  · rw [if_neg q]
    by_cases q' : x < y
    · rw [if_pos q']
    · have : y = x := by apply Int32.toInt_inj.mp; rw [Int32.lt_iff_toInt_lt] at q q'; omega
      subst this; rw [if_neg q]
theorem own_nnL (z : Int64) : NoNaN64 (FP.l2d z) := (l2d_fin z).noNaN
theorem own_nnSum (x y : Int32) : NoNaN64 (FP.dadd (FP.i2d (if y < x then y else x)) (FP.i2d (if x < y then y else x))) := by rw [own_sumW]; exact own_nnL _
theorem own_nnHalf (z : Int64) : NoNaN64 (FP.ddiv (FP.l2d z) 4611686018427387904) := ddiv_out (own_nnL z) (by unfold Fin64; decide) (by unfold Nz64; decide)
theorem own_cmpI (a b : Int) : cmpValue (some (compare a b)) .g = if a < b then -1 else if a = b then 0 else 1 := by
  by_cases q : a < b
  · rw [if_pos q, Int.compare_eq_lt.mpr q]; rfl
  · rw [if_neg q]
    by_cases r : a = b
    · rw [if_pos r, Int.compare_eq_eq.mpr r]; rfl
    · rw [if_neg r, Int.compare_eq_gt.mpr (by omega)]; rfl
theorem own_dintI (x : Int32) : FP.Core.DInt x.toInt (FP.i2d x) := by
  have h1 := x.toInt_lt; have h2 := x.le_toInt
  have q := FP.Core.l2d_int (a := x.toInt64) (by rw [Int32.toInt_toInt64]; omega)
  rw [Int32.toInt_toInt64] at q; rw [i2d_w]; exact q
theorem own_dintS (x y : Int32) : FP.Core.DInt (x.toInt + y.toInt) (FP.l2d (x.toInt64 + y.toInt64)) := by
  have h1 := x.toInt_lt; have h2 := x.le_toInt; have h3 := y.toInt_lt; have h4 := y.le_toInt
  have e := add64 (own_b32 x) (own_b32 y)
  rw [Int32.toInt_toInt64, Int32.toInt_toInt64] at e
  have q := FP.Core.l2d_int (a := x.toInt64 + y.toInt64) (by rw [e]; omega)
  rw [e] at q; exact q
theorem own_cmpHalf (w x y : Int32) : cmpValue (FP.dcmp (FP.i2d w) (FP.ddiv (FP.l2d (x.toInt64 + y.toInt64)) 4611686018427387904)) .g = if 2 * w.toInt < x.toInt + y.toInt then -1 else if 2 * w.toInt = x.toInt + y.toInt then 0 else 1 := by
  have q : FP.dcmp (FP.i2d w) (FP.ddiv (FP.l2d (x.toInt64 + y.toInt64)) 4611686018427387904) = some (compare (2 * w.toInt) (x.toInt + y.toInt)) := Jvm.OwnF.cmp_half (own_dintI w) (own_dintS x y)
  rw [q, own_cmpI]
theorem own_sgn {a b : Int} : (0 : Int32) < (if a < b then -1 else if a = b then 0 else 1) ↔ b < a := by
  by_cases q : a < b
  · rw [if_pos q]; constructor
    · intro z; exact absurd z (by decide)
    · intro z; omega
  · rw [if_neg q]
    by_cases r : a = b
    · rw [if_pos r]; constructor
      · intro z; exact absurd z (by decide)
      · intro z; omega
    · rw [if_neg r]; constructor
      · intro _; omega
      · intro _; decide
theorem own_minIn (x y : Int32) : ¬ (0 : Int32) < cmpValue (FP.dcmp (FP.i2d (if y < x then y else x)) (FP.ddiv (FP.l2d (x.toInt64 + y.toInt64)) 4611686018427387904)) .g := by
  rw [own_cmpHalf, own_sgn]
  by_cases q : y < x
  · rw [if_pos q]; rw [Int32.lt_iff_toInt_lt] at q; omega
  · rw [if_neg q]; rw [Int32.lt_iff_toInt_lt] at q; omega
theorem own_maxEq (x y : Int32) (hxy : x = y) : ¬ (0 : Int32) < cmpValue (FP.dcmp (FP.i2d (if x < y then y else x)) (FP.ddiv (FP.l2d (x.toInt64 + y.toInt64)) 4611686018427387904)) .g := by
  rw [own_cmpHalf, own_sgn]; subst hxy
  by_cases q : x < x
  · rw [if_pos q]; omega
  · rw [if_neg q]; omega
theorem own_maxNe (x y : Int32) (hxy : ¬ x = y) : (0 : Int32) < cmpValue (FP.dcmp (FP.i2d (if x < y then y else x)) (FP.ddiv (FP.l2d (x.toInt64 + y.toInt64)) 4611686018427387904)) .g := by
  rw [own_cmpHalf, own_sgn]
  have r : ¬ x.toInt = y.toInt := fun z => hxy (Int32.toInt_inj.mp z)
  by_cases q : x < y
  · rw [if_pos q]; rw [Int32.lt_iff_toInt_lt] at q; omega
  · rw [if_neg q]; rw [Int32.lt_iff_toInt_lt] at q; omega
theorem own_dirIff (x y : Int32) : (0 : Int32) < cmpValue (FP.dcmp (FP.i2d x) (FP.i2d y)) .g ↔ y < x := by
  have q : FP.dcmp (FP.i2d x) (FP.i2d y) = some (if x.toInt64.toInt < y.toInt64.toInt then .lt else if x.toInt64.toInt = y.toInt64.toInt then .eq else .gt) := by rw [i2d_w, i2d_w]; exact dcmp_ws (own_b32 x) (own_b32 y)
  rw [q, Int32.toInt_toInt64, Int32.toInt_toInt64, show y < x ↔ y.toInt < x.toInt from Int32.lt_iff_toInt_lt]
  by_cases h1 : x.toInt < y.toInt
  · rw [if_pos h1]; constructor
    · intro z; exact absurd z (by decide)
    · intro z; omega
  · rw [if_neg h1]
    by_cases h2 : x.toInt = y.toInt
    · rw [if_pos h2]; constructor
      · intro z; exact absurd z (by decide)
      · intro z; omega
    · rw [if_neg h2]; constructor
      · intro _; omega
      · intro _; decide
end FltS
end Jvm.Own
namespace Jvm.Pilot.@@N@@
open Jvm Jvm.ClassFile Sem Op Lib Jvm.Free Jvm.Stand Jvm.LawKit Jvm.RoadKit Bundle Jvm.Own Jvm.Pilot.@@N@@.Jvm.D
theorem d0_0 : decode jdk_29_method_69_code 0 = .ok (.iload_n 0, 1) := by decide +kernel
theorem d0_1 : decode jdk_29_method_69_code 1 = .ok (.iload_n 1, 1) := by decide +kernel
theorem d0_2 : decode jdk_29_method_69_code 2 = .ok (.if_icmp .gt 7, 3) := by decide +kernel
theorem d0_9 : decode jdk_29_method_69_code 9 = .ok (.iload_n 1, 1) := by decide +kernel
theorem d0_10 : decode jdk_29_method_69_code 10 = .ok (.ireturn, 1) := by decide +kernel
theorem d0_5 : decode jdk_29_method_69_code 5 = .ok (.iload_n 0, 1) := by decide +kernel
theorem d0_6 : decode jdk_29_method_69_code 6 = .ok (.goto 4, 3) := by decide +kernel
theorem d1_0 : decode jdk_29_method_65_code 0 = .ok (.iload_n 0, 1) := by decide +kernel
theorem d1_1 : decode jdk_29_method_65_code 1 = .ok (.iload_n 1, 1) := by decide +kernel
theorem d1_2 : decode jdk_29_method_65_code 2 = .ok (.if_icmp .lt 7, 3) := by decide +kernel
theorem d1_9 : decode jdk_29_method_65_code 9 = .ok (.iload_n 1, 1) := by decide +kernel
theorem d1_10 : decode jdk_29_method_65_code 10 = .ok (.ireturn, 1) := by decide +kernel
theorem d1_5 : decode jdk_29_method_65_code 5 = .ok (.iload_n 0, 1) := by decide +kernel
theorem d1_6 : decode jdk_29_method_65_code 6 = .ok (.goto 4, 3) := by decide +kernel
theorem d2_0 : decode prog_10_method_4_code 0 = .ok (.aload_n 0, 1) := by decide +kernel
theorem d2_1 : decode prog_10_method_4_code 1 = .ok (.arraylength, 1) := by decide +kernel
theorem d2_2 : decode prog_10_method_4_code 2 = .ok (.ifCond .ne 13, 3) := by decide +kernel
theorem d2_15 : decode prog_10_method_4_code 15 = .ok (.ldc2_w 18, 3) := by decide +kernel
theorem W5 {Z : State} {a0 : Array Value} (hw : ∀ d ∈ tables_1, d.before a0 Z = true) : (Jvm.Cond.constantDouble "com/example/cohabit/cohabit/FlowBounds" (18 : Nat) (9218868437227405312 : UInt64)).before a0 Z = true := hw _ (List.mem_of_getElem? (i := 5) rfl)
theorem d2_18 : decode prog_10_method_4_code 18 = .ok (.dstore_n 1, 1) := by decide +kernel
theorem d2_19 : decode prog_10_method_4_code 19 = .ok (.ldc2_w 80, 3) := by decide +kernel
theorem W6 {Z : State} {a0 : Array Value} (hw : ∀ d ∈ tables_1, d.before a0 Z = true) : (Jvm.Cond.constantDouble "com/example/cohabit/cohabit/FlowBounds" (80 : Nat) (18442240474082181120 : UInt64)).before a0 Z = true := hw _ (List.mem_of_getElem? (i := 6) rfl)
theorem d2_22 : decode prog_10_method_4_code 22 = .ok (.dstore_n 3, 1) := by decide +kernel
theorem d2_23 : decode prog_10_method_4_code 23 = .ok (.aload_n 0, 1) := by decide +kernel
theorem d2_24 : decode prog_10_method_4_code 24 = .ok (.astore 5, 2) := by decide +kernel
theorem d2_26 : decode prog_10_method_4_code 26 = .ok (.aload 5, 2) := by decide +kernel
theorem d2_28 : decode prog_10_method_4_code 28 = .ok (.arraylength, 1) := by decide +kernel
theorem d2_29 : decode prog_10_method_4_code 29 = .ok (.istore 6, 2) := by decide +kernel
theorem d2_31 : decode prog_10_method_4_code 31 = .ok (.iconst 0, 1) := by decide +kernel
theorem d2_32 : decode prog_10_method_4_code 32 = .ok (.istore 7, 2) := by decide +kernel
theorem d2_34 : decode prog_10_method_4_code 34 = .ok (.iload 7, 2) := by decide +kernel
theorem d2_36 : decode prog_10_method_4_code 36 = .ok (.iload 6, 2) := by decide +kernel
theorem d2_38 : decode prog_10_method_4_code 38 = .ok (.if_icmp .ge 30, 3) := by decide +kernel
theorem d2_41 : decode prog_10_method_4_code 41 = .ok (.aload 5, 2) := by decide +kernel
theorem d2_43 : decode prog_10_method_4_code 43 = .ok (.iload 7, 2) := by decide +kernel
theorem d2_45 : decode prog_10_method_4_code 45 = .ok (.daload, 1) := by decide +kernel
theorem d2_46 : decode prog_10_method_4_code 46 = .ok (.dstore 8, 2) := by decide +kernel
theorem d2_48 : decode prog_10_method_4_code 48 = .ok (.dload_n 1, 1) := by decide +kernel
theorem d2_49 : decode prog_10_method_4_code 49 = .ok (.dload 8, 2) := by decide +kernel
theorem d2_51 : decode prog_10_method_4_code 51 = .ok (.invokestatic 82, 3) := by decide +kernel
theorem W7 {Z : State} {a0 : Array Value} (hw : ∀ d ∈ tables_1, d.before a0 Z = true) : (Jvm.Cond.methodLink "com/example/cohabit/cohabit/FlowBounds" (82 : Nat) ({ cls := "java/lang/Math", name := "min", desc := "(DD)D" } : Jvm.MethodName)).before a0 Z = true := hw _ (List.mem_of_getElem? (i := 7) rfl)
theorem W8 {Z : State} {a0 : Array Value} (hw : ∀ d ∈ tables_1, d.before a0 Z = true) : (Jvm.Cond.static ({ cls := "java/lang/Math", name := "min", desc := "(DD)D" } : Jvm.MethodName)).before a0 Z = true := hw _ (List.mem_of_getElem? (i := 8) rfl)
theorem W9 {Z : State} {a0 : Array Value} (hw : ∀ d ∈ tables_1, d.before a0 Z = true) : (Jvm.Cond.initialized "java/lang/Math").before a0 Z = true := hw _ (List.mem_of_getElem? (i := 9) rfl)
theorem W10 {Z : State} {a0 : Array Value} (hw : ∀ d ∈ tables_1, d.before a0 Z = true) : (Jvm.Cond.code ({ cls := "java/lang/Math", name := "min", desc := "(DD)D" } : Jvm.MethodName) jdk_29_method_72_code (4 : Nat) (Option.some Jvm.ClassFile.FieldType.double)).before a0 Z = true := hw _ (List.mem_of_getElem? (i := 10) rfl)
theorem d2_54 : decode prog_10_method_4_code 54 = .ok (.dstore_n 1, 1) := by decide +kernel
theorem d2_55 : decode prog_10_method_4_code 55 = .ok (.dload_n 3, 1) := by decide +kernel
theorem d2_56 : decode prog_10_method_4_code 56 = .ok (.dload 8, 2) := by decide +kernel
theorem d2_58 : decode prog_10_method_4_code 58 = .ok (.invokestatic 88, 3) := by decide +kernel
theorem W11 {Z : State} {a0 : Array Value} (hw : ∀ d ∈ tables_1, d.before a0 Z = true) : (Jvm.Cond.methodLink "com/example/cohabit/cohabit/FlowBounds" (88 : Nat) ({ cls := "java/lang/Math", name := "max", desc := "(DD)D" } : Jvm.MethodName)).before a0 Z = true := hw _ (List.mem_of_getElem? (i := 11) rfl)
theorem W12 {Z : State} {a0 : Array Value} (hw : ∀ d ∈ tables_1, d.before a0 Z = true) : (Jvm.Cond.static ({ cls := "java/lang/Math", name := "max", desc := "(DD)D" } : Jvm.MethodName)).before a0 Z = true := hw _ (List.mem_of_getElem? (i := 12) rfl)
theorem W13 {Z : State} {a0 : Array Value} (hw : ∀ d ∈ tables_1, d.before a0 Z = true) : (Jvm.Cond.code ({ cls := "java/lang/Math", name := "max", desc := "(DD)D" } : Jvm.MethodName) jdk_29_method_68_code (4 : Nat) (Option.some Jvm.ClassFile.FieldType.double)).before a0 Z = true := hw _ (List.mem_of_getElem? (i := 13) rfl)
theorem d2_61 : decode prog_10_method_4_code 61 = .ok (.dstore_n 3, 1) := by decide +kernel
theorem d2_62 : decode prog_10_method_4_code 62 = .ok (.iinc 7 1, 3) := by decide +kernel
theorem d2_65 : decode prog_10_method_4_code 65 = .ok (.goto (-31), 3) := by decide +kernel
theorem d2_68 : decode prog_10_method_4_code 68 = .ok (.dload_n 1, 1) := by decide +kernel
theorem d2_69 : decode prog_10_method_4_code 69 = .ok (.dload_n 3, 1) := by decide +kernel
theorem d2_70 : decode prog_10_method_4_code 70 = .ok (.dadd, 1) := by decide +kernel
theorem d2_71 : decode prog_10_method_4_code 71 = .ok (.ldc2_w 91, 3) := by decide +kernel
theorem W14 {Z : State} {a0 : Array Value} (hw : ∀ d ∈ tables_1, d.before a0 Z = true) : (Jvm.Cond.constantDouble "com/example/cohabit/cohabit/FlowBounds" (91 : Nat) (4611686018427387904 : UInt64)).before a0 Z = true := hw _ (List.mem_of_getElem? (i := 14) rfl)
theorem d2_74 : decode prog_10_method_4_code 74 = .ok (.ddiv, 1) := by decide +kernel
theorem d2_75 : decode prog_10_method_4_code 75 = .ok (.dreturn, 1) := by decide +kernel
theorem pn_426f756e6473_0 : plainName "com/example/cohabit/cohabit/FlowBounds" = true := by first | (simp [plainName, overriddenIn]; done) | decide +kernel
theorem d3_0 : decode prog_10_method_5_code 0 = .ok (.dload_n 0, 1) := by decide +kernel
theorem d3_1 : decode prog_10_method_5_code 1 = .ok (.dload_n 2, 1) := by decide +kernel
theorem d3_2 : decode prog_10_method_5_code 2 = .ok (.dcmp .g, 1) := by decide +kernel
theorem d3_3 : decode prog_10_method_5_code 3 = .ok (.ifCond .gt 7, 3) := by decide +kernel
theorem d3_10 : decode prog_10_method_5_code 10 = .ok (.iconst 0, 1) := by decide +kernel
theorem d3_11 : decode prog_10_method_5_code 11 = .ok (.ireturn, 1) := by decide +kernel
theorem d3_6 : decode prog_10_method_5_code 6 = .ok (.iconst 1, 1) := by decide +kernel
theorem d3_7 : decode prog_10_method_5_code 7 = .ok (.goto 4, 3) := by decide +kernel
theorem W0 {Z : State} {a0 : Array Value} (hw : ∀ d ∈ tables_1, d.before a0 Z = true) : (Jvm.Cond.arrayClass Jvm.ClassFile.FieldType.double).before a0 Z = true := hw _ (List.mem_of_getElem? (i := 0) rfl)
theorem W1 {Z : State} {a0 : Array Value} (hw : ∀ d ∈ tables_1, d.before a0 Z = true) : (Jvm.Cond.methodLink "com/example/cohabit/cohabit/FlowBoundsInDeficitPinLaw" (7 : Nat) ({ cls := "com/example/cohabit/cohabit/FlowBounds", name := "sigma", desc := "([D)D" } : Jvm.MethodName)).before a0 Z = true := hw _ (List.mem_of_getElem? (i := 1) rfl)
theorem pd_285b442944 : parseMethodDescriptor "([D)D" = some ⟨[(.array .double)], (some .double)⟩ := by decide +kernel
theorem W2 {Z : State} {a0 : Array Value} (hw : ∀ d ∈ tables_1, d.before a0 Z = true) : (Jvm.Cond.static ({ cls := "com/example/cohabit/cohabit/FlowBounds", name := "sigma", desc := "([D)D" } : Jvm.MethodName)).before a0 Z = true := hw _ (List.mem_of_getElem? (i := 2) rfl)
theorem W4 {Z : State} {a0 : Array Value} (hw : ∀ d ∈ tables_1, d.before a0 Z = true) : (Jvm.Cond.code ({ cls := "com/example/cohabit/cohabit/FlowBounds", name := "sigma", desc := "([D)D" } : Jvm.MethodName) prog_10_method_4_code (10 : Nat) (Option.some Jvm.ClassFile.FieldType.double)).before a0 Z = true := hw _ (List.mem_of_getElem? (i := 4) rfl)
theorem W3 {Z : State} {a0 : Array Value} (hw : ∀ d ∈ tables_1, d.before a0 Z = true) : (Jvm.Cond.initialized "com/example/cohabit/cohabit/FlowBounds").before a0 Z = true := hw _ (List.mem_of_getElem? (i := 3) rfl)
theorem W15 {Z : State} {a0 : Array Value} (hw : ∀ d ∈ tables_1, d.before a0 Z = true) : (Jvm.Cond.methodLink "com/example/cohabit/cohabit/FlowBoundsInDeficitPinLaw" (13 : Nat) ({ cls := "java/lang/Math", name := "min", desc := "(II)I" } : Jvm.MethodName)).before a0 Z = true := hw _ (List.mem_of_getElem? (i := 15) rfl)
theorem pd_2849492949 : parseMethodDescriptor "(II)I" = some ⟨[.int, .int], (some .int)⟩ := by decide +kernel
theorem W16 {Z : State} {a0 : Array Value} (hw : ∀ d ∈ tables_1, d.before a0 Z = true) : (Jvm.Cond.static ({ cls := "java/lang/Math", name := "min", desc := "(II)I" } : Jvm.MethodName)).before a0 Z = true := hw _ (List.mem_of_getElem? (i := 16) rfl)
theorem W17 {Z : State} {a0 : Array Value} (hw : ∀ d ∈ tables_1, d.before a0 Z = true) : (Jvm.Cond.code ({ cls := "java/lang/Math", name := "min", desc := "(II)I" } : Jvm.MethodName) jdk_29_method_69_code (2 : Nat) (Option.some Jvm.ClassFile.FieldType.int)).before a0 Z = true := hw _ (List.mem_of_getElem? (i := 17) rfl)
theorem W18 {Z : State} {a0 : Array Value} (hw : ∀ d ∈ tables_1, d.before a0 Z = true) : (Jvm.Cond.methodLink "com/example/cohabit/cohabit/FlowBoundsInDeficitPinLaw" (19 : Nat) ({ cls := "java/lang/Math", name := "max", desc := "(II)I" } : Jvm.MethodName)).before a0 Z = true := hw _ (List.mem_of_getElem? (i := 18) rfl)
theorem W19 {Z : State} {a0 : Array Value} (hw : ∀ d ∈ tables_1, d.before a0 Z = true) : (Jvm.Cond.static ({ cls := "java/lang/Math", name := "max", desc := "(II)I" } : Jvm.MethodName)).before a0 Z = true := hw _ (List.mem_of_getElem? (i := 19) rfl)
theorem W20 {Z : State} {a0 : Array Value} (hw : ∀ d ∈ tables_1, d.before a0 Z = true) : (Jvm.Cond.code ({ cls := "java/lang/Math", name := "max", desc := "(II)I" } : Jvm.MethodName) jdk_29_method_65_code (2 : Nat) (Option.some Jvm.ClassFile.FieldType.int)).before a0 Z = true := hw _ (List.mem_of_getElem? (i := 20) rfl)
theorem W21 {Z : State} {a0 : Array Value} (hw : ∀ d ∈ tables_1, d.before a0 Z = true) : (Jvm.Cond.methodLink "com/example/cohabit/cohabit/FlowBoundsInDeficitPinLaw" (22 : Nat) ({ cls := "com/example/cohabit/cohabit/FlowBounds", name := "inDeficit", desc := "(DD)Z" } : Jvm.MethodName)).before a0 Z = true := hw _ (List.mem_of_getElem? (i := 21) rfl)
theorem pd_284444295a : parseMethodDescriptor "(DD)Z" = some ⟨[.double, .double], (some .boolean)⟩ := by decide +kernel
theorem W22 {Z : State} {a0 : Array Value} (hw : ∀ d ∈ tables_1, d.before a0 Z = true) : (Jvm.Cond.static ({ cls := "com/example/cohabit/cohabit/FlowBounds", name := "inDeficit", desc := "(DD)Z" } : Jvm.MethodName)).before a0 Z = true := hw _ (List.mem_of_getElem? (i := 22) rfl)
theorem W23 {Z : State} {a0 : Array Value} (hw : ∀ d ∈ tables_1, d.before a0 Z = true) : (Jvm.Cond.code ({ cls := "com/example/cohabit/cohabit/FlowBounds", name := "inDeficit", desc := "(DD)Z" } : Jvm.MethodName) prog_10_method_5_code (4 : Nat) (Option.some Jvm.ClassFile.FieldType.boolean)).before a0 Z = true := hw _ (List.mem_of_getElem? (i := 23) rfl)
theorem pn_50696e4c6177_1 : plainName "com/example/cohabit/cohabit/FlowBoundsInDeficitPinLaw" = true := by first | (simp [plainName, overriddenIn]; done) | decide +kernel
def Glob (Z : State) (a0 : Array Value) (EL : List (String × Nat)) : Prop :=
  (∀ d ∈ tables_1, d.before a0 Z = true) ∧ EW Z a0 EL ∧ EL = []
theorem Glob.hw {Z : State} {a0 : Array Value} {EL : List (String × Nat)} (G : Glob Z a0 EL) : ∀ d ∈ tables_1, d.before a0 Z = true := G.1
theorem Glob.ew {Z : State} {a0 : Array Value} {EL : List (String × Nat)} (G : Glob Z a0 EL) : EW Z a0 EL := G.2.1
theorem Glob.el {Z : State} {a0 : Array Value} {EL : List (String × Nat)} (G : Glob Z a0 EL) : EL = [] := G.2.2
set_option maxRecDepth 65536 in
set_option maxHeartbeats 40000000 in
theorem rm_min (l : Launch) (Z : State) (a0 : Array Value) (EL : List (String × Nat)) (G : Glob Z a0 EL) (x y : Int32) (h : Heap) (O : Ext Z.heap h)  :
    Met l Z EL true (⟨"java/lang/Math", "min", "(II)I"⟩ : MethodName) jdk_29_method_69_code 2 (some .int) [] ({ frames := 0, cells := 0, slots := 0, locals := 0 } : Room) #[(.int x), (.int y)] h [] (fun r h' => r = some (.int (if y < x then y else x)) ∧ h = h') := by
  have hw := G.hw
  refine Met.of (by decide +kernel) G.ew O ?_
  intro p e s m below meth c T0 C0 S0
  refine Endw.eq (g' := mkF m 0 #[.val (.int x), .val (.int y)] []) (by first | rfl | (simp [entryFrame, mkF, argsToLocals, own_cI, own_cR, own_cN, own_cJ, own_cD, maxLocals]; done)) ?_
  refine Endw.st (T' := T0) (g' := (mkF m 2 #[.val (.int x), .val (.int y)] [(.int y), (.int x)])) (fun tt_ kk_ => XS.iloadN C0.here C0.hx rfl (C0.dec d0_0) rfl (XS.iloadN C0.here C0.hx rfl (C0.dec d0_1) rfl kk_)) ?_
  by_cases c1 : y < x
  · refine Endw.st (T' := T0) (g' := (mkF m 10 #[.val (.int x), .val (.int y)] [(.int y)])) (fun tt_ kk_ => XS.icmpYes C0.here C0.hx rfl (pc0 := 2) rfl (C0.dec d0_2) rfl (XT.ii_gt_t c1) (by decide) rfl (XS.iloadN C0.here C0.hx rfl (C0.dec d0_9) rfl kk_)) ?_
    exact C0.retI (t := .int) rfl (by simp) rfl d0_10 (by decide) (by decide) ⟨by rw [if_pos c1], rfl⟩
  · refine Endw.st (T' := T0) (g' := (mkF m 10 #[.val (.int x), .val (.int y)] [(.int x)])) (fun tt_ kk_ => XS.icmpNo C0.here C0.hx rfl (C0.dec d0_2) rfl (XT.ii_gt_f c1) (XS.iloadN C0.here C0.hx rfl (C0.dec d0_5) rfl (XS.goto C0.here C0.hx rfl (pc0 := 6) rfl (C0.dec d0_6) (by decide) rfl kk_))) ?_
    exact C0.retI (t := .int) rfl (by simp) rfl d0_10 (by decide) (by decide) ⟨by rw [if_neg c1], rfl⟩
set_option maxRecDepth 65536 in
set_option maxHeartbeats 40000000 in
theorem rm_max (l : Launch) (Z : State) (a0 : Array Value) (EL : List (String × Nat)) (G : Glob Z a0 EL) (x y : Int32) (h : Heap) (O : Ext Z.heap h)  :
    Met l Z EL true (⟨"java/lang/Math", "max", "(II)I"⟩ : MethodName) jdk_29_method_65_code 2 (some .int) [] ({ frames := 0, cells := 0, slots := 0, locals := 0 } : Room) #[(.int x), (.int y)] h [] (fun r h' => r = some (.int (if x < y then y else x)) ∧ h = h') := by
  have hw := G.hw
  refine Met.of (by decide +kernel) G.ew O ?_
  intro p e s m below meth c T0 C0 S0
  refine Endw.eq (g' := mkF m 0 #[.val (.int x), .val (.int y)] []) (by first | rfl | (simp [entryFrame, mkF, argsToLocals, own_cI, own_cR, own_cN, own_cJ, own_cD, maxLocals]; done)) ?_
  refine Endw.st (T' := T0) (g' := (mkF m 2 #[.val (.int x), .val (.int y)] [(.int y), (.int x)])) (fun tt_ kk_ => XS.iloadN C0.here C0.hx rfl (C0.dec d1_0) rfl (XS.iloadN C0.here C0.hx rfl (C0.dec d1_1) rfl kk_)) ?_
  by_cases c1 : x < y
  · refine Endw.st (T' := T0) (g' := (mkF m 10 #[.val (.int x), .val (.int y)] [(.int y)])) (fun tt_ kk_ => XS.icmpYes C0.here C0.hx rfl (pc0 := 2) rfl (C0.dec d1_2) rfl (XT.ii_lt_t c1) (by decide) rfl (XS.iloadN C0.here C0.hx rfl (C0.dec d1_9) rfl kk_)) ?_
    exact C0.retI (t := .int) rfl (by simp) rfl d1_10 (by decide) (by decide) ⟨by rw [if_pos c1], rfl⟩
  · refine Endw.st (T' := T0) (g' := (mkF m 10 #[.val (.int x), .val (.int y)] [(.int x)])) (fun tt_ kk_ => XS.icmpNo C0.here C0.hx rfl (C0.dec d1_2) rfl (XT.ii_lt_f c1) (XS.iloadN C0.here C0.hx rfl (C0.dec d1_5) rfl (XS.goto C0.here C0.hx rfl (pc0 := 6) rfl (C0.dec d1_6) (by decide) rfl kk_))) ?_
    exact C0.retI (t := .int) rfl (by simp) rfl d1_10 (by decide) (by decide) ⟨by rw [if_neg c1], rfl⟩
set_option maxRecDepth 65536 in
set_option maxHeartbeats 40000000 in
theorem rm_sigma (l : Launch) (Z : State) (a0 : Array Value) (EL : List (String × Nat)) (G : Glob Z a0 EL) (a : Addr) (kA : ClassId) (x y : Int32) (h : Heap) (O : Ext Z.heap h) (V : Arv Z h a kA .double (2 : Int32) [(.double (FP.i2d x)), (.double (FP.i2d y))] (.double 0)) :
    Met l Z EL true (⟨"com/example/cohabit/cohabit/FlowBounds", "sigma", "([D)D"⟩ : MethodName) prog_10_method_4_code 10 (some .double) [] ({ frames := 1, cells := 0, slots := 0, locals := 15 } : Room) #[(.ref a)] h [] (fun r h' => r = some (.double (FP.ddiv (FP.l2d (x.toInt64 + y.toInt64)) (4611686018427387904 : UInt64))) ∧ h = h') := by
  have hw := G.hw
  refine Met.of (plainFor_of_name pn_426f756e6473_0) G.ew O ?_
  intro p e s m below meth c T0 C0 S0
  refine Endw.eq (g' := mkF m 0 #[.val (.ref a), .unset, .unset, .unset, .unset, .unset, .unset, .unset, .unset, .unset] []) (by first | rfl | (simp [entryFrame, mkF, argsToLocals, own_cI, own_cR, own_cN, own_cJ, own_cD, maxLocals]; done)) ?_
  refine Endw.st (T' := T0) (g' := (mkF m 1 #[.val (.ref a), .unset, .unset, .unset, .unset, .unset, .unset, .unset, .unset, .unset] [(.ref a)])) (fun tt_ kk_ => XS.aloadN C0.here C0.hx rfl (C0.dec d2_0) rfl rfl kk_) ?_
  refine C0.len V d2_1 (pc' := 2) rfl ?_
  show Endw p e below T0 (mkF m 2 #[.val (.ref a), .unset, .unset, .unset, .unset, .unset, .unset, .unset, .unset, .unset] [(.int (2 : Int32))]) _
  refine Endw.st (T' := T0) (g' := (mkF m 28 #[.val (.ref a), .val (.double (9218868437227405312 : UInt64)), .second, .val (.double (18442240474082181120 : UInt64)), .second, .val (.ref a), .unset, .unset, .unset, .unset] [(.ref a)])) (fun tt_ kk_ => XS.ifYes C0.here C0.hx rfl (pc0 := 2) rfl (C0.dec d2_2) rfl (XT.i0_ne_t (by decide)) (by decide) rfl (own_ldc2D C0 (W5 hw) rfl d2_15 (XS.dstoreN C0.here C0.hx rfl (C0.dec d2_18) rfl (l' := #[.val (.ref a), .val (.double (9218868437227405312 : UInt64)), .second, .unset, .unset, .unset, .unset, .unset, .unset, .unset]) rfl (own_ldc2D C0 (W6 hw) rfl d2_19 (XS.dstoreN C0.here C0.hx rfl (C0.dec d2_22) rfl (l' := #[.val (.ref a), .val (.double (9218868437227405312 : UInt64)), .second, .val (.double (18442240474082181120 : UInt64)), .second, .unset, .unset, .unset, .unset, .unset]) rfl (XS.aloadN C0.here C0.hx rfl (C0.dec d2_23) rfl rfl (XS.astore C0.here C0.hx rfl (C0.dec d2_24) rfl rfl (l' := #[.val (.ref a), .val (.double (9218868437227405312 : UInt64)), .second, .val (.double (18442240474082181120 : UInt64)), .second, .val (.ref a), .unset, .unset, .unset, .unset]) rfl (XS.aload C0.here C0.hx rfl (C0.dec d2_26) rfl rfl kk_)))))))) ?_
  refine C0.len V d2_28 (pc' := 29) rfl ?_
  show Endw p e below T0 (mkF m 29 #[.val (.ref a), .val (.double (9218868437227405312 : UInt64)), .second, .val (.double (18442240474082181120 : UInt64)), .second, .val (.ref a), .unset, .unset, .unset, .unset] [(.int (2 : Int32))]) _
  refine Endw.st (T' := T0) (g' := (mkF m 45 #[.val (.ref a), .val (.double (9218868437227405312 : UInt64)), .second, .val (.double (18442240474082181120 : UInt64)), .second, .val (.ref a), .val (.int (2 : Int32)), .val (.int (0 : Int32)), .unset, .unset] [(.int (0 : Int32)), (.ref a)])) (fun tt_ kk_ => XS.istore C0.here C0.hx rfl (C0.dec d2_29) rfl (l' := #[.val (.ref a), .val (.double (9218868437227405312 : UInt64)), .second, .val (.double (18442240474082181120 : UInt64)), .second, .val (.ref a), .val (.int (2 : Int32)), .unset, .unset, .unset]) rfl (XS.iconst C0.here C0.hx rfl (C0.dec d2_31) (XS.istore C0.here C0.hx rfl (C0.dec d2_32) rfl (l' := #[.val (.ref a), .val (.double (9218868437227405312 : UInt64)), .second, .val (.double (18442240474082181120 : UInt64)), .second, .val (.ref a), .val (.int (2 : Int32)), .val (.int (0 : Int32)), .unset, .unset]) rfl (XS.iload C0.here C0.hx rfl (C0.dec d2_34) rfl (XS.iload C0.here C0.hx rfl (C0.dec d2_36) rfl (XS.icmpNo C0.here C0.hx rfl (C0.dec d2_38) rfl (XT.ii_ge_f (by decide)) (XS.aload C0.here C0.hx rfl (C0.dec d2_41) rfl rfl (XS.iload C0.here C0.hx rfl (C0.dec d2_43) rfl kk_)))))))) ?_
  refine C0.daload V ⟨by decide, by decide⟩ (v := (.double (FP.i2d x))) rfl d2_45 (pc' := 46) rfl ?_
  show Endw p e below T0 (mkF m 46 #[.val (.ref a), .val (.double (9218868437227405312 : UInt64)), .second, .val (.double (18442240474082181120 : UInt64)), .second, .val (.ref a), .val (.int (2 : Int32)), .val (.int (0 : Int32)), .unset, .unset] [(.double (FP.i2d x))]) _
  refine Endw.st (T' := T0) (g' := (mkF m 51 #[.val (.ref a), .val (.double (9218868437227405312 : UInt64)), .second, .val (.double (18442240474082181120 : UInt64)), .second, .val (.ref a), .val (.int (2 : Int32)), .val (.int (0 : Int32)), .val (.double (FP.i2d x)), .second] [(.double (FP.i2d x)), (.double (9218868437227405312 : UInt64))])) (fun tt_ kk_ => XS.dstore C0.here C0.hx rfl (C0.dec d2_46) rfl (l' := #[.val (.ref a), .val (.double (9218868437227405312 : UInt64)), .second, .val (.double (18442240474082181120 : UInt64)), .second, .val (.ref a), .val (.int (2 : Int32)), .val (.int (0 : Int32)), .val (.double (FP.i2d x)), .second]) rfl (XS.dloadN C0.here C0.hx rfl (C0.dec d2_48) rfl (XS.dload C0.here C0.hx rfl (C0.dec d2_49) rfl kk_))) ?_
  refine C0.minD (W := 0) (a := (9218868437227405312 : UInt64)) (b := (FP.i2d x)) (r := (FP.i2d x)) (rest := []) (W7 hw) (W8 hw) (W9 hw) (W10 hw) own_nnP (own_nnI x) (own_pinfMin x) (by decide) (by decide) (by decide) (by decide) (Nat.le_of_ble_eq_true rfl) rfl d2_51 (pc' := 54) rfl ?_
  intro T1 C1
  show Endw p e below T1 (mkF m 54 #[.val (.ref a), .val (.double (9218868437227405312 : UInt64)), .second, .val (.double (18442240474082181120 : UInt64)), .second, .val (.ref a), .val (.int (2 : Int32)), .val (.int (0 : Int32)), .val (.double (FP.i2d x)), .second] [(.double (FP.i2d x))]) _
  refine Endw.st (T' := T1) (g' := (mkF m 58 #[.val (.ref a), .val (.double (FP.i2d x)), .second, .val (.double (18442240474082181120 : UInt64)), .second, .val (.ref a), .val (.int (2 : Int32)), .val (.int (0 : Int32)), .val (.double (FP.i2d x)), .second] [(.double (FP.i2d x)), (.double (18442240474082181120 : UInt64))])) (fun tt_ kk_ => XS.dstoreN C1.here C1.hx rfl (C1.dec d2_54) rfl (l' := #[.val (.ref a), .val (.double (FP.i2d x)), .second, .val (.double (18442240474082181120 : UInt64)), .second, .val (.ref a), .val (.int (2 : Int32)), .val (.int (0 : Int32)), .val (.double (FP.i2d x)), .second]) rfl (XS.dloadN C1.here C1.hx rfl (C1.dec d2_55) rfl (XS.dload C1.here C1.hx rfl (C1.dec d2_56) rfl kk_))) ?_
  refine C1.maxD (W := 0) (a := (18442240474082181120 : UInt64)) (b := (FP.i2d x)) (r := (FP.i2d x)) (rest := []) (W11 hw) (W12 hw) (W9 hw) (W13 hw) own_nnM (own_nnI x) (own_ninfMax x) (by decide) (by decide) (by decide) (by decide) (Nat.le_of_ble_eq_true rfl) rfl d2_58 (pc' := 61) rfl ?_
  intro T2 C2
  show Endw p e below T2 (mkF m 61 #[.val (.ref a), .val (.double (FP.i2d x)), .second, .val (.double (18442240474082181120 : UInt64)), .second, .val (.ref a), .val (.int (2 : Int32)), .val (.int (0 : Int32)), .val (.double (FP.i2d x)), .second] [(.double (FP.i2d x))]) _
  refine Endw.st (T' := T2) (g' := (mkF m 45 #[.val (.ref a), .val (.double (FP.i2d x)), .second, .val (.double (FP.i2d x)), .second, .val (.ref a), .val (.int (2 : Int32)), .val (.int (1 : Int32)), .val (.double (FP.i2d x)), .second] [(.int (1 : Int32)), (.ref a)])) (fun tt_ kk_ => XS.dstoreN C2.here C2.hx rfl (C2.dec d2_61) rfl (l' := #[.val (.ref a), .val (.double (FP.i2d x)), .second, .val (.double (FP.i2d x)), .second, .val (.ref a), .val (.int (2 : Int32)), .val (.int (0 : Int32)), .val (.double (FP.i2d x)), .second]) rfl (XS.iinc C2.here C2.hx rfl (C2.dec d2_62) rfl (l' := #[.val (.ref a), .val (.double (FP.i2d x)), .second, .val (.double (FP.i2d x)), .second, .val (.ref a), .val (.int (2 : Int32)), .val (.int (1 : Int32)), .val (.double (FP.i2d x)), .second]) rfl (XS.goto C2.here C2.hx rfl (pc0 := 65) rfl (C2.dec d2_65) (by decide) rfl (XS.iload C2.here C2.hx rfl (C2.dec d2_34) rfl (XS.iload C2.here C2.hx rfl (C2.dec d2_36) rfl (XS.icmpNo C2.here C2.hx rfl (C2.dec d2_38) rfl (XT.ii_ge_f (by decide)) (XS.aload C2.here C2.hx rfl (C2.dec d2_41) rfl rfl (XS.iload C2.here C2.hx rfl (C2.dec d2_43) rfl kk_)))))))) ?_
  refine C2.daload V ⟨by decide, by decide⟩ (v := (.double (FP.i2d y))) rfl d2_45 (pc' := 46) rfl ?_
  show Endw p e below T2 (mkF m 46 #[.val (.ref a), .val (.double (FP.i2d x)), .second, .val (.double (FP.i2d x)), .second, .val (.ref a), .val (.int (2 : Int32)), .val (.int (1 : Int32)), .val (.double (FP.i2d x)), .second] [(.double (FP.i2d y))]) _
  refine Endw.st (T' := T2) (g' := (mkF m 51 #[.val (.ref a), .val (.double (FP.i2d x)), .second, .val (.double (FP.i2d x)), .second, .val (.ref a), .val (.int (2 : Int32)), .val (.int (1 : Int32)), .val (.double (FP.i2d y)), .second] [(.double (FP.i2d y)), (.double (FP.i2d x))])) (fun tt_ kk_ => XS.dstore C2.here C2.hx rfl (C2.dec d2_46) rfl (l' := #[.val (.ref a), .val (.double (FP.i2d x)), .second, .val (.double (FP.i2d x)), .second, .val (.ref a), .val (.int (2 : Int32)), .val (.int (1 : Int32)), .val (.double (FP.i2d y)), .second]) rfl (XS.dloadN C2.here C2.hx rfl (C2.dec d2_48) rfl (XS.dload C2.here C2.hx rfl (C2.dec d2_49) rfl kk_))) ?_
  refine C2.minD (W := 0) (a := (FP.i2d x)) (b := (FP.i2d y)) (r := (FP.i2d (if y < x then y else x))) (rest := []) (W7 hw) (W8 hw) (W9 hw) (W10 hw) (own_nnI x) (own_nnI y) (own_minW x y) (by decide) (by decide) (by decide) (by decide) (Nat.le_of_ble_eq_true rfl) rfl d2_51 (pc' := 54) rfl ?_
  intro T3 C3
  show Endw p e below T3 (mkF m 54 #[.val (.ref a), .val (.double (FP.i2d x)), .second, .val (.double (FP.i2d x)), .second, .val (.ref a), .val (.int (2 : Int32)), .val (.int (1 : Int32)), .val (.double (FP.i2d y)), .second] [(.double (FP.i2d (if y < x then y else x)))]) _
  refine Endw.st (T' := T3) (g' := (mkF m 58 #[.val (.ref a), .val (.double (FP.i2d (if y < x then y else x))), .second, .val (.double (FP.i2d x)), .second, .val (.ref a), .val (.int (2 : Int32)), .val (.int (1 : Int32)), .val (.double (FP.i2d y)), .second] [(.double (FP.i2d y)), (.double (FP.i2d x))])) (fun tt_ kk_ => XS.dstoreN C3.here C3.hx rfl (C3.dec d2_54) rfl (l' := #[.val (.ref a), .val (.double (FP.i2d (if y < x then y else x))), .second, .val (.double (FP.i2d x)), .second, .val (.ref a), .val (.int (2 : Int32)), .val (.int (1 : Int32)), .val (.double (FP.i2d y)), .second]) rfl (XS.dloadN C3.here C3.hx rfl (C3.dec d2_55) rfl (XS.dload C3.here C3.hx rfl (C3.dec d2_56) rfl kk_))) ?_
  refine C3.maxD (W := 0) (a := (FP.i2d x)) (b := (FP.i2d y)) (r := (FP.i2d (if x < y then y else x))) (rest := []) (W11 hw) (W12 hw) (W9 hw) (W13 hw) (own_nnI x) (own_nnI y) (own_maxW x y) (by decide) (by decide) (by decide) (by decide) (Nat.le_of_ble_eq_true rfl) rfl d2_58 (pc' := 61) rfl ?_
  intro T4 C4
  show Endw p e below T4 (mkF m 61 #[.val (.ref a), .val (.double (FP.i2d (if y < x then y else x))), .second, .val (.double (FP.i2d x)), .second, .val (.ref a), .val (.int (2 : Int32)), .val (.int (1 : Int32)), .val (.double (FP.i2d y)), .second] [(.double (FP.i2d (if x < y then y else x)))]) _
  refine Endw.st (T' := T4) (g' := (mkF m 70 #[.val (.ref a), .val (.double (FP.i2d (if y < x then y else x))), .second, .val (.double (FP.i2d (if x < y then y else x))), .second, .val (.ref a), .val (.int (2 : Int32)), .val (.int (2 : Int32)), .val (.double (FP.i2d y)), .second] [(.double (FP.i2d (if x < y then y else x))), (.double (FP.i2d (if y < x then y else x)))])) (fun tt_ kk_ => XS.dstoreN C4.here C4.hx rfl (C4.dec d2_61) rfl (l' := #[.val (.ref a), .val (.double (FP.i2d (if y < x then y else x))), .second, .val (.double (FP.i2d (if x < y then y else x))), .second, .val (.ref a), .val (.int (2 : Int32)), .val (.int (1 : Int32)), .val (.double (FP.i2d y)), .second]) rfl (XS.iinc C4.here C4.hx rfl (C4.dec d2_62) rfl (l' := #[.val (.ref a), .val (.double (FP.i2d (if y < x then y else x))), .second, .val (.double (FP.i2d (if x < y then y else x))), .second, .val (.ref a), .val (.int (2 : Int32)), .val (.int (2 : Int32)), .val (.double (FP.i2d y)), .second]) rfl (XS.goto C4.here C4.hx rfl (pc0 := 65) rfl (C4.dec d2_65) (by decide) rfl (XS.iload C4.here C4.hx rfl (C4.dec d2_34) rfl (XS.iload C4.here C4.hx rfl (C4.dec d2_36) rfl (XS.icmpYes C4.here C4.hx rfl (pc0 := 38) rfl (C4.dec d2_38) rfl (XT.ii_ge_t (by decide)) (by decide) rfl (XS.dloadN C4.here C4.hx rfl (C4.dec d2_68) rfl (XS.dloadN C4.here C4.hx rfl (C4.dec d2_69) rfl kk_)))))))) ?_
  refine Endw.st (T' := T4) (g' := (mkF m 75 #[.val (.ref a), .val (.double (FP.i2d (if y < x then y else x))), .second, .val (.double (FP.i2d (if x < y then y else x))), .second, .val (.ref a), .val (.int (2 : Int32)), .val (.int (2 : Int32)), .val (.double (FP.i2d y)), .second] [(.double (FP.ddiv (FP.l2d (x.toInt64 + y.toInt64)) (4611686018427387904 : UInt64)))])) (fun tt_ kk_ => XS.daddS C4.here C4.hx rfl (C4.dec d2_70) rfl (own_nnSum x y) (own_sumW x y) (own_ldc2D C4 (W14 hw) rfl d2_71 (XS.ddivS C4.here C4.hx rfl (C4.dec d2_74) rfl (own_nnHalf _) rfl kk_))) ?_
  exact C4.retD rfl d2_75 (by decide) (by decide) ⟨rfl, rfl⟩
set_option maxRecDepth 65536 in
set_option maxHeartbeats 40000000 in
theorem rm_inDef (l : Launch) (Z : State) (a0 : Array Value) (EL : List (String × Nat)) (G : Glob Z a0 EL) (x y : UInt64) (v : Int32) (h : Heap) (O : Ext Z.heap h) (hv : cmpValue (FP.dcmp x y) .g = v) :
    Met l Z EL true (⟨"com/example/cohabit/cohabit/FlowBounds", "inDeficit", "(DD)Z"⟩ : MethodName) prog_10_method_5_code 4 (some .boolean) [] ({ frames := 0, cells := 0, slots := 0, locals := 0 } : Room) #[(.double x), (.double y)] h [] (fun r h' => r = some (.int (if (0 : Int32) < v then 0 else 1)) ∧ h = h') := by
  have hw := G.hw
  refine Met.of (plainFor_of_name pn_426f756e6473_0) G.ew O ?_
  intro p e s m below meth c T0 C0 S0
  refine Endw.eq (g' := mkF m 0 #[.val (.double x), .second, .val (.double y), .second] []) (by first | rfl | (simp [entryFrame, mkF, argsToLocals, own_cI, own_cR, own_cN, own_cJ, own_cD, maxLocals]; done)) ?_
  refine Endw.st (T' := T0) (g' := (mkF m 3 #[.val (.double x), .second, .val (.double y), .second] [(.int v)])) (fun tt_ kk_ => XS.dloadN C0.here C0.hx rfl (C0.dec d3_0) rfl (XS.dloadN C0.here C0.hx rfl (C0.dec d3_1) rfl (XS.dcmpS C0.here C0.hx rfl (C0.dec d3_2) rfl hv kk_))) ?_
  by_cases c1 : (0 : Int32) < v
  · refine Endw.st (T' := T0) (g' := (mkF m 11 #[.val (.double x), .second, .val (.double y), .second] [(.int (0 : Int32))])) (fun tt_ kk_ => XS.ifYes C0.here C0.hx rfl (pc0 := 3) rfl (C0.dec d3_3) rfl (XT.i0_gt_t c1) (by decide) rfl (XS.iconst C0.here C0.hx rfl (C0.dec d3_10) kk_)) ?_
    exact C0.retI (t := .boolean) rfl (by simp) rfl d3_11 (by decide) (by decide) ⟨by rw [if_pos c1], rfl⟩
  · refine Endw.st (T' := T0) (g' := (mkF m 11 #[.val (.double x), .second, .val (.double y), .second] [(.int (1 : Int32))])) (fun tt_ kk_ => XS.ifNo C0.here C0.hx rfl (C0.dec d3_3) rfl (XT.i0_gt_f c1) (XS.iconst C0.here C0.hx rfl (C0.dec d3_6) (XS.goto C0.here C0.hx rfl (pc0 := 7) rfl (C0.dec d3_7) (by decide) rfl kk_))) ?_
    exact C0.retI (t := .boolean) rfl (by simp) rfl d3_11 (by decide) (by decide) ⟨by rw [if_neg c1], rfl⟩
set_option maxRecDepth 65536 in
set_option maxHeartbeats 40000000 in
theorem rm_law (l : Launch) (Z : State) (a0 : Array Value) (EL : List (String × Nat)) (G : Glob Z a0 EL) (i0 i1 i2 : Int32) (h : Heap) (O : Ext Z.heap h)  :
    Met l Z EL true x code maxLocals ret tables_1 room_1 #[(.int i0), (.int i1), (.int i2)] h [] (fun r h' => r = some (.int 1)) := by
  have hw := G.hw
  refine Met.of (plainFor_of_name pn_50696e4c6177_1) G.ew O ?_
  intro p e s m below meth c T0 C0 S0
  refine Endw.eq (g' := mkF m 0 #[.val (.int i0), .val (.int i1), .val (.int i2), .unset, .unset, .unset, .unset, .unset, .unset, .unset, .unset, .unset, .unset, .unset, .unset] []) (by first | rfl | (simp [entryFrame, mkF, argsToLocals, own_cI, own_cR, own_cN, own_cJ, own_cD, maxLocals]; done)) ?_
  refine Endw.st (T' := T0) (g' := (mkF m 8 #[.val (.int i0), .val (.int i1), .val (.int i2), .val (.double (FP.i2d i0)), .second, .val (.double (FP.i2d i1)), .second, .unset, .unset, .unset, .unset, .unset, .unset, .unset, .unset] [(.int (2 : Int32))])) (fun tt_ kk_ => XS.iloadN C0.here C0.hx rfl (C0.dec at_0) rfl (XS.i2dS C0.here C0.hx rfl (C0.dec at_1) rfl rfl (XS.dstoreN C0.here C0.hx rfl (C0.dec at_2) rfl (l' := #[.val (.int i0), .val (.int i1), .val (.int i2), .val (.double (FP.i2d i0)), .second, .unset, .unset, .unset, .unset, .unset, .unset, .unset, .unset, .unset, .unset]) rfl (XS.iloadN C0.here C0.hx rfl (C0.dec at_3) rfl (XS.i2dS C0.here C0.hx rfl (C0.dec at_4) rfl rfl (XS.dstore C0.here C0.hx rfl (C0.dec at_5) rfl (l' := #[.val (.int i0), .val (.int i1), .val (.int i2), .val (.double (FP.i2d i0)), .second, .val (.double (FP.i2d i1)), .second, .unset, .unset, .unset, .unset, .unset, .unset, .unset, .unset]) rfl (XS.iconst C0.here C0.hx rfl (C0.dec at_7) kk_))))))) ?_
  refine C0.newA (aty := .double) (z := (2 : Int32)) (cap := 2) (vs := [(.double 0), (.double 0)]) (W0 hw) at_8 (pc' := 10) rfl (by decide) (by decide) (by decide) (by decide) (by decide) rfl ?_
  intro T1 h1 a1 kA1 C1 K1 A1 ge1 zg1 V1 S1
  show Endw p e below T1 (mkF m 10 #[.val (.int i0), .val (.int i1), .val (.int i2), .val (.double (FP.i2d i0)), .second, .val (.double (FP.i2d i1)), .second, .unset, .unset, .unset, .unset, .unset, .unset, .unset, .unset] [(.ref a1)]) _
  refine Endw.st (T' := T1) (g' := (mkF m 13 #[.val (.int i0), .val (.int i1), .val (.int i2), .val (.double (FP.i2d i0)), .second, .val (.double (FP.i2d i1)), .second, .unset, .unset, .unset, .unset, .unset, .unset, .unset, .unset] [(.double (FP.i2d i0)), (.int (0 : Int32)), (.ref a1), (.ref a1)])) (fun tt_ kk_ => XS.dup C1.here C1.hx rfl (C1.dec at_10) rfl rfl (XS.iconst C1.here C1.hx rfl (C1.dec at_11) (XS.dloadN C1.here C1.hx rfl (C1.dec at_12) rfl kk_))) ?_
  refine C1.dastore V1 ⟨by decide, by decide⟩ 0 (by decide) (Nat.le_of_ble_eq_true rfl) zg1 (vs' := [(.double (FP.i2d i0)), (.double 0)]) rfl at_13 (pc' := 14) rfl ?_
  intro T2 h2 C2 K2 A2 V2
  show Endw p e below T2 (mkF m 14 #[.val (.int i0), .val (.int i1), .val (.int i2), .val (.double (FP.i2d i0)), .second, .val (.double (FP.i2d i1)), .second, .unset, .unset, .unset, .unset, .unset, .unset, .unset, .unset] [(.ref a1)]) _
  refine Endw.st (T' := T2) (g' := (mkF m 18 #[.val (.int i0), .val (.int i1), .val (.int i2), .val (.double (FP.i2d i0)), .second, .val (.double (FP.i2d i1)), .second, .unset, .unset, .unset, .unset, .unset, .unset, .unset, .unset] [(.double (FP.i2d i1)), (.int (1 : Int32)), (.ref a1), (.ref a1)])) (fun tt_ kk_ => XS.dup C2.here C2.hx rfl (C2.dec at_14) rfl rfl (XS.iconst C2.here C2.hx rfl (C2.dec at_15) (XS.dload C2.here C2.hx rfl (C2.dec at_16) rfl kk_))) ?_
  refine C2.dastore V2 ⟨by decide, by decide⟩ 1 (by decide) (Nat.le_of_ble_eq_true rfl) zg1 (vs' := [(.double (FP.i2d i0)), (.double (FP.i2d i1))]) rfl at_18 (pc' := 19) rfl ?_
  intro T3 h3 C3 K3 A3 V3
  show Endw p e below T3 (mkF m 19 #[.val (.int i0), .val (.int i1), .val (.int i2), .val (.double (FP.i2d i0)), .second, .val (.double (FP.i2d i1)), .second, .unset, .unset, .unset, .unset, .unset, .unset, .unset, .unset] [(.ref a1)]) _
  refine Endw.st (T' := T3) (g' := (mkF m 23 #[.val (.int i0), .val (.int i1), .val (.int i2), .val (.double (FP.i2d i0)), .second, .val (.double (FP.i2d i1)), .second, .val (.ref a1), .unset, .unset, .unset, .unset, .unset, .unset, .unset] [(.ref a1)])) (fun tt_ kk_ => XS.astore C3.here C3.hx rfl (C3.dec at_19) rfl rfl (l' := #[.val (.int i0), .val (.int i1), .val (.int i2), .val (.double (FP.i2d i0)), .second, .val (.double (FP.i2d i1)), .second, .val (.ref a1), .unset, .unset, .unset, .unset, .unset, .unset, .unset]) rfl (XS.aload C3.here C3.hx rfl (C3.dec at_21) rfl rfl kk_)) ?_
  refine C3.static (y := (⟨"com/example/cohabit/cohabit/FlowBounds", "sigma", "([D)D"⟩ : MethodName)) (W := 0) (argsL := [(.ref a1)]) (rest := []) (W1 hw) (W2 hw) (W4 hw) (W3 hw) (by decide) (rm_sigma l Z a0 EL G a1 kA1 i0 i1 h3 C3.old V3) (fun _ => rfl) rfl all0 (by decide) (by decide) (by decide) (by decide) (lenOf pd_285b442944 rfl) rfl (Nat.le_of_ble_eq_true rfl) rfl at_23 (pc' := 26) rfl ?_
  intro vm4 T4 h4 v4 C4 A4 M4 q4
  obtain ⟨rfl, rfl⟩ := q4
  show Endw p e below T4 (mkF m 26 #[.val (.int i0), .val (.int i1), .val (.int i2), .val (.double (FP.i2d i0)), .second, .val (.double (FP.i2d i1)), .second, .val (.ref a1), .unset, .unset, .unset, .unset, .unset, .unset, .unset] [(.double (FP.ddiv (FP.l2d (i0.toInt64 + i1.toInt64)) (4611686018427387904 : UInt64)))]) _
  refine Endw.st (T' := T4) (g' := (mkF m 30 #[.val (.int i0), .val (.int i1), .val (.int i2), .val (.double (FP.i2d i0)), .second, .val (.double (FP.i2d i1)), .second, .val (.ref a1), .val (.double (FP.ddiv (FP.l2d (i0.toInt64 + i1.toInt64)) (4611686018427387904 : UInt64))), .second, .unset, .unset, .unset, .unset, .unset] [(.int i1), (.int i0)])) (fun tt_ kk_ => XS.dstore C4.here C4.hx rfl (C4.dec at_26) rfl (l' := #[.val (.int i0), .val (.int i1), .val (.int i2), .val (.double (FP.i2d i0)), .second, .val (.double (FP.i2d i1)), .second, .val (.ref a1), .val (.double (FP.ddiv (FP.l2d (i0.toInt64 + i1.toInt64)) (4611686018427387904 : UInt64))), .second, .unset, .unset, .unset, .unset, .unset]) rfl (XS.iloadN C4.here C4.hx rfl (C4.dec at_28) rfl (XS.iloadN C4.here C4.hx rfl (C4.dec at_29) rfl kk_))) ?_
  refine C4.static (y := (⟨"java/lang/Math", "min", "(II)I"⟩ : MethodName)) (W := 0) (argsL := [(.int i0), (.int i1)]) (rest := []) (W15 hw) (W16 hw) (W17 hw) (W9 hw) (by decide) (rm_min l Z a0 EL G i0 i1 h3 C4.old) (fun _ => rfl) rfl all0 (by decide) (by decide) (by decide) (by decide) (lenOf pd_2849492949 rfl) rfl (Nat.le_of_ble_eq_true rfl) rfl at_30 (pc' := 33) rfl ?_
  intro vm5 T5 h5 v5 C5 A5 M5 q5
  obtain ⟨rfl, rfl⟩ := q5
  show Endw p e below T5 (mkF m 33 #[.val (.int i0), .val (.int i1), .val (.int i2), .val (.double (FP.i2d i0)), .second, .val (.double (FP.i2d i1)), .second, .val (.ref a1), .val (.double (FP.ddiv (FP.l2d (i0.toInt64 + i1.toInt64)) (4611686018427387904 : UInt64))), .second, .unset, .unset, .unset, .unset, .unset] [(.int (if i1 < i0 then i1 else i0))]) _
  refine Endw.st (T' := T5) (g' := (mkF m 37 #[.val (.int i0), .val (.int i1), .val (.int i2), .val (.double (FP.i2d i0)), .second, .val (.double (FP.i2d i1)), .second, .val (.ref a1), .val (.double (FP.ddiv (FP.l2d (i0.toInt64 + i1.toInt64)) (4611686018427387904 : UInt64))), .second, .val (.int (if i1 < i0 then i1 else i0)), .unset, .unset, .unset, .unset] [(.int i1), (.int i0)])) (fun tt_ kk_ => XS.istore C5.here C5.hx rfl (C5.dec at_33) rfl (l' := #[.val (.int i0), .val (.int i1), .val (.int i2), .val (.double (FP.i2d i0)), .second, .val (.double (FP.i2d i1)), .second, .val (.ref a1), .val (.double (FP.ddiv (FP.l2d (i0.toInt64 + i1.toInt64)) (4611686018427387904 : UInt64))), .second, .val (.int (if i1 < i0 then i1 else i0)), .unset, .unset, .unset, .unset]) rfl (XS.iloadN C5.here C5.hx rfl (C5.dec at_35) rfl (XS.iloadN C5.here C5.hx rfl (C5.dec at_36) rfl kk_))) ?_
  refine C5.static (y := (⟨"java/lang/Math", "max", "(II)I"⟩ : MethodName)) (W := 0) (argsL := [(.int i0), (.int i1)]) (rest := []) (W18 hw) (W19 hw) (W20 hw) (W9 hw) (by decide) (rm_max l Z a0 EL G i0 i1 h3 C5.old) (fun _ => rfl) rfl all0 (by decide) (by decide) (by decide) (by decide) (lenOf pd_2849492949 rfl) rfl (Nat.le_of_ble_eq_true rfl) rfl at_37 (pc' := 40) rfl ?_
  intro vm6 T6 h6 v6 C6 A6 M6 q6
  obtain ⟨rfl, rfl⟩ := q6
  show Endw p e below T6 (mkF m 40 #[.val (.int i0), .val (.int i1), .val (.int i2), .val (.double (FP.i2d i0)), .second, .val (.double (FP.i2d i1)), .second, .val (.ref a1), .val (.double (FP.ddiv (FP.l2d (i0.toInt64 + i1.toInt64)) (4611686018427387904 : UInt64))), .second, .val (.int (if i1 < i0 then i1 else i0)), .unset, .unset, .unset, .unset] [(.int (if i0 < i1 then i1 else i0))]) _
  refine Endw.st (T' := T6) (g' := (mkF m 47 #[.val (.int i0), .val (.int i1), .val (.int i2), .val (.double (FP.i2d i0)), .second, .val (.double (FP.i2d i1)), .second, .val (.ref a1), .val (.double (FP.ddiv (FP.l2d (i0.toInt64 + i1.toInt64)) (4611686018427387904 : UInt64))), .second, .val (.int (if i1 < i0 then i1 else i0)), .val (.int (if i0 < i1 then i1 else i0)), .unset, .unset, .unset] [(.double (FP.ddiv (FP.l2d (i0.toInt64 + i1.toInt64)) (4611686018427387904 : UInt64))), (.double (FP.i2d (if i1 < i0 then i1 else i0)))])) (fun tt_ kk_ => XS.istore C6.here C6.hx rfl (C6.dec at_40) rfl (l' := #[.val (.int i0), .val (.int i1), .val (.int i2), .val (.double (FP.i2d i0)), .second, .val (.double (FP.i2d i1)), .second, .val (.ref a1), .val (.double (FP.ddiv (FP.l2d (i0.toInt64 + i1.toInt64)) (4611686018427387904 : UInt64))), .second, .val (.int (if i1 < i0 then i1 else i0)), .val (.int (if i0 < i1 then i1 else i0)), .unset, .unset, .unset]) rfl (XS.iload C6.here C6.hx rfl (C6.dec at_42) rfl (XS.i2dS C6.here C6.hx rfl (C6.dec at_44) rfl rfl (XS.dload C6.here C6.hx rfl (C6.dec at_45) rfl kk_)))) ?_
  refine C6.static (y := (⟨"com/example/cohabit/cohabit/FlowBounds", "inDeficit", "(DD)Z"⟩ : MethodName)) (W := 0) (argsL := [(.double (FP.i2d (if i1 < i0 then i1 else i0))), (.double (FP.ddiv (FP.l2d (i0.toInt64 + i1.toInt64)) (4611686018427387904 : UInt64)))]) (rest := []) (W21 hw) (W22 hw) (W23 hw) (W3 hw) (by decide) (rm_inDef l Z a0 EL G (FP.i2d (if i1 < i0 then i1 else i0)) (FP.ddiv (FP.l2d (i0.toInt64 + i1.toInt64)) (4611686018427387904 : UInt64)) (cmpValue (FP.dcmp (FP.i2d (if i1 < i0 then i1 else i0)) (FP.ddiv (FP.l2d (i0.toInt64 + i1.toInt64)) (4611686018427387904 : UInt64))) .g) h3 C6.old rfl) (fun _ => rfl) rfl all0 (by decide) (by decide) (by decide) (by decide) (lenOf pd_284444295a rfl) rfl (Nat.le_of_ble_eq_true rfl) rfl at_47 (pc' := 50) rfl ?_
  intro vm7 T7 h7 v7 C7 A7 M7 q7
  rw [if_neg (own_minIn i0 i1)] at q7
  obtain ⟨rfl, rfl⟩ := q7
  show Endw p e below T7 (mkF m 50 #[.val (.int i0), .val (.int i1), .val (.int i2), .val (.double (FP.i2d i0)), .second, .val (.double (FP.i2d i1)), .second, .val (.ref a1), .val (.double (FP.ddiv (FP.l2d (i0.toInt64 + i1.toInt64)) (4611686018427387904 : UInt64))), .second, .val (.int (if i1 < i0 then i1 else i0)), .val (.int (if i0 < i1 then i1 else i0)), .unset, .unset, .unset] [(.int (1 : Int32))]) _
  refine Endw.st (T' := T7) (g' := (mkF m 57 #[.val (.int i0), .val (.int i1), .val (.int i2), .val (.double (FP.i2d i0)), .second, .val (.double (FP.i2d i1)), .second, .val (.ref a1), .val (.double (FP.ddiv (FP.l2d (i0.toInt64 + i1.toInt64)) (4611686018427387904 : UInt64))), .second, .val (.int (if i1 < i0 then i1 else i0)), .val (.int (if i0 < i1 then i1 else i0)), .val (.int (1 : Int32)), .unset, .unset] [(.double (FP.ddiv (FP.l2d (i0.toInt64 + i1.toInt64)) (4611686018427387904 : UInt64))), (.double (FP.i2d (if i0 < i1 then i1 else i0)))])) (fun tt_ kk_ => XS.istore C7.here C7.hx rfl (C7.dec at_50) rfl (l' := #[.val (.int i0), .val (.int i1), .val (.int i2), .val (.double (FP.i2d i0)), .second, .val (.double (FP.i2d i1)), .second, .val (.ref a1), .val (.double (FP.ddiv (FP.l2d (i0.toInt64 + i1.toInt64)) (4611686018427387904 : UInt64))), .second, .val (.int (if i1 < i0 then i1 else i0)), .val (.int (if i0 < i1 then i1 else i0)), .val (.int (1 : Int32)), .unset, .unset]) rfl (XS.iload C7.here C7.hx rfl (C7.dec at_52) rfl (XS.i2dS C7.here C7.hx rfl (C7.dec at_54) rfl rfl (XS.dload C7.here C7.hx rfl (C7.dec at_55) rfl kk_)))) ?_
  by_cases c8 : i0 = i1
  · refine C7.static (y := (⟨"com/example/cohabit/cohabit/FlowBounds", "inDeficit", "(DD)Z"⟩ : MethodName)) (W := 0) (argsL := [(.double (FP.i2d (if i0 < i1 then i1 else i0))), (.double (FP.ddiv (FP.l2d (i0.toInt64 + i1.toInt64)) (4611686018427387904 : UInt64)))]) (rest := []) (W21 hw) (W22 hw) (W23 hw) (W3 hw) (by decide) (rm_inDef l Z a0 EL G (FP.i2d (if i0 < i1 then i1 else i0)) (FP.ddiv (FP.l2d (i0.toInt64 + i1.toInt64)) (4611686018427387904 : UInt64)) (cmpValue (FP.dcmp (FP.i2d (if i0 < i1 then i1 else i0)) (FP.ddiv (FP.l2d (i0.toInt64 + i1.toInt64)) (4611686018427387904 : UInt64))) .g) h3 C7.old rfl) (fun _ => rfl) rfl all0 (by decide) (by decide) (by decide) (by decide) (lenOf pd_284444295a rfl) rfl (Nat.le_of_ble_eq_true rfl) rfl at_57 (pc' := 60) rfl ?_
    intro vm9 T9 h9 v9 C9 A9 M9 q9
    rw [if_neg (own_maxEq i0 i1 c8)] at q9
    obtain ⟨rfl, rfl⟩ := q9
    show Endw p e below T9 (mkF m 60 #[.val (.int i0), .val (.int i1), .val (.int i2), .val (.double (FP.i2d i0)), .second, .val (.double (FP.i2d i1)), .second, .val (.ref a1), .val (.double (FP.ddiv (FP.l2d (i0.toInt64 + i1.toInt64)) (4611686018427387904 : UInt64))), .second, .val (.int (if i1 < i0 then i1 else i0)), .val (.int (if i0 < i1 then i1 else i0)), .val (.int (1 : Int32)), .unset, .unset] [(.int (1 : Int32))]) _
    refine Endw.st (T' := T9) (g' := (mkF m 66 #[.val (.int i0), .val (.int i1), .val (.int i2), .val (.double (FP.i2d i0)), .second, .val (.double (FP.i2d i1)), .second, .val (.ref a1), .val (.double (FP.ddiv (FP.l2d (i0.toInt64 + i1.toInt64)) (4611686018427387904 : UInt64))), .second, .val (.int (if i1 < i0 then i1 else i0)), .val (.int (if i0 < i1 then i1 else i0)), .val (.int (1 : Int32)), .val (.int (1 : Int32)), .unset] [(.double (FP.i2d i2)), (.double (FP.i2d i0))])) (fun tt_ kk_ => XS.istore C9.here C9.hx rfl (C9.dec at_60) rfl (l' := #[.val (.int i0), .val (.int i1), .val (.int i2), .val (.double (FP.i2d i0)), .second, .val (.double (FP.i2d i1)), .second, .val (.ref a1), .val (.double (FP.ddiv (FP.l2d (i0.toInt64 + i1.toInt64)) (4611686018427387904 : UInt64))), .second, .val (.int (if i1 < i0 then i1 else i0)), .val (.int (if i0 < i1 then i1 else i0)), .val (.int (1 : Int32)), .val (.int (1 : Int32)), .unset]) rfl (XS.iloadN C9.here C9.hx rfl (C9.dec at_62) rfl (XS.i2dS C9.here C9.hx rfl (C9.dec at_63) rfl rfl (XS.iloadN C9.here C9.hx rfl (C9.dec at_64) rfl (XS.i2dS C9.here C9.hx rfl (C9.dec at_65) rfl rfl kk_))))) ?_
    by_cases c10 : i2 < i0
    · refine C9.static (y := (⟨"com/example/cohabit/cohabit/FlowBounds", "inDeficit", "(DD)Z"⟩ : MethodName)) (W := 0) (argsL := [(.double (FP.i2d i0)), (.double (FP.i2d i2))]) (rest := []) (W21 hw) (W22 hw) (W23 hw) (W3 hw) (by decide) (rm_inDef l Z a0 EL G (FP.i2d i0) (FP.i2d i2) (cmpValue (FP.dcmp (FP.i2d i0) (FP.i2d i2)) .g) h3 C9.old rfl) (fun _ => rfl) rfl all0 (by decide) (by decide) (by decide) (by decide) (lenOf pd_284444295a rfl) rfl (Nat.le_of_ble_eq_true rfl) rfl at_66 (pc' := 69) rfl ?_
      intro vm11 T11 h11 v11 C11 A11 M11 q11
      rw [if_pos ((own_dirIff i0 i2).mpr c10)] at q11
      obtain ⟨rfl, rfl⟩ := q11
      show Endw p e below T11 (mkF m 69 #[.val (.int i0), .val (.int i1), .val (.int i2), .val (.double (FP.i2d i0)), .second, .val (.double (FP.i2d i1)), .second, .val (.ref a1), .val (.double (FP.ddiv (FP.l2d (i0.toInt64 + i1.toInt64)) (4611686018427387904 : UInt64))), .second, .val (.int (if i1 < i0 then i1 else i0)), .val (.int (if i0 < i1 then i1 else i0)), .val (.int (1 : Int32)), .val (.int (1 : Int32)), .unset] [(.int (0 : Int32))]) _
      refine Endw.st (T' := T11) (g' := (mkF m 84 #[.val (.int i0), .val (.int i1), .val (.int i2), .val (.double (FP.i2d i0)), .second, .val (.double (FP.i2d i1)), .second, .val (.ref a1), .val (.double (FP.ddiv (FP.l2d (i0.toInt64 + i1.toInt64)) (4611686018427387904 : UInt64))), .second, .val (.int (if i1 < i0 then i1 else i0)), .val (.int (if i0 < i1 then i1 else i0)), .val (.int (1 : Int32)), .val (.int (1 : Int32)), .val (.int (0 : Int32))] [(.int (1 : Int32)), (.int (1 : Int32))])) (fun tt_ kk_ => XS.istore C11.here C11.hx rfl (C11.dec at_69) rfl (l' := #[.val (.int i0), .val (.int i1), .val (.int i2), .val (.double (FP.i2d i0)), .second, .val (.double (FP.i2d i1)), .second, .val (.ref a1), .val (.double (FP.ddiv (FP.l2d (i0.toInt64 + i1.toInt64)) (4611686018427387904 : UInt64))), .second, .val (.int (if i1 < i0 then i1 else i0)), .val (.int (if i0 < i1 then i1 else i0)), .val (.int (1 : Int32)), .val (.int (1 : Int32)), .val (.int (0 : Int32))]) rfl (XS.iload C11.here C11.hx rfl (C11.dec at_71) rfl (XS.ifNo C11.here C11.hx rfl (C11.dec at_73) rfl (XT.i0_eq_f (by decide)) (XS.iload C11.here C11.hx rfl (C11.dec at_76) rfl (XS.iloadN C11.here C11.hx rfl (C11.dec at_78) rfl (XS.iloadN C11.here C11.hx rfl (C11.dec at_79) rfl (XS.icmpNo C11.here C11.hx rfl (C11.dec at_80) rfl (XT.ii_ne_f c8) (XS.iconst C11.here C11.hx rfl (C11.dec at_83) kk_)))))))) ?_
      refine Endw.st (T' := T11) (g' := (mkF m 106 #[.val (.int i0), .val (.int i1), .val (.int i2), .val (.double (FP.i2d i0)), .second, .val (.double (FP.i2d i1)), .second, .val (.ref a1), .val (.double (FP.ddiv (FP.l2d (i0.toInt64 + i1.toInt64)) (4611686018427387904 : UInt64))), .second, .val (.int (if i1 < i0 then i1 else i0)), .val (.int (if i0 < i1 then i1 else i0)), .val (.int (1 : Int32)), .val (.int (1 : Int32)), .val (.int (0 : Int32))] [])) (fun tt_ kk_ => XS.goto C11.here C11.hx rfl (pc0 := 84) rfl (C11.dec at_84) (by decide) rfl (XS.icmpNo C11.here C11.hx rfl (C11.dec at_88) rfl (XT.ii_ne_f (by decide)) (XS.iload C11.here C11.hx rfl (C11.dec at_91) rfl (XS.iloadN C11.here C11.hx rfl (C11.dec at_93) rfl (XS.iloadN C11.here C11.hx rfl (C11.dec at_94) rfl (XS.icmpYes C11.here C11.hx rfl (pc0 := 95) rfl (C11.dec at_95) rfl (XT.ii_gt_t c10) (by decide) rfl (XS.iconst C11.here C11.hx rfl (C11.dec at_102) (XS.icmpNo C11.here C11.hx rfl (C11.dec at_103) rfl (XT.ii_ne_f (by decide)) kk_)))))))) ?_
      refine Endw.st (T' := T11) (g' := (mkF m 111 #[.val (.int i0), .val (.int i1), .val (.int i2), .val (.double (FP.i2d i0)), .second, .val (.double (FP.i2d i1)), .second, .val (.ref a1), .val (.double (FP.ddiv (FP.l2d (i0.toInt64 + i1.toInt64)) (4611686018427387904 : UInt64))), .second, .val (.int (if i1 < i0 then i1 else i0)), .val (.int (if i0 < i1 then i1 else i0)), .val (.int (1 : Int32)), .val (.int (1 : Int32)), .val (.int (0 : Int32))] [(.int (1 : Int32))])) (fun tt_ kk_ => XS.iconst C11.here C11.hx rfl (C11.dec at_106) (XS.goto C11.here C11.hx rfl (pc0 := 107) rfl (C11.dec at_107) (by decide) rfl kk_)) ?_
      exact C11.retI (t := .boolean) rfl (by simp) rfl at_111 (by decide) (by decide) rfl
    · refine C9.static (y := (⟨"com/example/cohabit/cohabit/FlowBounds", "inDeficit", "(DD)Z"⟩ : MethodName)) (W := 0) (argsL := [(.double (FP.i2d i0)), (.double (FP.i2d i2))]) (rest := []) (W21 hw) (W22 hw) (W23 hw) (W3 hw) (by decide) (rm_inDef l Z a0 EL G (FP.i2d i0) (FP.i2d i2) (cmpValue (FP.dcmp (FP.i2d i0) (FP.i2d i2)) .g) h3 C9.old rfl) (fun _ => rfl) rfl all0 (by decide) (by decide) (by decide) (by decide) (lenOf pd_284444295a rfl) rfl (Nat.le_of_ble_eq_true rfl) rfl at_66 (pc' := 69) rfl ?_
      intro vm12 T12 h12 v12 C12 A12 M12 q12
      rw [if_neg (fun z => c10 ((own_dirIff i0 i2).mp z))] at q12
      obtain ⟨rfl, rfl⟩ := q12
      show Endw p e below T12 (mkF m 69 #[.val (.int i0), .val (.int i1), .val (.int i2), .val (.double (FP.i2d i0)), .second, .val (.double (FP.i2d i1)), .second, .val (.ref a1), .val (.double (FP.ddiv (FP.l2d (i0.toInt64 + i1.toInt64)) (4611686018427387904 : UInt64))), .second, .val (.int (if i1 < i0 then i1 else i0)), .val (.int (if i0 < i1 then i1 else i0)), .val (.int (1 : Int32)), .val (.int (1 : Int32)), .unset] [(.int (1 : Int32))]) _
      refine Endw.st (T' := T12) (g' := (mkF m 84 #[.val (.int i0), .val (.int i1), .val (.int i2), .val (.double (FP.i2d i0)), .second, .val (.double (FP.i2d i1)), .second, .val (.ref a1), .val (.double (FP.ddiv (FP.l2d (i0.toInt64 + i1.toInt64)) (4611686018427387904 : UInt64))), .second, .val (.int (if i1 < i0 then i1 else i0)), .val (.int (if i0 < i1 then i1 else i0)), .val (.int (1 : Int32)), .val (.int (1 : Int32)), .val (.int (1 : Int32))] [(.int (1 : Int32)), (.int (1 : Int32))])) (fun tt_ kk_ => XS.istore C12.here C12.hx rfl (C12.dec at_69) rfl (l' := #[.val (.int i0), .val (.int i1), .val (.int i2), .val (.double (FP.i2d i0)), .second, .val (.double (FP.i2d i1)), .second, .val (.ref a1), .val (.double (FP.ddiv (FP.l2d (i0.toInt64 + i1.toInt64)) (4611686018427387904 : UInt64))), .second, .val (.int (if i1 < i0 then i1 else i0)), .val (.int (if i0 < i1 then i1 else i0)), .val (.int (1 : Int32)), .val (.int (1 : Int32)), .val (.int (1 : Int32))]) rfl (XS.iload C12.here C12.hx rfl (C12.dec at_71) rfl (XS.ifNo C12.here C12.hx rfl (C12.dec at_73) rfl (XT.i0_eq_f (by decide)) (XS.iload C12.here C12.hx rfl (C12.dec at_76) rfl (XS.iloadN C12.here C12.hx rfl (C12.dec at_78) rfl (XS.iloadN C12.here C12.hx rfl (C12.dec at_79) rfl (XS.icmpNo C12.here C12.hx rfl (C12.dec at_80) rfl (XT.ii_ne_f c8) (XS.iconst C12.here C12.hx rfl (C12.dec at_83) kk_)))))))) ?_
      refine Endw.st (T' := T12) (g' := (mkF m 103 #[.val (.int i0), .val (.int i1), .val (.int i2), .val (.double (FP.i2d i0)), .second, .val (.double (FP.i2d i1)), .second, .val (.ref a1), .val (.double (FP.ddiv (FP.l2d (i0.toInt64 + i1.toInt64)) (4611686018427387904 : UInt64))), .second, .val (.int (if i1 < i0 then i1 else i0)), .val (.int (if i0 < i1 then i1 else i0)), .val (.int (1 : Int32)), .val (.int (1 : Int32)), .val (.int (1 : Int32))] [(.int (1 : Int32)), (.int (1 : Int32))])) (fun tt_ kk_ => XS.goto C12.here C12.hx rfl (pc0 := 84) rfl (C12.dec at_84) (by decide) rfl (XS.icmpNo C12.here C12.hx rfl (C12.dec at_88) rfl (XT.ii_ne_f (by decide)) (XS.iload C12.here C12.hx rfl (C12.dec at_91) rfl (XS.iloadN C12.here C12.hx rfl (C12.dec at_93) rfl (XS.iloadN C12.here C12.hx rfl (C12.dec at_94) rfl (XS.icmpNo C12.here C12.hx rfl (C12.dec at_95) rfl (XT.ii_gt_f c10) (XS.iconst C12.here C12.hx rfl (C12.dec at_98) (XS.goto C12.here C12.hx rfl (pc0 := 99) rfl (C12.dec at_99) (by decide) rfl kk_)))))))) ?_
      refine Endw.st (T' := T12) (g' := (mkF m 111 #[.val (.int i0), .val (.int i1), .val (.int i2), .val (.double (FP.i2d i0)), .second, .val (.double (FP.i2d i1)), .second, .val (.ref a1), .val (.double (FP.ddiv (FP.l2d (i0.toInt64 + i1.toInt64)) (4611686018427387904 : UInt64))), .second, .val (.int (if i1 < i0 then i1 else i0)), .val (.int (if i0 < i1 then i1 else i0)), .val (.int (1 : Int32)), .val (.int (1 : Int32)), .val (.int (1 : Int32))] [(.int (1 : Int32))])) (fun tt_ kk_ => XS.icmpNo C12.here C12.hx rfl (C12.dec at_103) rfl (XT.ii_ne_f (by decide)) (XS.iconst C12.here C12.hx rfl (C12.dec at_106) (XS.goto C12.here C12.hx rfl (pc0 := 107) rfl (C12.dec at_107) (by decide) rfl kk_))) ?_
      exact C12.retI (t := .boolean) rfl (by simp) rfl at_111 (by decide) (by decide) rfl
  · refine C7.static (y := (⟨"com/example/cohabit/cohabit/FlowBounds", "inDeficit", "(DD)Z"⟩ : MethodName)) (W := 0) (argsL := [(.double (FP.i2d (if i0 < i1 then i1 else i0))), (.double (FP.ddiv (FP.l2d (i0.toInt64 + i1.toInt64)) (4611686018427387904 : UInt64)))]) (rest := []) (W21 hw) (W22 hw) (W23 hw) (W3 hw) (by decide) (rm_inDef l Z a0 EL G (FP.i2d (if i0 < i1 then i1 else i0)) (FP.ddiv (FP.l2d (i0.toInt64 + i1.toInt64)) (4611686018427387904 : UInt64)) (cmpValue (FP.dcmp (FP.i2d (if i0 < i1 then i1 else i0)) (FP.ddiv (FP.l2d (i0.toInt64 + i1.toInt64)) (4611686018427387904 : UInt64))) .g) h3 C7.old rfl) (fun _ => rfl) rfl all0 (by decide) (by decide) (by decide) (by decide) (lenOf pd_284444295a rfl) rfl (Nat.le_of_ble_eq_true rfl) rfl at_57 (pc' := 60) rfl ?_
    intro vm13 T13 h13 v13 C13 A13 M13 q13
    rw [if_pos (own_maxNe i0 i1 c8)] at q13
    obtain ⟨rfl, rfl⟩ := q13
    show Endw p e below T13 (mkF m 60 #[.val (.int i0), .val (.int i1), .val (.int i2), .val (.double (FP.i2d i0)), .second, .val (.double (FP.i2d i1)), .second, .val (.ref a1), .val (.double (FP.ddiv (FP.l2d (i0.toInt64 + i1.toInt64)) (4611686018427387904 : UInt64))), .second, .val (.int (if i1 < i0 then i1 else i0)), .val (.int (if i0 < i1 then i1 else i0)), .val (.int (1 : Int32)), .unset, .unset] [(.int (0 : Int32))]) _
    refine Endw.st (T' := T13) (g' := (mkF m 66 #[.val (.int i0), .val (.int i1), .val (.int i2), .val (.double (FP.i2d i0)), .second, .val (.double (FP.i2d i1)), .second, .val (.ref a1), .val (.double (FP.ddiv (FP.l2d (i0.toInt64 + i1.toInt64)) (4611686018427387904 : UInt64))), .second, .val (.int (if i1 < i0 then i1 else i0)), .val (.int (if i0 < i1 then i1 else i0)), .val (.int (1 : Int32)), .val (.int (0 : Int32)), .unset] [(.double (FP.i2d i2)), (.double (FP.i2d i0))])) (fun tt_ kk_ => XS.istore C13.here C13.hx rfl (C13.dec at_60) rfl (l' := #[.val (.int i0), .val (.int i1), .val (.int i2), .val (.double (FP.i2d i0)), .second, .val (.double (FP.i2d i1)), .second, .val (.ref a1), .val (.double (FP.ddiv (FP.l2d (i0.toInt64 + i1.toInt64)) (4611686018427387904 : UInt64))), .second, .val (.int (if i1 < i0 then i1 else i0)), .val (.int (if i0 < i1 then i1 else i0)), .val (.int (1 : Int32)), .val (.int (0 : Int32)), .unset]) rfl (XS.iloadN C13.here C13.hx rfl (C13.dec at_62) rfl (XS.i2dS C13.here C13.hx rfl (C13.dec at_63) rfl rfl (XS.iloadN C13.here C13.hx rfl (C13.dec at_64) rfl (XS.i2dS C13.here C13.hx rfl (C13.dec at_65) rfl rfl kk_))))) ?_
    by_cases c14 : i2 < i0
    · refine C13.static (y := (⟨"com/example/cohabit/cohabit/FlowBounds", "inDeficit", "(DD)Z"⟩ : MethodName)) (W := 0) (argsL := [(.double (FP.i2d i0)), (.double (FP.i2d i2))]) (rest := []) (W21 hw) (W22 hw) (W23 hw) (W3 hw) (by decide) (rm_inDef l Z a0 EL G (FP.i2d i0) (FP.i2d i2) (cmpValue (FP.dcmp (FP.i2d i0) (FP.i2d i2)) .g) h3 C13.old rfl) (fun _ => rfl) rfl all0 (by decide) (by decide) (by decide) (by decide) (lenOf pd_284444295a rfl) rfl (Nat.le_of_ble_eq_true rfl) rfl at_66 (pc' := 69) rfl ?_
      intro vm15 T15 h15 v15 C15 A15 M15 q15
      rw [if_pos ((own_dirIff i0 i2).mpr c14)] at q15
      obtain ⟨rfl, rfl⟩ := q15
      show Endw p e below T15 (mkF m 69 #[.val (.int i0), .val (.int i1), .val (.int i2), .val (.double (FP.i2d i0)), .second, .val (.double (FP.i2d i1)), .second, .val (.ref a1), .val (.double (FP.ddiv (FP.l2d (i0.toInt64 + i1.toInt64)) (4611686018427387904 : UInt64))), .second, .val (.int (if i1 < i0 then i1 else i0)), .val (.int (if i0 < i1 then i1 else i0)), .val (.int (1 : Int32)), .val (.int (0 : Int32)), .unset] [(.int (0 : Int32))]) _
      refine Endw.st (T' := T15) (g' := (mkF m 88 #[.val (.int i0), .val (.int i1), .val (.int i2), .val (.double (FP.i2d i0)), .second, .val (.double (FP.i2d i1)), .second, .val (.ref a1), .val (.double (FP.ddiv (FP.l2d (i0.toInt64 + i1.toInt64)) (4611686018427387904 : UInt64))), .second, .val (.int (if i1 < i0 then i1 else i0)), .val (.int (if i0 < i1 then i1 else i0)), .val (.int (1 : Int32)), .val (.int (0 : Int32)), .val (.int (0 : Int32))] [(.int (0 : Int32)), (.int (0 : Int32))])) (fun tt_ kk_ => XS.istore C15.here C15.hx rfl (C15.dec at_69) rfl (l' := #[.val (.int i0), .val (.int i1), .val (.int i2), .val (.double (FP.i2d i0)), .second, .val (.double (FP.i2d i1)), .second, .val (.ref a1), .val (.double (FP.ddiv (FP.l2d (i0.toInt64 + i1.toInt64)) (4611686018427387904 : UInt64))), .second, .val (.int (if i1 < i0 then i1 else i0)), .val (.int (if i0 < i1 then i1 else i0)), .val (.int (1 : Int32)), .val (.int (0 : Int32)), .val (.int (0 : Int32))]) rfl (XS.iload C15.here C15.hx rfl (C15.dec at_71) rfl (XS.ifNo C15.here C15.hx rfl (C15.dec at_73) rfl (XT.i0_eq_f (by decide)) (XS.iload C15.here C15.hx rfl (C15.dec at_76) rfl (XS.iloadN C15.here C15.hx rfl (C15.dec at_78) rfl (XS.iloadN C15.here C15.hx rfl (C15.dec at_79) rfl (XS.icmpYes C15.here C15.hx rfl (pc0 := 80) rfl (C15.dec at_80) rfl (XT.ii_ne_t c8) (by decide) rfl (XS.iconst C15.here C15.hx rfl (C15.dec at_87) kk_)))))))) ?_
      refine Endw.st (T' := T15) (g' := (mkF m 107 #[.val (.int i0), .val (.int i1), .val (.int i2), .val (.double (FP.i2d i0)), .second, .val (.double (FP.i2d i1)), .second, .val (.ref a1), .val (.double (FP.ddiv (FP.l2d (i0.toInt64 + i1.toInt64)) (4611686018427387904 : UInt64))), .second, .val (.int (if i1 < i0 then i1 else i0)), .val (.int (if i0 < i1 then i1 else i0)), .val (.int (1 : Int32)), .val (.int (0 : Int32)), .val (.int (0 : Int32))] [(.int (1 : Int32))])) (fun tt_ kk_ => XS.icmpNo C15.here C15.hx rfl (C15.dec at_88) rfl (XT.ii_ne_f (by decide)) (XS.iload C15.here C15.hx rfl (C15.dec at_91) rfl (XS.iloadN C15.here C15.hx rfl (C15.dec at_93) rfl (XS.iloadN C15.here C15.hx rfl (C15.dec at_94) rfl (XS.icmpYes C15.here C15.hx rfl (pc0 := 95) rfl (C15.dec at_95) rfl (XT.ii_gt_t c14) (by decide) rfl (XS.iconst C15.here C15.hx rfl (C15.dec at_102) (XS.icmpNo C15.here C15.hx rfl (C15.dec at_103) rfl (XT.ii_ne_f (by decide)) (XS.iconst C15.here C15.hx rfl (C15.dec at_106) kk_)))))))) ?_
      refine Endw.st (T' := T15) (g' := (mkF m 111 #[.val (.int i0), .val (.int i1), .val (.int i2), .val (.double (FP.i2d i0)), .second, .val (.double (FP.i2d i1)), .second, .val (.ref a1), .val (.double (FP.ddiv (FP.l2d (i0.toInt64 + i1.toInt64)) (4611686018427387904 : UInt64))), .second, .val (.int (if i1 < i0 then i1 else i0)), .val (.int (if i0 < i1 then i1 else i0)), .val (.int (1 : Int32)), .val (.int (0 : Int32)), .val (.int (0 : Int32))] [(.int (1 : Int32))])) (fun tt_ kk_ => XS.goto C15.here C15.hx rfl (pc0 := 107) rfl (C15.dec at_107) (by decide) rfl kk_) ?_
      exact C15.retI (t := .boolean) rfl (by simp) rfl at_111 (by decide) (by decide) rfl
    · refine C13.static (y := (⟨"com/example/cohabit/cohabit/FlowBounds", "inDeficit", "(DD)Z"⟩ : MethodName)) (W := 0) (argsL := [(.double (FP.i2d i0)), (.double (FP.i2d i2))]) (rest := []) (W21 hw) (W22 hw) (W23 hw) (W3 hw) (by decide) (rm_inDef l Z a0 EL G (FP.i2d i0) (FP.i2d i2) (cmpValue (FP.dcmp (FP.i2d i0) (FP.i2d i2)) .g) h3 C13.old rfl) (fun _ => rfl) rfl all0 (by decide) (by decide) (by decide) (by decide) (lenOf pd_284444295a rfl) rfl (Nat.le_of_ble_eq_true rfl) rfl at_66 (pc' := 69) rfl ?_
      intro vm16 T16 h16 v16 C16 A16 M16 q16
      rw [if_neg (fun z => c14 ((own_dirIff i0 i2).mp z))] at q16
      obtain ⟨rfl, rfl⟩ := q16
      show Endw p e below T16 (mkF m 69 #[.val (.int i0), .val (.int i1), .val (.int i2), .val (.double (FP.i2d i0)), .second, .val (.double (FP.i2d i1)), .second, .val (.ref a1), .val (.double (FP.ddiv (FP.l2d (i0.toInt64 + i1.toInt64)) (4611686018427387904 : UInt64))), .second, .val (.int (if i1 < i0 then i1 else i0)), .val (.int (if i0 < i1 then i1 else i0)), .val (.int (1 : Int32)), .val (.int (0 : Int32)), .unset] [(.int (1 : Int32))]) _
      refine Endw.st (T' := T16) (g' := (mkF m 88 #[.val (.int i0), .val (.int i1), .val (.int i2), .val (.double (FP.i2d i0)), .second, .val (.double (FP.i2d i1)), .second, .val (.ref a1), .val (.double (FP.ddiv (FP.l2d (i0.toInt64 + i1.toInt64)) (4611686018427387904 : UInt64))), .second, .val (.int (if i1 < i0 then i1 else i0)), .val (.int (if i0 < i1 then i1 else i0)), .val (.int (1 : Int32)), .val (.int (0 : Int32)), .val (.int (1 : Int32))] [(.int (0 : Int32)), (.int (0 : Int32))])) (fun tt_ kk_ => XS.istore C16.here C16.hx rfl (C16.dec at_69) rfl (l' := #[.val (.int i0), .val (.int i1), .val (.int i2), .val (.double (FP.i2d i0)), .second, .val (.double (FP.i2d i1)), .second, .val (.ref a1), .val (.double (FP.ddiv (FP.l2d (i0.toInt64 + i1.toInt64)) (4611686018427387904 : UInt64))), .second, .val (.int (if i1 < i0 then i1 else i0)), .val (.int (if i0 < i1 then i1 else i0)), .val (.int (1 : Int32)), .val (.int (0 : Int32)), .val (.int (1 : Int32))]) rfl (XS.iload C16.here C16.hx rfl (C16.dec at_71) rfl (XS.ifNo C16.here C16.hx rfl (C16.dec at_73) rfl (XT.i0_eq_f (by decide)) (XS.iload C16.here C16.hx rfl (C16.dec at_76) rfl (XS.iloadN C16.here C16.hx rfl (C16.dec at_78) rfl (XS.iloadN C16.here C16.hx rfl (C16.dec at_79) rfl (XS.icmpYes C16.here C16.hx rfl (pc0 := 80) rfl (C16.dec at_80) rfl (XT.ii_ne_t c8) (by decide) rfl (XS.iconst C16.here C16.hx rfl (C16.dec at_87) kk_)))))))) ?_
      refine Endw.st (T' := T16) (g' := (mkF m 106 #[.val (.int i0), .val (.int i1), .val (.int i2), .val (.double (FP.i2d i0)), .second, .val (.double (FP.i2d i1)), .second, .val (.ref a1), .val (.double (FP.ddiv (FP.l2d (i0.toInt64 + i1.toInt64)) (4611686018427387904 : UInt64))), .second, .val (.int (if i1 < i0 then i1 else i0)), .val (.int (if i0 < i1 then i1 else i0)), .val (.int (1 : Int32)), .val (.int (0 : Int32)), .val (.int (1 : Int32))] [])) (fun tt_ kk_ => XS.icmpNo C16.here C16.hx rfl (C16.dec at_88) rfl (XT.ii_ne_f (by decide)) (XS.iload C16.here C16.hx rfl (C16.dec at_91) rfl (XS.iloadN C16.here C16.hx rfl (C16.dec at_93) rfl (XS.iloadN C16.here C16.hx rfl (C16.dec at_94) rfl (XS.icmpNo C16.here C16.hx rfl (C16.dec at_95) rfl (XT.ii_gt_f c14) (XS.iconst C16.here C16.hx rfl (C16.dec at_98) (XS.goto C16.here C16.hx rfl (pc0 := 99) rfl (C16.dec at_99) (by decide) rfl (XS.icmpNo C16.here C16.hx rfl (C16.dec at_103) rfl (XT.ii_ne_f (by decide)) kk_)))))))) ?_
      refine Endw.st (T' := T16) (g' := (mkF m 111 #[.val (.int i0), .val (.int i1), .val (.int i2), .val (.double (FP.i2d i0)), .second, .val (.double (FP.i2d i1)), .second, .val (.ref a1), .val (.double (FP.ddiv (FP.l2d (i0.toInt64 + i1.toInt64)) (4611686018427387904 : UInt64))), .second, .val (.int (if i1 < i0 then i1 else i0)), .val (.int (if i0 < i1 then i1 else i0)), .val (.int (1 : Int32)), .val (.int (0 : Int32)), .val (.int (1 : Int32))] [(.int (1 : Int32))])) (fun tt_ kk_ => XS.iconst C16.here C16.hx rfl (C16.dec at_106) (XS.goto C16.here C16.hx rfl (pc0 := 107) rfl (C16.dec at_107) (by decide) rfl kk_)) ?_
      exact C16.retI (t := .boolean) rfl (by simp) rfl at_111 (by decide) (by decide) rfl
set_option maxRecDepth 65536 in
set_option maxHeartbeats 40000000 in
theorem comes_1 {Post : Tables → Env → Array Value → State → Outcome → State → Prop} (hpost : ∀ tb e args s v u, (limb_1_1.after args s (.returned v) u = true ∧ limb_1_2.after args s (.returned v) u = true ∧ True) → FrameEnd s (.returned v) u (Jvm.fieldLocs frame_1_writes args s ++ Jvm.arrayLocs frame_1_arrays args s ++ Jvm.staticLocs frame_1_statics s) 16 128 → Post tb e args s (.returned v) u) :
    ArmFor flags0 classFile x code maxLocals ret World_1 tables_1 room_1 Calls_1 rest_1 Pre_1 Post := by
  intro l hfl _ _ p e ha hc hk s m args below hf hA hF happ hP
  obtain ⟨hcalls, hrest, hpre⟩ := hP
  obtain ⟨-, -, -, hnamed, -, -, -, hat⟩ := (Spec.applies_iff hf).mp happ
  obtain ⟨hg, hn⟩ := and_e (Cond.before_iff.mp (show (Jvm.Cond.and given_1 narrow_1).before args s = true from hpre))
  obtain ⟨h1, g0⟩ := and_e hg
  obtain ⟨a0, g1⟩ := and_e g0
  obtain ⟨a1, g2⟩ := and_e g1
  have a2 := g2
  obtain ⟨w0, w1, w2, rfl⟩ : ∃ w0 w1 w2 : Value, args = #[w0, w1, w2] := by
    have hs : args.size = 3 := by simpa [Cond.value, given_1] using h1
    obtain ⟨L⟩ := args
    match L, hs with
    | [w0, w1, w2], _ => exact ⟨w0, w1, w2, rfl⟩
  have hw := fun d (hd : d ∈ tables_1) => atoms_spec (ws := Jvm.Cond.code x code maxLocals ret :: tables_1) hat d (List.mem_cons_of_mem _ hd)
  obtain ⟨i0, e0⟩ := is_v a0
  obtain rfl : w0 = (.int i0) := Option.some.inj e0
  obtain ⟨i1, e1⟩ := is_v a1
  obtain rfl : w1 = (.int i1) := Option.some.inj e1
  obtain ⟨i2, e2⟩ := is_v a2
  obtain rfl : w2 = (.int i2) := Option.some.inj e2
  have hEW : EW s #[(.int i0), (.int i1), (.int i2)] [] := EW.nil
  have hG : Glob s #[(.int i0), (.int i1), (.int i2)] [] := ⟨hw, hEW, rfl⟩
  have hCH : CHv s [] s.vm s.heap := fun p hp => by cases hp
  obtain ⟨n, o, h1, h2, h3, v, L, rfl, ⟨rfl, N, -⟩, ⟨-, hwm⟩, hq⟩ := rm_law l s _ [] hG i0 i1 i2 s.heap ⟨Nat.le_refl _, fun _ _ q => q⟩ p e ha hc hk s m _ below hf ((Spec.applies_iff_loose hf).mp happ).1 ⟨rfl, State.Warmed39.refl s, rfl, hCH, all0⟩ trivial
  refine ⟨n, _, h1, h2, h3, hpost _ _ _ _ _ _ ⟨Cond.after_iff.mpr rfl, Cond.after_iff.mpr (eq_i res_at (Term.int_eval (1)) rfl), trivial⟩ ⟨hq.1, (hwm rfl).1, (hq.2.2.2.sift fun y hy => Or.inr (N y hy)).mono (by decide) (by decide)⟩⟩
theorem main_1_1 : Claimed_1_1 := comes_1 fun _ _ _ _ _ _ h hF => ⟨h.1, hF⟩
theorem main_1_2 : Claimed_1_2 := comes_1 fun _ _ _ _ _ _ h hF => ⟨h.2.1, hF⟩
end Jvm.Pilot.@@N@@
namespace Jvm.Pilot.@@N@@
open Jvm Jvm.ClassFile Sem Op Lib Jvm.Free Jvm.Stand Jvm.Pilot.@@N@@.Jvm.D
/-! MADE BY PROGRAM (witnessworld.py) out of the Statement's table words and the real class files: 12 classes; the members and pool entries that the words name. The judged class is class 1, her method 1. -/
namespace start1
open Jvm.ClassFile
def u (s : String) : CpInfo := .utf8 (stringToUtf16 s)
/-- a pool by its gaps: so many unusable entries, then the entry; so many at the end -/
def gap : Nat → List CpInfo → List CpInfo
  | 0, r => r
  | n + 1, r => .unusable :: gap n r
def poolList (es : List (Nat × CpInfo)) (last : Nat) : List CpInfo := es.foldr (fun e r => gap e.1 (e.2 :: r)) (gap last [])
def pool (es : List (Nat × CpInfo)) (last : Nat) : Array CpInfo := ⟨poolList es last⟩
def fileOf (pool : Array CpInfo) (this : Nat) (attrs : Array Attribute := #[]) (ms : Array MethodInfo := #[]) (fl : Nat := 33) (sup : Nat := 0) (ifs : Array Nat := #[]) (fds : Array FieldInfo := #[]) : ClassFile where
  minorVersion := 0
  majorVersion := 65
  constantPool := pool
  accessFlags := fl
  thisClass := this
  superClass := sup
  interfaces := ifs
  fields := fds
  methods := ms
  attributes := attrs
def plain (name : String) (sup : Option ClassId) : Class where
  name := name
  kind := .ordinary
  loader := none
  accessFlags := 33
  super := sup
  interfaces := #[]
  cf := none
  fields := #[]
  methods := #[]
  instanceTypes := #[]
  staticTypes := #[]
  resolved := #[]
  callSites := []
  init := .initialized
  statics := none
  mirror := none

def pool0 : Array CpInfo := pool [(5, u "<init>"), (0, u "()V"), (1, .class_ 10), (1, u "java/lang/Object")] 113

def k0m0 : Method := { name := "<init>", desc := "()V", sig := { parameters := [], returnType := none }, accessFlags := 1, code := none }
/-- java/lang/Object -/
def k0 : Class := { plain "java/lang/Object" none with
  accessFlags := 33
  interfaces := #[]
  cf := some (fileOf pool0 8 #[] #[{ accessFlags := 1, nameIndex := 5, descriptorIndex := 6, attributes := #[] }] 33 0 #[] #[])
  fields := #[]
  methods := #[k0m0]
  instanceTypes := #[]
  staticTypes := #[]
  resolved := Array.replicate 124 none
  statics := none }

def pool1 : Array CpInfo := pool [(2, .class_ 4), (1, u "java/lang/Object"), (0, u "<init>"), (0, u "()V"), (0, .methodref 8 9), (0, .class_ 10), (0, .nameAndType 11 12), (0, u "com/example/cohabit/cohabit/FlowBounds"), (0, u "sigma"), (0, u "([D)D"), (0, .methodref 14 15), (0, .class_ 16), (0, .nameAndType 17 18), (0, u "java/lang/Math"), (0, u "min"), (0, u "(II)I"), (0, .methodref 14 20), (0, .nameAndType 21 18), (0, u "max"), (0, .methodref 8 23), (0, .nameAndType 24 25), (0, u "inDeficit"), (0, u "(DD)Z"), (0, .class_ 27), (0, u "com/example/cohabit/cohabit/FlowBoundsInDeficitPinLaw"), (2, u "law"), (0, u "(III)Z")] 5

def k1m0 : Method := { name := "<init>", desc := "()V", sig := { parameters := [], returnType := none }, accessFlags := 1, code := none }
def k1c1 : Code := { maxStack := 5, maxLocals := 15, code := code, exceptionTable := #[], attributes := #[] }
def k1m1 : Method := { name := "law", desc := "(III)Z", sig := { parameters := [.int, .int, .int], returnType := some .boolean }, accessFlags := 9, code := some k1c1 }
/-- com/example/cohabit/cohabit/FlowBoundsInDeficitPinLaw -/
def k1 : Class := { plain "com/example/cohabit/cohabit/FlowBoundsInDeficitPinLaw" (some 0) with
  accessFlags := 49
  interfaces := #[]
  cf := some (fileOf pool1 26 #[] #[{ accessFlags := 1, nameIndex := 5, descriptorIndex := 6, attributes := #[] }, { accessFlags := 9, nameIndex := 30, descriptorIndex := 31, attributes := #[] }] 49 2 #[] #[])
  fields := #[]
  methods := #[k1m0, k1m1]
  instanceTypes := #[]
  staticTypes := #[]
  resolved := Array.replicate 37 none
  statics := none }

def pool2 : Array CpInfo := pool [(2, .class_ 4), (1, u "java/lang/Object"), (13, .double 9218868437227405312), (7, u "[D"), (3, .class_ 32), (1, u "com/example/cohabit/cohabit/FlowBounds"), (0, u "lower"), (2, u "upper"), (39, u "sigma"), (0, u "([D)D"), (2, .double 18442240474082181120), (1, .methodref 83 84), (0, .class_ 85), (0, .nameAndType 86 87), (0, u "java/lang/Math"), (0, u "min"), (0, u "(DD)D"), (0, .methodref 83 89), (0, .nameAndType 90 87), (0, u "max"), (0, .double 4611686018427387904), (3, u "inDeficit"), (0, u "(DD)Z")] 35

def k2c0 : Code := { maxStack := 4, maxLocals := 10, code := prog_10_method_4_code, exceptionTable := #[], attributes := #[] }
def k2m0 : Method := { name := "sigma", desc := "([D)D", sig := { parameters := [(.array .double)], returnType := some .double }, accessFlags := 8, code := some k2c0 }
def k2c1 : Code := { maxStack := 4, maxLocals := 4, code := prog_10_method_5_code, exceptionTable := #[], attributes := #[] }
def k2m1 : Method := { name := "inDeficit", desc := "(DD)Z", sig := { parameters := [.double, .double], returnType := some .boolean }, accessFlags := 8, code := some k2c1 }
/-- com/example/cohabit/cohabit/FlowBounds -/
def k2 : Class := { plain "com/example/cohabit/cohabit/FlowBounds" (some 0) with
  accessFlags := 49
  interfaces := #[]
  cf := some (fileOf pool2 30 #[] #[{ accessFlags := 8, nameIndex := 76, descriptorIndex := 77, attributes := #[] }, { accessFlags := 8, nameIndex := 95, descriptorIndex := 96, attributes := #[] }] 49 2 #[] #[{ accessFlags := 18, nameIndex := 33, descriptorIndex := 26, attributes := #[] }, { accessFlags := 18, nameIndex := 36, descriptorIndex := 26, attributes := #[] }])
  fields := #[{ name := "lower", type := (.array .double), accessFlags := 18, slot := 0, constantValue := 0 }, { name := "upper", type := (.array .double), accessFlags := 18, slot := 1, constantValue := 0 }]
  methods := #[k2m0, k2m1]
  instanceTypes := #[(.array .double), (.array .double)]
  staticTypes := #[]
  resolved := Array.replicate 132 none
  statics := none }

def pool3 : Array CpInfo := pool [(1, .class_ 2), (0, u "java/lang/Math"), (1, .class_ 6), (1, u "java/lang/Object"), (0, u "<init>"), (0, u "()V"), (43, u "(DD)D"), (45, .class_ 100), (1, u "java/lang/Math$RandomNumberGeneratorHolder"), (71, u "negativeZeroFloatBits"), (0, u "J"), (2, u "negativeZeroDoubleBits"), (21, u "max"), (2, u "min"), (43, u "$assertionsDisabled"), (0, u "Z"), (88, u "(II)I"), (2, u "twoToTheDoubleScaleDown"), (0, u "D"), (4, u "twoToTheDoubleScaleUp"), (9, u "E"), (3, u "PI"), (2, u "TAU"), (2, u "DEGREES_TO_RADIANS"), (0, u "RADIANS_TO_DEGREES")] 94

def k3m0 : Method := { name := "<init>", desc := "()V", sig := { parameters := [], returnType := none }, accessFlags := 2, code := none }
def k3c1 : Code := { maxStack := 2, maxLocals := 2, code := jdk_29_method_65_code, exceptionTable := #[], attributes := #[] }
def k3m1 : Method := { name := "max", desc := "(II)I", sig := { parameters := [.int, .int], returnType := some .int }, accessFlags := 9, code := some k3c1 }
def k3c2 : Code := { maxStack := 4, maxLocals := 4, code := jdk_29_method_68_code, exceptionTable := #[], attributes := #[] }
def k3m2 : Method := { name := "max", desc := "(DD)D", sig := { parameters := [.double, .double], returnType := some .double }, accessFlags := 9, code := some k3c2 }
def k3c3 : Code := { maxStack := 2, maxLocals := 2, code := jdk_29_method_69_code, exceptionTable := #[], attributes := #[] }
def k3m3 : Method := { name := "min", desc := "(II)I", sig := { parameters := [.int, .int], returnType := some .int }, accessFlags := 9, code := some k3c3 }
def k3c4 : Code := { maxStack := 4, maxLocals := 4, code := jdk_29_method_72_code, exceptionTable := #[], attributes := #[] }
def k3m4 : Method := { name := "min", desc := "(DD)D", sig := { parameters := [.double, .double], returnType := some .double }, accessFlags := 9, code := some k3c4 }
/-- java/lang/Math -/
def k3 : Class := { plain "java/lang/Math" (some 0) with
  accessFlags := 49
  interfaces := #[]
  cf := some (fileOf pool3 1 #[.nestMembers #[98]] #[{ accessFlags := 2, nameIndex := 7, descriptorIndex := 8, attributes := #[] }, { accessFlags := 9, nameIndex := 198, descriptorIndex := 335, attributes := #[] }, { accessFlags := 9, nameIndex := 198, descriptorIndex := 52, attributes := #[] }, { accessFlags := 9, nameIndex := 201, descriptorIndex := 335, attributes := #[] }, { accessFlags := 9, nameIndex := 201, descriptorIndex := 52, attributes := #[] }] 49 4 #[] #[{ accessFlags := 25, nameIndex := 354, descriptorIndex := 339, attributes := #[] }, { accessFlags := 25, nameIndex := 358, descriptorIndex := 339, attributes := #[] }, { accessFlags := 25, nameIndex := 361, descriptorIndex := 339, attributes := #[] }, { accessFlags := 26, nameIndex := 364, descriptorIndex := 339, attributes := #[] }, { accessFlags := 26, nameIndex := 365, descriptorIndex := 339, attributes := #[] }, { accessFlags := 26, nameIndex := 172, descriptorIndex := 173, attributes := #[] }, { accessFlags := 26, nameIndex := 176, descriptorIndex := 173, attributes := #[] }, { accessFlags := 8, nameIndex := 344, descriptorIndex := 339, attributes := #[] }, { accessFlags := 8, nameIndex := 338, descriptorIndex := 339, attributes := #[] }, { accessFlags := 4120, nameIndex := 245, descriptorIndex := 246, attributes := #[] }])
  fields := #[{ name := "E", type := .double, accessFlags := 25, slot := 0, constantValue := 0 }, { name := "PI", type := .double, accessFlags := 25, slot := 1, constantValue := 0 }, { name := "TAU", type := .double, accessFlags := 25, slot := 2, constantValue := 0 }, { name := "DEGREES_TO_RADIANS", type := .double, accessFlags := 26, slot := 3, constantValue := 0 }, { name := "RADIANS_TO_DEGREES", type := .double, accessFlags := 26, slot := 4, constantValue := 0 }, { name := "negativeZeroFloatBits", type := .long, accessFlags := 26, slot := 5, constantValue := 0 }, { name := "negativeZeroDoubleBits", type := .long, accessFlags := 26, slot := 6, constantValue := 0 }, { name := "twoToTheDoubleScaleUp", type := .double, accessFlags := 8, slot := 7, constantValue := 0 }, { name := "twoToTheDoubleScaleDown", type := .double, accessFlags := 8, slot := 8, constantValue := 0 }, { name := "$assertionsDisabled", type := .boolean, accessFlags := 4120, slot := 9, constantValue := 0 }]
  methods := #[k3m0, k3m1, k3m2, k3m3, k3m4]
  instanceTypes := #[]
  staticTypes := #[.double, .double, .double, .double, .double, .long, .long, .double, .double, .boolean]
  resolved := Array.replicate 460 none
  statics := none }

def pool4 : Array CpInfo := pool [(1, u "java/lang/Cloneable"), (0, .class_ 1), (0, u "java/lang/Object"), (0, .class_ 3)] 3

/-- java/lang/Cloneable -/
def k4 : Class := { plain "java/lang/Cloneable" (some 0) with
  accessFlags := 1537
  interfaces := #[]
  cf := some (fileOf pool4 2 #[] #[] 1537 4 #[] #[])
  fields := #[]
  methods := #[]
  instanceTypes := #[]
  staticTypes := #[]
  resolved := Array.replicate 8 none
  statics := none }

def pool5 : Array CpInfo := pool [(1, u "java/io/Serializable"), (0, .class_ 1), (0, u "java/lang/Object"), (0, .class_ 3)] 3

/-- java/io/Serializable -/
def k5 : Class := { plain "java/io/Serializable" (some 0) with
  accessFlags := 1537
  interfaces := #[]
  cf := some (fileOf pool5 2 #[] #[] 1537 4 #[] #[])
  fields := #[]
  methods := #[]
  instanceTypes := #[]
  staticTypes := #[]
  resolved := Array.replicate 8 none
  statics := none }

/-- the primitive byte -/
def k6 : Class := { plain "byte" none with kind := .primitive 'B', accessFlags := 0x411 }
/-- [B -/
def k7 : Class := { plain "[B" (some 0) with kind := .array 6 .byte, interfaces := #[4, 5], accessFlags := 1041 }

/-- the primitive double -/
def k8 : Class := { plain "double" none with kind := .primitive 'D', accessFlags := 0x411 }
/-- [D -/
def k9 : Class := { plain "[D" (some 0) with kind := .array 8 .double, interfaces := #[4, 5], accessFlags := 1041 }

/-- the primitive int -/
def k10 : Class := { plain "int" none with kind := .primitive 'I', accessFlags := 0x411 }
/-- [I -/
def k11 : Class := { plain "[I" (some 0) with kind := .array 10 .int, interfaces := #[4, 5], accessFlags := 1041 }

def heap : Heap := #[]
def classes : Array Class := #[k0, k1, k2, k3, k4, k5, k6, k7, k8, k9, k10, k11]
def interned : List (Array UInt16 × Addr) := []
def slotsUsed : Nat := 0
def theMethod : MethodId := ⟨1, 1⟩
def args0 : Array Value := #[.int 5, .int 6, .int 0]
def aboutOver (below : List Frame) : State where
  vm := { classes := classes, interned := interned.toArray }
  heap := heap
  slotsUsed := slotsUsed
  threads := #[{ frames := .invoking theMethod args0 :: below }]
def below0 : List Frame := [.native { method := ⟨0, 0⟩, args := #[] }]
def about1 : State := aboutOver below0
def p0 : Program := .bare "" "" ""
def e0 : Env := launch0.env 0 0 0
theorem w_frames : about1.frames = Frame.invoking theMethod args0 :: below0 := rfl
set_option maxRecDepth 65536 in
theorem w_args : argsFit about1.vm theMethod args0 = true := by decide +kernel
set_option maxRecDepth 65536 in
theorem w_heap : heapFits about1 = true := by decide +kernel
set_option maxRecDepth 65536 in
theorem w_runnable : about1.curStatus? = some .runnable := by decide +kernel
set_option maxRecDepth 65536 in
theorem w_alone : about1.alone = true := by decide +kernel
set_option maxRecDepth 65536 in
theorem w_named : about1.methodNamed? x = some theMethod := by decide +kernel
set_option maxRecDepth 65536 in
theorem w_hears : about1.hears theMethod below0 = true := by decide +kernel
set_option maxRecDepth 65536 in
theorem w_ripe : about1.ripe theMethod args0 below0 = true := by decide +kernel
theorem w_running : about1.status = .running := rfl
set_option maxRecDepth 65536 in
theorem w_room : about1.hasRoom e0.platform room_1 = true :=
  launch0.hasRoom_least _ room_1 (by decide +kernel) (by decide +kernel) (by decide +kernel) (by decide +kernel) (by decide +kernel) (by decide +kernel)
theorem allAtoms_all (ts : List Jvm.Cond) (a : Array Jvm.Value) (st : Jvm.State) : (allAtoms ts).before a st = ts.all (fun c => c.before a st) := by
  induction ts with
  | nil => rfl
  | cons c t ih =>
    show (Jvm.Cond.and c (allAtoms t)).before a st = _
    rw [Jvm.Cond.before_and, ih, List.all_cons]
def words1 : List Jvm.Cond := Jvm.Cond.code x code maxLocals ret :: tables_1
/-- a 'code' word, met by the world's own term for the bytes: nothing is compared byte by byte -/
theorem code_word {y : MethodName} {bytes : ByteArray} {mx : Nat} {rt : Option FieldType} {a : Array Value} {s : State} {m : MethodId} {meth : Method} {c : Code} (h1 : s.methodNamed? y = some m) (h2 : s.vm.method? m = some meth) (h3 : meth.code = some c) (h4 : c.code = bytes)
    (h5 : (c.maxLocals == mx && c.exceptionTable.isEmpty && decide (c.maxStack ≤ mostOperands) && decide (meth.sig.returnType = rt) && !meth.locks && decide (parseMethodDescriptor y.desc = some meth.sig)) = true) : (Jvm.Cond.code y bytes mx rt).before a s = true := by
  simp only [Bool.and_eq_true, beq_iff_eq, Bool.not_eq_true', decide_eq_true_eq] at h5
  obtain ⟨⟨⟨⟨⟨g1, g2⟩, g3⟩, g4⟩, g5⟩, g6⟩ := h5
  simp [Cond.before, Cond.holds, Cond.value, h1, h2, h3, h4, g1, g2, g3, g4, g5, g6]
def isCode : Jvm.Cond → Bool
  | .code _ _ _ _ => true
  | _ => false
theorem all_split {L : List Jvm.Cond} {P : Jvm.Cond → Bool} (h1 : L.all (fun c => isCode c || P c) = true) (h2 : ∀ c ∈ L.filter isCode, P c = true) : L.all P = true := by
  refine List.all_eq_true.mpr fun c hc => ?_
  have h := List.all_eq_true.mp h1 c hc
  rcases Bool.eq_false_or_eq_true (isCode c) with hi | hi
  · exact h2 c (List.mem_filter.mpr ⟨hc, hi⟩)
  · simpa [hi] using h
set_option maxRecDepth 65536 in
theorem w_c0 : (Jvm.Cond.code x code maxLocals ret).before args0 about1 = true := code_word (m := ⟨1, 1⟩) (meth := k1m1) (c := k1c1) (by decide +kernel) rfl rfl rfl (by decide +kernel)
set_option maxRecDepth 65536 in
theorem w_c1 : (Jvm.Cond.code ({ cls := "com/example/cohabit/cohabit/FlowBounds", name := "sigma", desc := "([D)D" } : Jvm.MethodName) prog_10_method_4_code (10 : Nat) (Option.some Jvm.ClassFile.FieldType.double)).before args0 about1 = true := code_word (m := ⟨2, 0⟩) (meth := k2m0) (c := k2c0) (by decide +kernel) rfl rfl rfl (by decide +kernel)
set_option maxRecDepth 65536 in
theorem w_c2 : (Jvm.Cond.code ({ cls := "java/lang/Math", name := "min", desc := "(DD)D" } : Jvm.MethodName) jdk_29_method_72_code (4 : Nat) (Option.some Jvm.ClassFile.FieldType.double)).before args0 about1 = true := code_word (m := ⟨3, 4⟩) (meth := k3m4) (c := k3c4) (by decide +kernel) rfl rfl rfl (by decide +kernel)
set_option maxRecDepth 65536 in
theorem w_c3 : (Jvm.Cond.code ({ cls := "java/lang/Math", name := "max", desc := "(DD)D" } : Jvm.MethodName) jdk_29_method_68_code (4 : Nat) (Option.some Jvm.ClassFile.FieldType.double)).before args0 about1 = true := code_word (m := ⟨3, 2⟩) (meth := k3m2) (c := k3c2) (by decide +kernel) rfl rfl rfl (by decide +kernel)
set_option maxRecDepth 65536 in
theorem w_c4 : (Jvm.Cond.code ({ cls := "java/lang/Math", name := "min", desc := "(II)I" } : Jvm.MethodName) jdk_29_method_69_code (2 : Nat) (Option.some Jvm.ClassFile.FieldType.int)).before args0 about1 = true := code_word (m := ⟨3, 3⟩) (meth := k3m3) (c := k3c3) (by decide +kernel) rfl rfl rfl (by decide +kernel)
set_option maxRecDepth 65536 in
theorem w_c5 : (Jvm.Cond.code ({ cls := "java/lang/Math", name := "max", desc := "(II)I" } : Jvm.MethodName) jdk_29_method_65_code (2 : Nat) (Option.some Jvm.ClassFile.FieldType.int)).before args0 about1 = true := code_word (m := ⟨3, 1⟩) (meth := k3m1) (c := k3c1) (by decide +kernel) rfl rfl rfl (by decide +kernel)
set_option maxRecDepth 65536 in
theorem w_c6 : (Jvm.Cond.code ({ cls := "com/example/cohabit/cohabit/FlowBounds", name := "inDeficit", desc := "(DD)Z" } : Jvm.MethodName) prog_10_method_5_code (4 : Nat) (Option.some Jvm.ClassFile.FieldType.boolean)).before args0 about1 = true := code_word (m := ⟨2, 1⟩) (meth := k2m1) (c := k2c1) (by decide +kernel) rfl rfl rfl (by decide +kernel)
def codes1 : List Jvm.Cond := [Jvm.Cond.code x code maxLocals ret, Jvm.Cond.code ({ cls := "com/example/cohabit/cohabit/FlowBounds", name := "sigma", desc := "([D)D" } : Jvm.MethodName) prog_10_method_4_code (10 : Nat) (Option.some Jvm.ClassFile.FieldType.double), Jvm.Cond.code ({ cls := "java/lang/Math", name := "min", desc := "(DD)D" } : Jvm.MethodName) jdk_29_method_72_code (4 : Nat) (Option.some Jvm.ClassFile.FieldType.double), Jvm.Cond.code ({ cls := "java/lang/Math", name := "max", desc := "(DD)D" } : Jvm.MethodName) jdk_29_method_68_code (4 : Nat) (Option.some Jvm.ClassFile.FieldType.double), Jvm.Cond.code ({ cls := "java/lang/Math", name := "min", desc := "(II)I" } : Jvm.MethodName) jdk_29_method_69_code (2 : Nat) (Option.some Jvm.ClassFile.FieldType.int), Jvm.Cond.code ({ cls := "java/lang/Math", name := "max", desc := "(II)I" } : Jvm.MethodName) jdk_29_method_65_code (2 : Nat) (Option.some Jvm.ClassFile.FieldType.int), Jvm.Cond.code ({ cls := "com/example/cohabit/cohabit/FlowBounds", name := "inDeficit", desc := "(DD)Z" } : Jvm.MethodName) prog_10_method_5_code (4 : Nat) (Option.some Jvm.ClassFile.FieldType.boolean)]
set_option maxRecDepth 65536 in
theorem codes_eq : words1.filter isCode = codes1 := rfl
theorem w_codes : ∀ c ∈ words1.filter isCode, c.before args0 about1 = true := by
  rw [codes_eq]
  intro c hc
  simp only [codes1, List.mem_cons, List.not_mem_nil, or_false] at hc
  rcases hc with rfl | rfl | rfl | rfl | rfl | rfl | rfl
  · exact w_c0
  · exact w_c1
  · exact w_c2
  · exact w_c3
  · exact w_c4
  · exact w_c5
  · exact w_c6
set_option maxRecDepth 65536 in
theorem w_t1 : (words1.take 24).all (fun c => isCode c || c.before args0 about1) = true := by decide +kernel
set_option maxRecDepth 65536 in
theorem w_t2 : (words1.drop 24).all (fun c => isCode c || c.before args0 about1) = true := by decide +kernel
theorem w_tables : (allAtoms (Jvm.Cond.code x code maxLocals ret :: tables_1)).before args0 about1 = true := by
  rw [allAtoms_all]
  show words1.all (fun c => c.before args0 about1) = true
  refine all_split ?_ w_codes
  rw [← List.take_append_drop 24 words1, List.all_append, w_t1, w_t2]
  rfl
set_option maxRecDepth 65536 in
theorem w_case : (Jvm.Cond.and given_1 narrow_1).before args0 about1 = true := by decide +kernel
theorem w_applies : (headSpec (Jvm.Cond.code x code maxLocals ret :: tables_1) room_1).applies x e0.platform about1 = true :=
  (Spec.applies_iff w_frames).mpr ⟨w_running, w_runnable, w_alone, w_named, w_hears, w_ripe, w_room, w_tables⟩
theorem atStart : AtStart classFile x code maxLocals ret World_1 tables_1 room_1 Calls_1 rest_1 Pre_1 launch0 p0 e0 about1 theMethod args0 below0 :=
  ⟨lists_1, trivial, launch0.admits_env _ _ _, launch0.least_env, fairChoices_fair.cas, fairChoices_fair.clock, w_frames, w_args, w_heap, w_applies, trivial, trivial, w_case⟩
end start1
theorem witness_1 : WitnessClaimed_1 := ⟨start1.p0, start1.e0, start1.about1, start1.theMethod, start1.args0, start1.below0, start1.atStart⟩
end Jvm.Pilot.@@N@@
