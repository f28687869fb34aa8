import JvmDerived
import JvmDerived.Pilot.@@N@@Statement
import JvmDerived.Pilot.@@N@@Code
set_option linter.unusedVariables false
set_option linter.unusedSimpArgs false
namespace Jvm.Own
open Jvm Jvm.ClassFile Sem Op Lib Jvm.Free Jvm.Stand Jvm.LawKit Jvm.RoadKit Bundle
section Walk
/-- from this frame the body comes to its end, and the end is as F says -/
def Endw (p : Program) (e : Env) (below : List Frame) (T : State) (g : JFrame) (F : Outcome → State → Prop) : Prop :=
  ∃ s₂ o, Steps p.tables e below (T.setTop g) s₂ ∧ s₂.status = .running ∧ Ended s₂ below o ∧ F o s₂
/-- where a walk stands: its surroundings, its state, the heap at hand, what it has spent -/
def Core (p : Program) (l : Launch) (e : Env) (R : Room) (s : State) (m : MethodId) (args : Array Value) (below : List Frame) (meth : Method) (c : Code) (bs : ByteArray) (ml : Nat) (ret : Option FieldType) (nm own : String) (Z : State) (a0 : Array Value) (EL : List (String × Nat)) (nw : Bool) (vm : Vm) (T : State) (h : Heap) (k n : Nat) : Prop :=
  (p.tables.exec = Jvm.exec ∧ c.code = bs ∧ c.maxLocals = ml ∧ meth.sig.returnType = ret ∧ meth.locks = false ∧ meth.name = nm ∧ EW Z a0 EL) ∧
  (∃ L, Stand p l e R (s.setVm vm) m args below meth c T L k n ∧ Fr Z.heap.size L) ∧ T.heap = h ∧ Z.Warmed39 vm ∧ vm.findClass own = some m.cls ∧ (∃ k0, s.Since vm k0 ∧ k0 ≤ h.size) ∧ CHr Z EL s.vm s.heap vm h ∧ Ext Z.heap h ∧ (nw = true → s.WarmedH vm ∧ ∀ y, Bk Z EL vm h y → Bk Z EL s.vm s.heap y)
/-- what a body leaves behind -/
def Fin (s : State) (Z : State) (EL : List (String × Nat)) (nw : Bool) (Q : Option Value → Heap → Prop) (K N : Nat) (o : Outcome) (U : State) : Prop :=
  ∃ v L, o = .returned v ∧ (Q v U.heap ∧ Fr Z.heap.size L ∧ Ext Z.heap U.heap) ∧ (CHr Z EL s.vm s.heap U.vm U.heap ∧ (nw = true → s.WarmedH U.vm ∧ ∀ y, Bk Z EL U.vm U.heap y → Bk Z EL s.vm s.heap y)) ∧ ReturnedEndW s o U L K N
/-- the contract of a body: the arguments, the heap at the call, the places that it may write though they be Strings or byte arrays, what comes back -/
def Met (l : Launch) (Z : State) (EL : List (String × Nat)) (nw : Bool) (y : MethodName) (bs : ByteArray) (ml : Nat) (ret : Option FieldType) (ws : List Jvm.Cond) (rm : Room) (as' : Array Value) (h : Heap) (xs : List Addr) (Q : Option Value → Heap → Prop) : Prop :=
  MetFree l y (head1 (Jvm.Cond.code y bs ml ret :: ws) rm) (fun a U => a = as' ∧ Z.Warmed39 U.vm ∧ U.heap = h ∧ CHv Z EL U.vm h ∧ ∀ x ∈ xs, Safe Z EL U.vm h x) (fun _ _ _ _ _ => True)
    (fun _ U o U' => Fin U Z EL nw Q rm.cells rm.slots o U')
variable {p : Program} {l : Launch} {e : Env} {R : Room} {s : State} {m : MethodId} {args : Array Value} {below : List Frame} {meth : Method} {c : Code}
variable {bs : ByteArray} {ml : Nat} {ret : Option FieldType} {nm own : String} {Z : State} {a0 : Array Value} {EL : List (String × Nat)} {nw : Bool} {vm : Vm} {T T' : State} {h h' : Heap} {k n k' n' : Nat} {F : Outcome → State → Prop} {pc pc' : Nat} {Ls : Array Slot} {rest : List Value} {g g' : JFrame} {Q : Option Value → Heap → Prop}
theorem Endw.st (q : ∀ t, Steps p.tables e below (T'.setTop g') t → Steps p.tables e below (T.setTop g) t) (E : Endw p e below T' g' F) : Endw p e below T g F := by
  obtain ⟨s₂, o, h1, h2⟩ := E; exact ⟨s₂, o, q _ h1, h2⟩
theorem Endw.ste (q : Steps p.tables e below (T.setTop g) (T'.setTop g')) (E : Endw p e below T' g' F) : Endw p e below T g F := Endw.st (fun _ r => q.trans r) E
theorem Endw.eq (q : g = g') (E : Endw p e below T g' F) : Endw p e below T g F := q ▸ E
section Reads
theorem Core.hx (C : Core p l e R s m args below meth c bs ml ret nm own Z a0 EL nw vm T h k n) : p.tables.exec = Jvm.exec := C.1.1
theorem Core.dec (C : Core p l e R s m args below meth c bs ml ret nm own Z a0 EL nw vm T h k n) {r : Except DecodeError (Instr × Nat)} (hd : decode bs pc = r) : decode c.code pc = r := hb C.1.2.1 hd
theorem Core.mlq (C : Core p l e R s m args below meth c bs ml ret nm own Z a0 EL nw vm T h k n) : c.maxLocals = ml := C.1.2.2.1
theorem Core.rtq (C : Core p l e R s m args below meth c bs ml ret nm own Z a0 EL nw vm T h k n) : meth.sig.returnType = ret := C.1.2.2.2.1
theorem Core.locks (C : Core p l e R s m args below meth c bs ml ret nm own Z a0 EL nw vm T h k n) : meth.locks = false := C.1.2.2.2.2.1
theorem Core.nam (C : Core p l e R s m args below meth c bs ml ret nm own Z a0 EL nw vm T h k n) : meth.name = nm := C.1.2.2.2.2.2.1
theorem Core.ew (C : Core p l e R s m args below meth c bs ml ret nm own Z a0 EL nw vm T h k n) : EW Z a0 EL := C.1.2.2.2.2.2.2
theorem Core.here (C : Core p l e R s m args below meth c bs ml ret nm own Z a0 EL nw vm T h k n) : At T m c below := by obtain ⟨-, ⟨_, X, -⟩, -⟩ := C; exact X.here
theorem Core.heq (C : Core p l e R s m args below meth c bs ml ret nm own Z a0 EL nw vm T h k n) : T.heap = h := C.2.2.1
theorem Core.warm (C : Core p l e R s m args below meth c bs ml ret nm own Z a0 EL nw vm T h k n) : Z.Warmed39 vm := C.2.2.2.1
theorem Core.hown (C : Core p l e R s m args below meth c bs ml ret nm own Z a0 EL nw vm T h k n) : vm.findClass own = some m.cls := C.2.2.2.2.1
theorem Core.since (C : Core p l e R s m args below meth c bs ml ret nm own Z a0 EL nw vm T h k n) : ∃ k0, s.Since vm k0 ∧ k0 ≤ h.size := C.2.2.2.2.2.1
theorem Core.chr (C : Core p l e R s m args below meth c bs ml ret nm own Z a0 EL nw vm T h k n) : CHr Z EL s.vm s.heap vm h := C.2.2.2.2.2.2.1
theorem Core.chv (C : Core p l e R s m args below meth c bs ml ret nm own Z a0 EL nw vm T h k n) : CHv Z EL vm h := C.chr.1
theorem Core.old (C : Core p l e R s m args below meth c bs ml ret nm own Z a0 EL nw vm T h k n) : Ext Z.heap h := C.2.2.2.2.2.2.2.1
theorem Core.nwm (C : Core p l e R s m args below meth c bs ml ret nm own Z a0 EL nw vm T h k n) : nw = true → s.WarmedH vm ∧ ∀ y, Bk Z EL vm h y → Bk Z EL s.vm s.heap y := C.2.2.2.2.2.2.2.2
theorem Core.le (C : Core p l e R s m args below meth c bs ml ret nm own Z a0 EL nw vm T h k n) : Z.heap.size ≤ h.size := C.old.1
end Reads
theorem CHr.step (A : CHr Z EL s.vm s.heap vm h) (B : CHr Z EL vm h vm h') : CHr Z EL s.vm s.heap vm h' := A.trans B
theorem old_keep {ws : List Addr} (O : Ext Z.heap h) (K : Keep h h' ws) (q : ∀ x ∈ ws, Z.heap.size ≤ x) : Ext Z.heap h' :=
  ⟨Nat.le_trans O.1 K.1, fun x c r => K.2.1 x c (O.2 x c r) fun z => absurd (Array.getElem?_eq_some_iff.mp r).1 (Nat.not_lt.mpr (q x z))⟩
theorem keep_of_ext (E : Ext h h') : Keep h h' [] := (Keep.refl h []).ext E
/-- the walk goes on with the same tables behind a step that keeps all but ws -/
theorem Core.on (C : Core p l e R s m args below meth c bs ml ret nm own Z a0 EL nw vm T h k n) {ws : List Addr} {L' : List Loc} (X' : Stand p l e R (s.setVm vm) m args below meth c T' L' k' n') (N : Fr Z.heap.size L') (e' : T'.heap = h') (K : Keep h h' ws) (q : ∀ x ∈ ws, Z.heap.size ≤ x) (S : ∀ x ∈ ws, Safe Z EL vm h x) :
    Core p l e R s m args below meth c bs ml ret nm own Z a0 EL nw vm T' h' k' n' :=
  ⟨C.1, ⟨L', X', N⟩, e', C.warm, C.hown, by obtain ⟨k0, h1, h2⟩ := C.since; exact ⟨k0, h1, Nat.le_trans h2 K.1⟩, CHr.step C.chr (CHr.keep K S C.chv), old_keep C.old K q, fun z => ⟨(C.nwm z).1, fun y b => (C.nwm z).2 y ((CHv.keepStep K S C.chv).2 y b)⟩⟩
theorem Core.same (C : Core p l e R s m args below meth c bs ml ret nm own Z a0 EL nw vm T h k n) {L' : List Loc} (X' : Stand p l e R (s.setVm vm) m args below meth c T' L' k' n') (N : Fr Z.heap.size L') (e' : T'.heap = h) :
    Core p l e R s m args below meth c bs ml ret nm own Z a0 EL nw vm T' h k' n' :=
  C.on (ws := []) X' N e' (Keep.refl _ _) all0 sf0
theorem Core.more (C : Core p l e R s m args below meth c bs ml ret nm own Z a0 EL nw vm T h k n) (hk : k ≤ k') (hn : n ≤ n') : Core p l e R s m args below meth c bs ml ret nm own Z a0 EL nw vm T h k' n' := by
  obtain ⟨h1, ⟨L, X, N⟩, r⟩ := C; exact ⟨h1, ⟨L, X.more hk hn, N⟩, r⟩
/-! ## steps -/
theorem Core.getF (C : Core p l e R s m args below meth c bs ml ret nm own Z a0 EL nw vm T h k n) {O nm' d : String} {ix : Nat} {a : Addr} {v : Value} (w : (Jvm.Cond.fieldLink own ix O nm' d).before a0 Z = true) (f : Fld Z h a O nm' d v) (hd : decode bs pc = .ok (.getfield ix, 3)) (hp : pc + 3 = pc')
    (K : ∀ T', Core p l e R s m args below meth c bs ml ret nm own Z a0 EL nw vm T' h k n → Endw p e below T' (mkF m pc' Ls (v :: rest)) F) : Endw p e below T (mkF m pc Ls (.ref a :: rest)) F := by
  subst hp
  obtain ⟨-, ⟨L, X, N⟩, -⟩ := id C
  obtain ⟨T', X', e', st⟩ := RoadKit.getF X C.hx C.warm C.hown (host := "") (Or.inl w) Via.refl C.heq f (g := mkF m pc Ls (.ref a :: rest)) rfl rfl (C.dec hd)
  exact Endw.st st (K T' (C.same X' N e'))
theorem Core.getFN (C : Core p l e R s m args below meth c bs ml ret nm own Z a0 EL nw vm T h k n) {O nm' d host : String} {ix : Nat} {a : Addr} {v : Value} (w : (Jvm.Cond.fieldLinkNest own ix O nm' d host).before a0 Z = true) (f : Fld Z h a O nm' d v) (hd : decode bs pc = .ok (.getfield ix, 3)) (hp : pc + 3 = pc')
    (K : ∀ T', Core p l e R s m args below meth c bs ml ret nm own Z a0 EL nw vm T' h k n → Endw p e below T' (mkF m pc' Ls (v :: rest)) F) : Endw p e below T (mkF m pc Ls (.ref a :: rest)) F := by
  subst hp
  obtain ⟨-, ⟨L, X, N⟩, -⟩ := id C
  obtain ⟨T', X', e', st⟩ := RoadKit.getF X C.hx C.warm C.hown (Or.inr w) Via.refl C.heq f (g := mkF m pc Ls (.ref a :: rest)) rfl rfl (C.dec hd)
  exact Endw.st st (K T' (C.same X' N e'))
theorem Core.getFV (C : Core p l e R s m args below meth c bs ml ret nm own Z a0 EL nw vm T h k n) {R0 O nm' d : String} {ix : Nat} {a : Addr} {v : Value} (w : (Jvm.Cond.fieldLink own ix R0 nm' d).before a0 Z = true) (via : Via Z R0 O nm' d) (f : Fld Z h a O nm' d v) (hd : decode bs pc = .ok (.getfield ix, 3)) (hp : pc + 3 = pc')
    (K : ∀ T', Core p l e R s m args below meth c bs ml ret nm own Z a0 EL nw vm T' h k n → Endw p e below T' (mkF m pc' Ls (v :: rest)) F) : Endw p e below T (mkF m pc Ls (.ref a :: rest)) F := by
  subst hp
  obtain ⟨-, ⟨L, X, N⟩, -⟩ := id C
  obtain ⟨T', X', e', st⟩ := RoadKit.getF X C.hx C.warm C.hown (host := "") (Or.inl w) via C.heq f (g := mkF m pc Ls (.ref a :: rest)) rfl rfl (C.dec hd)
  exact Endw.st st (K T' (C.same X' N e'))
theorem Core.getS (C : Core p l e R s m args below meth c bs ml ret nm own Z a0 EL nw vm T h k n) {O nm' d : String} {ix : Nat} {v : Value} (w : (Jvm.Cond.fieldLink own ix O nm' d).before a0 Z = true) (f : Sta Z Z.heap O nm' d v) (hd : decode bs pc = .ok (.getstatic ix, 3)) (hp : pc + 3 = pc')
    (K : ∀ T', Core p l e R s m args below meth c bs ml ret nm own Z a0 EL nw vm T' h k n → Endw p e below T' (mkF m pc' Ls (v :: rest)) F) : Endw p e below T (mkF m pc Ls rest) F := by
  subst hp
  obtain ⟨-, ⟨L, X, N⟩, -⟩ := id C
  obtain ⟨T', X', e', st⟩ := RoadKit.getS X C.hx C.warm C.hown (host := "") w Via.refl C.heq (f.ext C.old) (g := mkF m pc Ls rest) rfl (C.dec hd)
  exact Endw.st st (K T' (C.same X' N e'))
theorem Core.putF (C : Core p l e R s m args below meth c bs ml ret nm own Z a0 EL nw vm T h k n) {O nm' d Cl : String} {ix kk : Nat} {a : Addr} {v old : Value} {ty : FieldType} (w : (Jvm.Cond.fieldLink own ix O nm' d).before a0 Z = true) (f : Fld Z h a O nm' d old) (E : Exa Z h a Cl) (la : (Jvm.Cond.lays Cl O nm' d).before a0 Z = true ∨ ((Jvm.Cond.laysFinal Cl O nm' d).before a0 Z = true ∧ own = O ∧ nm = "<init>")) (wi : (Jvm.Cond.instantiable Cl kk).before a0 Z = true)
    (hty : parseFieldDescriptor d = some ty) (hn : narrow ty v = v) (hf : fits ty v = true) (ge : Z.heap.size ≤ a) (sf : Safe Z EL vm h a) (hd : decode bs pc = .ok (.putfield ix, 3)) (hp : pc + 3 = pc')
    (K : ∀ T' h', Core p l e R s m args below meth c bs ml ret nm own Z a0 EL nw vm T' h' k n → Keep h h' [a] → CHr Z EL vm h vm h' → Wr h h' a (RoadKit.slotOf Z O nm' d) v → Endw p e below T' (mkF m pc' Ls rest) F) : Endw p e below T (mkF m pc Ls (v :: .ref a :: rest)) F := by
  subst hp
  obtain ⟨-, ⟨L, X, N⟩, -⟩ := id C
  obtain ⟨T', h', X', e', W, st⟩ := RoadKit.putF X C.hx C.warm C.hown (host := "") (Or.inl w) Via.refl C.heq f E (la.imp id fun q => ⟨q.1, q.2.1, C.nam.trans q.2.2⟩) wi hty hn hf (g := mkF m pc Ls (v :: .ref a :: rest)) rfl rfl (C.dec hd)
  exact Endw.st st (K T' h' (C.on (ws := [a]) X' (N.app fun y hy => by cases List.mem_singleton.mp hy; exact ge) e' (Keep.of_wr W) (allS ge all0) (sfS sf sf0)) (Keep.of_wr W) (CHr.keep (Keep.of_wr W) (sfS sf sf0) C.chv) W)
theorem Core.new (C : Core p l e R s m args below meth c bs ml ret nm own Z a0 EL nw vm T h k n) {Cl : String} {ix nn : Nat} (w : (Jvm.Cond.classLink own ix Cl).before a0 Z = true) (wi : (Jvm.Cond.instantiable Cl nn).before a0 Z = true) (wz : (Jvm.Cond.initialized Cl).before a0 Z = true) (hd : decode bs pc = .ok (.new ix, 3)) (hp : pc + 3 = pc') (hk : k + 1 ≤ R.cells) (hn : n + nn ≤ R.slots)
    (K : ∀ T' h' x, Core p l e R s m args below meth c bs ml ret nm own Z a0 EL nw vm T' h' (k + 1) (n + nn) → Keep h h' [] → CHr Z EL vm h vm h' → h.size ≤ x → Z.heap.size ≤ x → Exa Z h' x Cl → (∀ {O nm d : String} {ty : FieldType}, Laid Z a0 Cl O nm d → parseFieldDescriptor d = some ty → Fld Z h' x O nm d (defaultValue ty)) → Safe Z EL vm h' x → Endw p e below T' (mkF m pc' Ls (.ref x :: rest)) F) : Endw p e below T (mkF m pc Ls rest) F := by
  subst hp
  obtain ⟨-, ⟨L, X, N⟩, -⟩ := id C
  obtain ⟨T', h', X', e', E, A, D, -, st⟩ := RoadKit.newO X C.hx C.warm C.hown w wi wz C.heq (g := mkF m pc Ls rest) rfl (C.dec hd) hk hn
  exact Endw.st st (K T' h' h.size (C.on (ws := []) X' N e' (keep_of_ext E) all0 sf0) (keep_of_ext E) (CHr.keep (keep_of_ext E) sf0 C.chv) (Nat.le_refl _) C.le A D (Safe.ext E C.chv (Safe.new (Nat.le_refl _))))
theorem Core.newA (C : Core p l e R s m args below meth c bs ml ret nm own Z a0 EL nw vm T h k n) {aty : ArrayType} {z : Int32} {cap : Nat} {vs : List Value} (w : (Jvm.Cond.arrayClass (newarray.typeOf aty)).before a0 Z = true) (hd : decode bs pc = .ok (.newarray aty, 2)) (hp : pc + 2 = pc') (hz : ¬ z < 0) (hcap : z.toNatClampNeg ≤ cap) (hb : cap * 8 ≤ 536870912) (hk : k + 1 ≤ R.cells) (hn : n + cap ≤ R.slots) (hvs : vs = List.replicate vs.length (defaultValue (newarray.typeOf aty)))
    (K : ∀ T' h' x kA, Core p l e R s m args below meth c bs ml ret nm own Z a0 EL nw vm T' h' (k + 1) (n + cap) → Keep h h' [] → CHr Z EL vm h vm h' → h.size ≤ x → Z.heap.size ≤ x → Arv Z h' x kA (newarray.typeOf aty) z vs (defaultValue (newarray.typeOf aty)) → Safe Z EL vm h' x → Endw p e below T' (mkF m pc' Ls (.ref x :: rest)) F) : Endw p e below T (mkF m pc Ls (.int z :: rest)) F := by
  subst hp
  obtain ⟨-, ⟨L, X, N⟩, -⟩ := id C
  obtain ⟨T', h', cA, X', e', E, A, st⟩ := RoadKit.newP X C.hx C.warm w C.heq (g := mkF m pc Ls (.int z :: rest)) rfl (C.dec hd) rfl hz hcap hb hk hn
  have q := (Arv.new A hz).pad (vs' := [] ++ List.replicate vs.length (defaultValue (newarray.typeOf aty))) (pad_rep _ _ _)
  rw [List.nil_append, ← hvs] at q
  exact Endw.st st (K T' h' h.size cA (C.on (ws := []) X' N e' (keep_of_ext E) all0 sf0) (keep_of_ext E) (CHr.keep (keep_of_ext E) sf0 C.chv) (Nat.le_refl _) C.le q (Safe.ext E C.chv (Safe.new (Nat.le_refl _))))
theorem Core.len (C : Core p l e R s m args below meth c bs ml ret nm own Z a0 EL nw vm T h k n) {a : Addr} {kA : ClassId} {ty : FieldType} {z : Int32} {vs : List Value} {dv : Value} (A : Arv Z h a kA ty z vs dv) (hd : decode bs pc = .ok (.arraylength, 1)) (hp : pc + 1 = pc')
    (K : Endw p e below T (mkF m pc' Ls (.int z :: rest)) F) : Endw p e below T (mkF m pc Ls (.ref a :: rest)) F := by
  subst hp
  obtain ⟨-, ⟨L, X, N⟩, -⟩ := id C
  obtain ⟨cl, Ar, -, S, hz, -⟩ := A
  refine Endw.st (fun t r => X.arraylength C.hx (by rw [C.heq]; exact Ar.1) (State.isArrayOf_alike C.warm.alike Ar.2.1) (g := mkF m pc Ls (.ref a :: rest)) rfl rfl (C.dec hd) t r) ?_
  rw [len_of S hz]; exact K
theorem Core.caload (C : Core p l e R s m args below meth c bs ml ret nm own Z a0 EL nw vm T h k n) {a : Addr} {kA : ClassId} {z j : Int32} {vs : List Value} {dv v : Value} (A : Arv Z h a kA .char z vs dv) (hj : ¬ j < 0 ∧ j < z) (hv : vs.getD j.toNatClampNeg dv = v) (hd : decode bs pc = .ok (.caload, 1)) (hp : pc + 1 = pc')
    (K : Endw p e below T (mkF m pc' Ls (v :: rest)) F) : Endw p e below T (mkF m pc Ls (.int j :: .ref a :: rest)) F := by
  subst hp
  obtain ⟨-, ⟨L, X, N⟩, -⟩ := id C
  obtain ⟨cl, Ar, -, S, hz, H, -⟩ := A
  exact Endw.st (fun t r => X.caload C.hx (by rw [C.heq]; exact Ar.1) (State.isArrayOf_alike C.warm.alike Ar.2.1) Ar.2.2 (inb_of S hj) (H.at (inb_of S hj) hv) (g := mkF m pc Ls (.int j :: .ref a :: rest)) rfl rfl (C.dec hd) t r) K
theorem Core.baload (C : Core p l e R s m args below meth c bs ml ret nm own Z a0 EL nw vm T h k n) {a : Addr} {kA : ClassId} {z j : Int32} {vs : List Value} {dv v : Value} (A : Arv Z h a kA .byte z vs dv) (hj : ¬ j < 0 ∧ j < z) (hv : vs.getD j.toNatClampNeg dv = v) (hd : decode bs pc = .ok (.baload, 1)) (hp : pc + 1 = pc')
    (K : Endw p e below T (mkF m pc' Ls (v :: rest)) F) : Endw p e below T (mkF m pc Ls (.int j :: .ref a :: rest)) F := by
  subst hp
  obtain ⟨-, ⟨L, X, N⟩, -⟩ := id C
  obtain ⟨cl, Ar, -, S, hz, H, -⟩ := A
  exact Endw.st (fun t r => X.baloadBytes C.hx (by rw [C.heq]; exact Ar.1) (State.isArrayOf_alike C.warm.alike Ar.2.1) Ar.2.2 (inb_of S hj) (H.at (inb_of S hj) hv) (g := mkF m pc Ls (.int j :: .ref a :: rest)) rfl rfl (C.dec hd) t r) K
theorem Core.aaload (C : Core p l e R s m args below meth c bs ml ret nm own Z a0 EL nw vm T h k n) {a : Addr} {kA : ClassId} {ty : FieldType} {z j : Int32} {vs : List Value} {dv v : Value} (A : Arv Z h a kA ty z vs dv) (hty : ty.isReference = true) (hj : ¬ j < 0 ∧ j < z) (hv : vs.getD j.toNatClampNeg dv = v) (hd : decode bs pc = .ok (.aaload, 1)) (hp : pc + 1 = pc')
    (K : Endw p e below T (mkF m pc' Ls (v :: rest)) F) : Endw p e below T (mkF m pc Ls (.int j :: .ref a :: rest)) F := by
  subst hp
  obtain ⟨-, ⟨L, X, N⟩, -⟩ := id C
  obtain ⟨cl, Ar, -, S, hz, H, -⟩ := A
  exact Endw.st (fun t r => X.aaload C.hx (by rw [C.heq]; exact Ar.1) (State.isArrayOf_alike C.warm.alike Ar.2.1) hty Ar.2.2 (inb_of S hj) (H.at (inb_of S hj) hv) (g := mkF m pc Ls (.int j :: .ref a :: rest)) rfl rfl (C.dec hd) t r) K
theorem Core.castore (C : Core p l e R s m args below meth c bs ml ret nm own Z a0 EL nw vm T h k n) {a : Addr} {kA : ClassId} {z j x x' : Int32} {vs vs' : List Value} {dv : Value} (A : Arv Z h a kA .char z vs dv) (hj : ¬ j < 0 ∧ j < z) (i : Nat) (hi : j.toNatClampNeg = i) (hl : i < vs.length) (hx' : nar .char x = x') (ge : Z.heap.size ≤ a) (hvs : vs.set i (.int x') = vs') (hd : decode bs pc = .ok (.castore, 1)) (hp : pc + 1 = pc')
    (K : ∀ T' h', Core p l e R s m args below meth c bs ml ret nm own Z a0 EL nw vm T' h' k n → Keep h h' [a] → CHr Z EL vm h vm h' → Arv Z h' a kA .char z vs' dv → Endw p e below T' (mkF m pc' Ls rest) F) : Endw p e below T (mkF m pc Ls (.int x :: .int j :: .ref a :: rest)) F := by
  subst hp hx' hvs
  obtain ⟨-, ⟨L, X, N⟩, -⟩ := id C
  have sf : Safe Z EL vm h a := Safe.arv C.warm.alike A (by decide)
  obtain ⟨cl, Ar, q1, S, hz, H, G⟩ := A
  obtain ⟨T', h', X', e', W, st⟩ := RoadKit.stC X C.hx C.warm C.heq Ar (inb_of S hj) (g := mkF m pc Ls (.int x :: .int j :: .ref a :: rest)) rfl rfl (C.dec hd)
  exact Endw.st st (K T' h' (C.on (ws := [a]) X' (N.app fun y hy => by cases List.mem_singleton.mp hy; exact ge) e' (Keep.of_wr W) (allS ge all0) (sfS sf sf0)) (Keep.of_wr W) (CHr.keep (Keep.of_wr W) (sfS sf sf0) C.chv) (Arv.set Ar q1 S hz H G (fits_nar_char _) W i hi hl))
theorem Core.bastore (C : Core p l e R s m args below meth c bs ml ret nm own Z a0 EL nw vm T h k n) {a : Addr} {kA : ClassId} {z j x x' : Int32} {vs vs' : List Value} {dv : Value} (A : Arv Z h a kA .byte z vs dv) (hj : ¬ j < 0 ∧ j < z) (i : Nat) (hi : j.toNatClampNeg = i) (hl : i < vs.length) (hx' : nar .byte x = x') (ge : Z.heap.size ≤ a) (sf : Safe Z EL vm h a) (hvs : vs.set i (.int x') = vs') (hd : decode bs pc = .ok (.bastore, 1)) (hp : pc + 1 = pc')
    (K : ∀ T' h', Core p l e R s m args below meth c bs ml ret nm own Z a0 EL nw vm T' h' k n → Keep h h' [a] → CHr Z EL vm h vm h' → Arv Z h' a kA .byte z vs' dv → Endw p e below T' (mkF m pc' Ls rest) F) : Endw p e below T (mkF m pc Ls (.int x :: .int j :: .ref a :: rest)) F := by
  subst hp hx' hvs
  obtain ⟨-, ⟨L, X, N⟩, -⟩ := id C
  obtain ⟨cl, Ar, q1, S, hz, H, G⟩ := A
  obtain ⟨T', h', X', e', W, st⟩ := RoadKit.stB X C.hx C.warm C.heq Ar (inb_of S hj) (g := mkF m pc Ls (.int x :: .int j :: .ref a :: rest)) rfl rfl (C.dec hd)
  exact Endw.st st (K T' h' (C.on (ws := [a]) X' (N.app fun y hy => by cases List.mem_singleton.mp hy; exact ge) e' (Keep.of_wr W) (allS ge all0) (sfS sf sf0)) (Keep.of_wr W) (CHr.keep (Keep.of_wr W) (sfS sf sf0) C.chv) (Arv.set Ar q1 S hz H G (fits_nar_byte _) W i hi hl))
/-- Object.<init> -/
theorem Core.initO (C : Core p l e R s m args below meth c bs ml ret nm own Z a0 EL nw vm T h k n) {ix : Nat} {a : Addr} (w1 : (Jvm.Cond.methodLink own ix Lib.objectInit).before a0 Z = true) (w2 : (Jvm.Cond.instanceMethod Lib.objectInit).before a0 Z = true) (w3 : (Jvm.Cond.code Lib.objectInit ⟨#[0xb1]⟩ 1 none).before a0 Z = true) (hsz : Ls.size = ml) (hd : decode bs pc = .ok (.invokespecial ix, 3)) (hp : pc + 3 = pc') (hf : 1 ≤ R.frames) {W : Nat} (hW : (rest.map fun v => v.category).sum ≤ W) (hl : W + 12 ≤ R.locals)
    (K : ∀ T', Core p l e R s m args below meth c bs ml ret nm own Z a0 EL nw vm T' h k n → Endw p e below T' (mkF m pc' Ls rest) F) : Endw p e below T (mkF m pc Ls (.ref a :: rest)) F := by
  subst hp
  obtain ⟨-, ⟨L, X, N⟩, -⟩ := id C
  obtain ⟨T', X', e', st⟩ := RoadKit.initO X C.hx C.warm C.hown w1 w2 w3 C.heq (g := mkF m pc Ls (.ref a :: rest)) rfl (hsz.trans C.mlq.symm) rfl (C.dec hd) hf (W := W) (by show 2 * 0 + _ ≤ _; omega) hl
  exact Endw.st st (K T' (C.same X' N e'))
/-! ## calls by a contract of ours -/
theorem backOwn {nw' : Bool} {y : MethodName} {bytes : ByteArray} {mx : Nat} {rt : Option FieldType} {rm : Room} {len W : Nat} {as' : Array Value} {xs : List Addr} (hM : Met l Z EL nw' y bytes mx rt [] rm as' h xs Q) (hZ : Z.Warmed39 vm) (wc : (Jvm.Cond.code y bytes mx rt).before a0 Z = true) (wz : (Jvm.Cond.initialized y.cls).before a0 Z = true) (hf : rm.frames + 1 ≤ R.frames) (hl : W + (mx + 11) + rm.locals ≤ R.locals) (hEL : EW Z a0 EL) (H : CHv Z EL vm h) (hs : ∀ x ∈ xs, x < h.size ∧ Safe Z EL vm h x) :
    BackS l R p e below (s.setVm vm) args y len W (fun A a => a = as' ∧ A.U.heap = h ∧ A.cells + rm.cells ≤ R.cells ∧ A.slots + rm.slots ≤ R.slots)
      (fun A _ v B => ∃ L, (Q v B.U.heap ∧ Fr Z.heap.size L ∧ Ext Z.heap B.U.heap) ∧ B.locs = A.locs ++ L ∧ B.cells = A.cells + rm.cells ∧ B.slots = A.slots + rm.slots ∧ CHr Z EL vm h B.U.vm B.U.heap ∧ (nw' = true → (s.setVm vm).WarmedH B.U.vm ∧ ∀ y, Bk Z EL B.U.vm B.U.heap y → Bk Z EL vm h y)) := by
  refine BackS.of_freeW (bytes := bytes) (maxL := mx) (ret := rt) (E := fun _ f o t L i j => i = rm.cells ∧ j = rm.slots ∧ (∃ v, o = .returned v ∧ Q v t.heap ∧ Fr Z.heap.size L ∧ Ext Z.heap t.heap) ∧ CHr Z EL f.vm f.heap t.vm t.heap ∧ (nw' = true → f.WarmedH t.vm ∧ ∀ y, Bk Z EL t.vm t.heap y → Bk Z EL f.vm f.heap y)) hM hf hl ?_ ?_ (fun _ _ _ _ _ _ _ _ _ => trivial) ?_ ?_
  · intro m' meth' c' A a Y hp
    have hU : Z.Warmed39 A.U.vm := wtrans (s := s.setVm vm) hZ Y.warmed
    refine ⟨?_, mv hU wc, mv hU wz, hp.2.2.1, hp.2.2.2⟩
    show (Jvm.Cond.and _ .tt).before a A.U = true
    rw [Cond.before_and, mv hU wc]; rfl
  · intro m' meth' c' A a g' mk Y hp
    have q := CHv.at Y hZ hEL H
    exact ⟨hp.1, wtrans (s := s.setVm vm) hZ Y.warmed, hp.2.1, q.1, fun x hx => q.safe (hs x hx).1 (hs x hx).2⟩
  · intro a f o t ⟨v, L, h1, h2, h3, h4⟩
    exact ⟨L, _, _, h4, rfl, rfl, ⟨v, h1, h2⟩, h3.1, h3.2⟩
  · intro m' meth' c' A a g' mk v t L i j Y hp _ _ q
    obtain ⟨rfl, rfl, ⟨v', e1, e2⟩, e3, e5⟩ := q
    cases e1
    refine ⟨L, e2, rfl, rfl, rfl, (CHv.at Y hZ hEL H).trans ?_, fun z => ⟨State.WarmedH.trans Y.warmed (e5 z).1, fun y' b => ?_⟩⟩
    · have e4 : CHr Z EL A.U.vm A.U.heap t.vm t.heap := e3
      rw [hp.2.1] at e4; exact e4
    · have b1 : Bk Z EL A.U.vm A.U.heap y' := (e5 z).2 y' b
      rw [hp.2.1] at b1
      rcases (CHv.at Y hZ hEL H).2.2 y' b1 with q | q
      · exact q
      · obtain ⟨c0, hc0⟩ := Bk.there b1; exact absurd (Array.getElem?_eq_some_iff.mp hc0).1 (Nat.not_lt.mpr q)
/-- behind a call by such a contract -/
theorem Core.behind (C : Core p l e R s m args below meth c bs ml ret nm own Z a0 EL nw vm T h k n) {B : Pt} {L L' : List Loc} (X' : Stand p l e R ((s.setVm vm).setVm B.U.vm) m args below meth c B.U B.locs B.cells B.slots) (h2 : (s.setVm vm).Since B.U.vm B.U.heap.size) (N : Fr Z.heap.size L) (N' : Fr Z.heap.size L') (O : Ext Z.heap B.U.heap) (e1 : B.locs = L ++ L') (e2 : B.cells = k') (e3 : B.slots = n') (A : CHr Z EL vm h B.U.vm B.U.heap) (M : nw = true → (s.setVm vm).WarmedH B.U.vm ∧ ∀ y, Bk Z EL B.U.vm B.U.heap y → Bk Z EL vm h y) :
    Core p l e R s m args below meth c bs ml ret nm own Z a0 EL nw B.U.vm B.U B.U.heap k' n' := by
  subst e2 e3
  obtain ⟨k0, hS, hk⟩ := C.since
  obtain ⟨r1, r2, r3, r4⟩ := rebS hS hk X' h2 A.2.1 C.warm C.hown
  exact ⟨C.1, ⟨_, r1, e1 ▸ N.app N'⟩, rfl, r3, r4, ⟨_, r2, Nat.le_refl _⟩, C.chr.trans A, O, fun z => ⟨State.WarmedH.trans (C.nwm z).1 (M z).1, fun y b => (C.nwm z).2 y ((M z).2 y b)⟩⟩
theorem Core.special (C : Core p l e R s m args below meth c bs ml ret nm own Z a0 EL nw vm T h k n) {nw' : Bool} {y : MethodName} {ix : Nat} {bytes : ByteArray} {mx : Nat} {rm : Room} {xs : List Addr} {W : Nat} {a : Addr} {argsL st : List Value} {as' : Array Value} (hy1 : y.name = "<init>")
    (w1 : (Jvm.Cond.methodLink own ix y).before a0 Z = true) (w2 : (Jvm.Cond.instanceMethod y).before a0 Z = true) (w3 : (Jvm.Cond.code y bytes mx none).before a0 Z = true) (w4 : (Jvm.Cond.initialized y.cls).before a0 Z = true) (hy : y.cls ≠ "java/lang/invoke/MethodHandle" ∧ y.cls ≠ "java/lang/invoke/VarHandle")
    (hM : Met l Z EL nw' y bytes mx none [] rm as' h xs Q) (hnn : nw = true → nw' = true) (has : as' = (.ref a :: argsL).toArray) (hs : ∀ x ∈ xs, x < h.size ∧ Safe Z EL vm h x) (hf : rm.frames + 1 ≤ R.frames) (hl : W + (mx + 11) + rm.locals ≤ R.locals) (hk : k + rm.cells ≤ R.cells) (hn : n + rm.slots ≤ R.slots)
    (hlen : ∀ sig, parseMethodDescriptor y.desc = some sig → argsL.length = sig.parameters.length) (hst : st = argsL.reverse ++ .ref a :: rest) (hW : (rest.map fun v => v.category).sum ≤ W) (hsz : Ls.size = ml) (hd : decode bs pc = .ok (.invokespecial ix, 3)) (hp : pc + 3 = pc')
    (K : ∀ vm' T' h' v, Core p l e R s m args below meth c bs ml ret nm own Z a0 EL nw vm' T' h' (k + rm.cells) (n + rm.slots) → CHr Z EL vm h vm' h' → (nw' = true → ∀ y, Bk Z EL vm' h' y → Bk Z EL vm h y) → Q v h' → Endw p e below T' (mkF m pc' Ls (v.toList ++ rest)) F) : Endw p e below T (mkF m pc Ls st) F := by
  subst hp has
  obtain ⟨-, ⟨L, X, N⟩, -⟩ := id C
  obtain ⟨v, vm₁, B, -, X', h2, -, ⟨L', ⟨q1, q2, q3⟩, e1, e2, e3, A, M⟩, st'⟩ := X.specialBackS C.hx (y := y) hy1 C.hown (mvT C.warm w1) (mvT C.warm w2) (mvT C.warm w3) hy (backOwn (W := W) hM C.warm w3 w4 hf hl C.ew C.chv hs) (g := mkF m pc Ls st) rfl (hsz.trans C.mlq.symm) (Steps.refl _) (a := a) (argsL := argsL) (rest := rest) hlen hst (by show 2 * 0 + _ ≤ _; omega) (C.dec hd) (fun _ _ => ⟨rfl, C.heq, hk, hn⟩)
  exact Endw.ste st' (K _ _ _ v (C.behind X' h2 N q2 q3 e1 e2 e3 A (fun z => M (hnn z))) A (fun z => (M z).2) q1)
theorem Core.static (C : Core p l e R s m args below meth c bs ml ret nm own Z a0 EL nw vm T h k n) {nw' : Bool} {y : MethodName} {ix : Nat} {bytes : ByteArray} {mx : Nat} {rt : Option FieldType} {rm : Room} {xs : List Addr} {W : Nat} {argsL st : List Value} {as' : Array Value}
    (w1 : (Jvm.Cond.methodLink own ix y).before a0 Z = true) (w2 : (Jvm.Cond.static y).before a0 Z = true) (w3 : (Jvm.Cond.code y bytes mx rt).before a0 Z = true) (w4 : (Jvm.Cond.initialized y.cls).before a0 Z = true) (hy : y.cls ≠ "java/lang/invoke/MethodHandle" ∧ y.cls ≠ "java/lang/invoke/VarHandle")
    (hM : Met l Z EL nw' y bytes mx rt [] rm as' h xs Q) (hnn : nw = true → nw' = true) (has : as' = argsL.toArray) (hs : ∀ x ∈ xs, x < h.size ∧ Safe Z EL vm h x) (hf : rm.frames + 1 ≤ R.frames) (hl : W + (mx + 11) + rm.locals ≤ R.locals) (hk : k + rm.cells ≤ R.cells) (hn : n + rm.slots ≤ R.slots)
    (hlen : ∀ sig, parseMethodDescriptor y.desc = some sig → argsL.length = sig.parameters.length) (hst : st = argsL.reverse ++ rest) (hW : (rest.map fun v => v.category).sum ≤ W) (hsz : Ls.size = ml) (hd : decode bs pc = .ok (.invokestatic ix, 3)) (hp : pc + 3 = pc')
    (K : ∀ vm' T' h' v, Core p l e R s m args below meth c bs ml ret nm own Z a0 EL nw vm' T' h' (k + rm.cells) (n + rm.slots) → CHr Z EL vm h vm' h' → (nw' = true → ∀ y, Bk Z EL vm' h' y → Bk Z EL vm h y) → Q v h' → Endw p e below T' (mkF m pc' Ls (v.toList ++ rest)) F) : Endw p e below T (mkF m pc Ls st) F := by
  subst hp has
  obtain ⟨-, ⟨L, X, N⟩, -⟩ := id C
  obtain ⟨v, vm₁, B, -, X', h2, -, ⟨L', ⟨q1, q2, q3⟩, e1, e2, e3, A, M⟩, st'⟩ := RoadKit.callSS X C.hx (y := y) C.hown (mvT C.warm w1) (mvT C.warm w2) (mvT C.warm w4) (mvT C.warm w3) hy (backOwn (W := W) hM C.warm w3 w4 hf hl C.ew C.chv hs) (g := mkF m pc Ls st) rfl (hsz.trans C.mlq.symm) (argsL := argsL) (rest := rest) hlen hst (by show 2 * 0 + _ ≤ _; omega) (C.dec hd) (fun _ _ => ⟨rfl, C.heq, hk, hn⟩)
  exact Endw.ste st' (K _ _ _ v (C.behind X' h2 N q2 q3 e1 e2 e3 A (fun z => M (hnn z))) A (fun z => (M z).2) q1)
theorem Core.virtual (C : Core p l e R s m args below meth c bs ml ret nm own Z a0 EL nw vm T h k n) {nw' : Bool} {y z : MethodName} {Cl : String} {ix : Nat} {bytes : ByteArray} {mx : Nat} {rt : Option FieldType} {rm : Room} {xs : List Addr} {W : Nat} {a : Addr} {argsL st : List Value} {as' : Array Value}
    (w1 : (Jvm.Cond.methodLink own ix y).before a0 Z = true) (w2 : (Jvm.Cond.declares y).before a0 Z = true) (hnf : ∀ U : State, Z.Warmed39 U.vm → NotFace U y) (w5 : (Jvm.Cond.selects Cl y z).before a0 Z = true) (w6 : (Jvm.Cond.instanceMethod z).before a0 Z = true) (w3 : (Jvm.Cond.code z bytes mx rt).before a0 Z = true) (w4 : (Jvm.Cond.initialized z.cls).before a0 Z = true) (hy : y.cls ≠ "java/lang/invoke/MethodHandle" ∧ y.cls ≠ "java/lang/invoke/VarHandle")
    (hM : Met l Z EL nw' z bytes mx rt [] rm as' h xs Q) (hnn : nw = true → nw' = true) (has : as' = (.ref a :: argsL).toArray) (E : Exa Z h a Cl) (hs : ∀ x ∈ xs, x < h.size ∧ Safe Z EL vm h x) (hf : rm.frames + 1 ≤ R.frames) (hl : W + (mx + 11) + rm.locals ≤ R.locals) (hk : k + rm.cells ≤ R.cells) (hn : n + rm.slots ≤ R.slots)
    (hlen : ∀ sig, parseMethodDescriptor y.desc = some sig → argsL.length = sig.parameters.length) (hst : st = argsL.reverse ++ .ref a :: rest) (hW : (rest.map fun v => v.category).sum ≤ W) (hsz : Ls.size = ml) (hd : decode bs pc = .ok (.invokevirtual ix, 3)) (hp : pc + 3 = pc')
    (K : ∀ vm' T' h' v, Core p l e R s m args below meth c bs ml ret nm own Z a0 EL nw vm' T' h' (k + rm.cells) (n + rm.slots) → CHr Z EL vm h vm' h' → (nw' = true → ∀ y, Bk Z EL vm' h' y → Bk Z EL vm h y) → Q v h' → Endw p e below T' (mkF m pc' Ls (v.toList ++ rest)) F) : Endw p e below T (mkF m pc Ls st) F := by
  subst hp has
  obtain ⟨-, ⟨L, X, N⟩, -⟩ := id C
  obtain ⟨cq, kq, qa, qb, qc⟩ := isOf (s := s.setVm vm) C.warm C.heq E
  obtain ⟨v, vm₁, B, -, X', h2, -, ⟨L', ⟨q1, q2, q3⟩, e1, e2, e3, A, M⟩, st'⟩ := X.virtualBackS C.hx (y := y) (z := z) C.hown (mvT C.warm w1) (mvT C.warm w2) (hnf _ (show Z.Warmed39 (s.setVm vm).vm from C.warm)) (mvT C.warm w5) (mvT C.warm w6) hy (backOwn (W := W) hM C.warm w3 w4 hf hl C.ew C.chv hs) qa qc (g := mkF m pc Ls st) rfl (hsz.trans C.mlq.symm) (Steps.refl _) (argsL := argsL) (rest := rest) hlen hst (by show 2 * 0 + _ ≤ _; omega) (C.dec hd) (fun _ _ => ⟨rfl, C.heq, hk, hn⟩)
  exact Endw.ste st' (K _ _ _ v (C.behind X' h2 N q2 q3 e1 e2 e3 A (fun z => M (hnn z))) A (fun z => (M z).2) q1)
/-! ## calls by a law of the library's (it interns nothing) -/
theorem Core.behindF (C : Core p l e R s m args below meth c bs ml ret nm own Z a0 EL nw vm T h k n) {B : Pt} {L L' : List Loc} {ws : List Addr} (X' : Stand p l e R (s.setVm vm) m args below meth c B.U B.locs B.cells B.slots) (N : Fr Z.heap.size L) (N' : Fr Z.heap.size L') (K : Keep h B.U.heap ws) (ge : ∀ x ∈ ws, Z.heap.size ≤ x) (S : ∀ x ∈ ws, Safe Z EL vm h x) (e1 : B.locs = L ++ L') (e2 : B.cells = k') (e3 : B.slots = n') :
    Core p l e R s m args below meth c bs ml ret nm own Z a0 EL nw vm B.U B.U.heap k' n' := by
  subst e2 e3
  exact C.on X' (e1 ▸ N.app N') rfl K ge S
theorem Core.specialF (C : Core p l e R s m args below meth c bs ml ret nm own Z a0 EL nw vm T h k n) {y : MethodName} {ix : Nat} {bytes : ByteArray} {mx ck cn : Nat} {ws : List Addr} {W : Nat} {a : Addr} {argsL st : List Value} {as' : Array Value} {Qf : Option Value → Heap → List Loc → Prop} (hy1 : y.name = "<init>")
    (w1 : (Jvm.Cond.methodLink own ix y).before a0 Z = true) (w2 : (Jvm.Cond.instanceMethod y).before a0 Z = true) (w3 : (Jvm.Cond.code y bytes mx none).before a0 Z = true) (hy : y.cls ≠ "java/lang/invoke/MethodHandle" ∧ y.cls ≠ "java/lang/invoke/VarHandle")
    (hK : Back l R p e below (s.setVm vm) args y 3 W (fun P a => a = as' ∧ P.U.heap = h ∧ P.cells + ck ≤ R.cells ∧ P.slots + cn ≤ R.slots) (fun P _ v B => ∃ L, Qf v B.U.heap L ∧ B.locs = P.locs ++ L ∧ B.cells = P.cells + ck ∧ B.slots = P.slots + cn))
    (hQ : ∀ v h' L, Qf v h' L → Fr Z.heap.size L ∧ Keep h h' ws) (ge : ∀ x ∈ ws, Z.heap.size ≤ x) (S : ∀ x ∈ ws, Safe Z EL vm h x) (has : as' = (.ref a :: argsL).toArray) (hk : k + ck ≤ R.cells) (hn : n + cn ≤ R.slots)
    (hlen : ∀ sig, parseMethodDescriptor y.desc = some sig → argsL.length = sig.parameters.length) (hst : st = argsL.reverse ++ .ref a :: rest) (hW : (rest.map fun v => v.category).sum ≤ W) (hsz : Ls.size = ml) (hd : decode bs pc = .ok (.invokespecial ix, 3)) (hp : pc + 3 = pc')
    (K : ∀ T' h' v, Core p l e R s m args below meth c bs ml ret nm own Z a0 EL nw vm T' h' (k + ck) (n + cn) → Keep h h' ws → CHr Z EL vm h vm h' → (∃ L, Qf v h' L) → Endw p e below T' (mkF m pc' Ls (v.toList ++ rest)) F) : Endw p e below T (mkF m pc Ls st) F := by
  subst hp has
  obtain ⟨-, ⟨L, X, N⟩, -⟩ := id C
  obtain ⟨v, vm₁, B, -, X', ⟨L', q1, e1, e2, e3⟩, st'⟩ := X.specialBack C.hx (y := y) hy1 C.hown (mvT C.warm w1) (mvT C.warm w2) (mvT C.warm w3) hy hK (g := mkF m pc Ls st) rfl (hsz.trans C.mlq.symm) (Steps.refl _) (a := a) (argsL := argsL) (rest := rest) hlen hst (by show 2 * 0 + _ ≤ _; omega) (C.dec hd) (fun _ _ => ⟨rfl, C.heq, hk, hn⟩)
  obtain ⟨r1, r2⟩ := hQ _ _ _ q1
  exact Endw.ste st' (K _ _ v (C.behindF X' N r1 r2 ge S e1 e2 e3) r2 (CHr.keep r2 S C.chv) ⟨_, q1⟩)
theorem Core.staticF (C : Core p l e R s m args below meth c bs ml ret nm own Z a0 EL nw vm T h k n) {y : MethodName} {ix : Nat} {bytes : ByteArray} {mx ck cn : Nat} {rt : Option FieldType} {ws : List Addr} {W : Nat} {argsL st : List Value} {as' : Array Value} {Qf : Option Value → Heap → List Loc → Prop}
    (w1 : (Jvm.Cond.methodLink own ix y).before a0 Z = true) (w2 : (Jvm.Cond.static y).before a0 Z = true) (w3 : (Jvm.Cond.code y bytes mx rt).before a0 Z = true) (w4 : (Jvm.Cond.initialized y.cls).before a0 Z = true) (hy : y.cls ≠ "java/lang/invoke/MethodHandle" ∧ y.cls ≠ "java/lang/invoke/VarHandle")
    (hK : Back l R p e below (s.setVm vm) args y 3 W (fun P a => a = as' ∧ P.U.heap = h ∧ P.cells + ck ≤ R.cells ∧ P.slots + cn ≤ R.slots) (fun P _ v B => ∃ L, Qf v B.U.heap L ∧ B.locs = P.locs ++ L ∧ B.cells = P.cells + ck ∧ B.slots = P.slots + cn))
    (hQ : ∀ v h' L, Qf v h' L → Fr Z.heap.size L ∧ Keep h h' ws) (ge : ∀ x ∈ ws, Z.heap.size ≤ x) (S : ∀ x ∈ ws, Safe Z EL vm h x) (has : as' = argsL.toArray) (hk : k + ck ≤ R.cells) (hn : n + cn ≤ R.slots)
    (hlen : ∀ sig, parseMethodDescriptor y.desc = some sig → argsL.length = sig.parameters.length) (hst : st = argsL.reverse ++ rest) (hW : (rest.map fun v => v.category).sum ≤ W) (hsz : Ls.size = ml) (hd : decode bs pc = .ok (.invokestatic ix, 3)) (hp : pc + 3 = pc')
    (K : ∀ T' h' v, Core p l e R s m args below meth c bs ml ret nm own Z a0 EL nw vm T' h' (k + ck) (n + cn) → Keep h h' ws → CHr Z EL vm h vm h' → (∃ L, Qf v h' L) → Endw p e below T' (mkF m pc' Ls (v.toList ++ rest)) F) : Endw p e below T (mkF m pc Ls st) F := by
  subst hp has
  obtain ⟨-, ⟨L, X, N⟩, -⟩ := id C
  obtain ⟨v, vm₁, B, -, X', ⟨L', q1, e1, e2, e3⟩, st'⟩ := Jvm.LawKit.callS X C.hx (y := y) C.hown (mvT C.warm w1) (mvT C.warm w2) (mvT C.warm w4) (mvT C.warm w3) hy hK (g := mkF m pc Ls st) rfl (hsz.trans C.mlq.symm) (argsL := argsL) (rest := rest) hlen hst (by show 2 * 0 + _ ≤ _; omega) (C.dec hd) (fun _ _ => ⟨rfl, C.heq, hk, hn⟩)
  obtain ⟨r1, r2⟩ := hQ _ _ _ q1
  exact Endw.st st' (K _ _ v (C.behindF X' N r1 r2 ge S e1 e2 e3) r2 (CHr.keep r2 S C.chv) ⟨_, q1⟩)
theorem Core.virtualF (C : Core p l e R s m args below meth c bs ml ret nm own Z a0 EL nw vm T h k n) {y z : MethodName} {Cl : String} {ix ck cn : Nat} {ws : List Addr} {W : Nat} {a : Addr} {argsL st : List Value} {as' : Array Value} {Qf : Option Value → Heap → List Loc → Prop}
    (w1 : (Jvm.Cond.methodLink own ix y).before a0 Z = true) (w2 : (Jvm.Cond.declares y).before a0 Z = true) (hnf : ∀ U : State, Z.Warmed39 U.vm → NotFace U y) (w5 : (Jvm.Cond.selects Cl y z).before a0 Z = true) (w6 : (Jvm.Cond.instanceMethod z).before a0 Z = true) (hy : y.cls ≠ "java/lang/invoke/MethodHandle" ∧ y.cls ≠ "java/lang/invoke/VarHandle")
    (hK : Back l R p e below (s.setVm vm) args z 3 W (fun P a => a = as' ∧ P.U.heap = h ∧ P.cells + ck ≤ R.cells ∧ P.slots + cn ≤ R.slots) (fun P _ v B => ∃ L, Qf v B.U.heap L ∧ B.locs = P.locs ++ L ∧ B.cells = P.cells + ck ∧ B.slots = P.slots + cn))
    (hQ : ∀ v h' L, Qf v h' L → Fr Z.heap.size L ∧ Keep h h' ws) (ge : ∀ x ∈ ws, Z.heap.size ≤ x) (S : ∀ x ∈ ws, Safe Z EL vm h x) (has : as' = (.ref a :: argsL).toArray) (E : Exa Z h a Cl) (hk : k + ck ≤ R.cells) (hn : n + cn ≤ R.slots)
    (hlen : ∀ sig, parseMethodDescriptor y.desc = some sig → argsL.length = sig.parameters.length) (hst : st = argsL.reverse ++ .ref a :: rest) (hW : (rest.map fun v => v.category).sum ≤ W) (hsz : Ls.size = ml) (hd : decode bs pc = .ok (.invokevirtual ix, 3)) (hp : pc + 3 = pc')
    (K : ∀ T' h' v, Core p l e R s m args below meth c bs ml ret nm own Z a0 EL nw vm T' h' (k + ck) (n + cn) → Keep h h' ws → CHr Z EL vm h vm h' → (∃ L, Qf v h' L) → Endw p e below T' (mkF m pc' Ls (v.toList ++ rest)) F) : Endw p e below T (mkF m pc Ls st) F := by
  subst hp has
  obtain ⟨-, ⟨L, X, N⟩, -⟩ := id C
  obtain ⟨cq, kq, qa, qb, qc⟩ := isOf (s := s.setVm vm) C.warm C.heq E
  obtain ⟨v, vm₁, B, -, X', ⟨L', q1, e1, e2, e3⟩, st'⟩ := X.virtualBack C.hx (y := y) (z := z) C.hown (mvT C.warm w1) (mvT C.warm w2) (hnf _ (show Z.Warmed39 (s.setVm vm).vm from C.warm)) (mvT C.warm w5) (mvT C.warm w6) hy hK qa qc (g := mkF m pc Ls st) rfl (hsz.trans C.mlq.symm) (Steps.refl _) (argsL := argsL) (rest := rest) hlen hst (by show 2 * 0 + _ ≤ _; omega) (C.dec hd) (fun _ _ => ⟨rfl, C.heq, hk, hn⟩)
  obtain ⟨r1, r2⟩ := hQ _ _ _ q1
  exact Endw.ste st' (K _ _ v (C.behindF X' N r1 r2 ge S e1 e2 e3) r2 (CHr.keep r2 S C.chv) ⟨_, q1⟩)
/-! ## the head and the end of a body -/
theorem Met.of {y : MethodName} {bytes : ByteArray} {mx : Nat} {rt : Option FieldType} {ws : List Jvm.Cond} {rm : Room} {as' : Array Value} {xs : List Addr} (hy : plainFor y = true) (hEL : EW Z a0 EL) (O : Ext Z.heap h)
    (body : ∀ p e s m below meth c T, Core p l e rm s m as' below meth c bytes mx rt y.name y.cls Z a0 EL nw s.vm T h 0 0 → (∀ x ∈ xs, Safe Z EL s.vm h x) → Endw p e below T (entryFrame m as' mx) (Fin s Z EL nw Q rm.cells rm.slots)) :
    Met l Z EL nw y bytes mx rt ws rm as' h xs Q := by
  refine MetFree.of_bodySF hy hisR ?_
  intro p e s m args below meth c s₁ Bd hml hP hK
  obtain ⟨rfl, hZ, hh, hC, hS⟩ := hP
  have X0 : Stand p l e rm s m args below meth c s₁ [] 0 0 := Stand.of_body Bd
  have e0 : s₁.heap = h := by rw [← hh, Bd.state]; rfl
  have hC' : CHv Z EL s.vm s.heap := by rw [hh]; exact hC
  refine body p e s m below meth c s₁ ⟨⟨Bd.exec, Bd.bytes, hml, Bd.returns, BodyLoose.notSynchronized Bd, (name_of_methodNamed Bd.named Bd.method).1, hEL⟩, ⟨[], X0, Fr.nil _⟩, e0, hZ, findClass_of_methodNamed Bd.named, ⟨s.heap.size, (State.WarmedH.refl s).since _, by rw [hh]; exact Nat.le_refl _⟩, ?_, O, fun _ => ⟨State.WarmedH.refl s, fun y b => by rw [hh]; exact b⟩⟩ hS
  rw [← hh]; exact CHr.refl hC'
theorem Core.leave (C : Core p l e R s m args below meth c bs ml ret nm own Z a0 EL nw vm T h k n) {K N : Nat} {v : Option Value} (hv : ret = none → v = none) (hk : k ≤ K) (hn : n ≤ N) (q : Q v h) (st : ∀ {L : List Loc} {vm' : Vm}, Stand p l e R (s.setVm vm') m args below meth c T L k n → ∀ fs, (∀ (f : JFrame) (acts : List Action), f.method = m → f.locked = none → f.entered = [] → (doReturn e (T.setTop f) acts v).1 = T.setFrames fs) → Steps p.tables e below (T.setTop g) (T.setFrames fs)) :
    Endw p e below T g (Fin s Z EL nw Q K N) := by
  obtain ⟨-, ⟨L, X, NL⟩, -⟩ := id C
  obtain ⟨k0, hS, hk0⟩ := C.since
  have hk1 : k0 ≤ T.heap.size := by rw [C.heq]; exact hk0
  obtain ⟨fs, h1, h2, h3, h4, h5, h6, h7⟩ := X.leaveW hS hk1 (v := v) (fun hr => hv (C.rtq.symm.trans hr)) C.locks
  have e1 : (T.setFrames fs).heap = h := C.heq
  refine ⟨_, _, st X fs h1, h2, h3, v, L, rfl, ⟨by rw [e1]; exact q, NL, by rw [e1]; exact C.old⟩, ⟨?_, fun z => ⟨State.WarmedH.trans (C.nwm z).1 X.warmed, fun y b => ?_⟩⟩, h4, h5, h6, h7.mono hk hn⟩
  · have A := C.chr.trans (CHv.at X C.warm C.ew C.chv)
    rw [e1]; exact A
  · rw [e1] at b
    have b1 : Bk Z EL T.vm h y := b
    rcases (CHv.at X C.warm C.ew C.chv).2.2 y b1 with q1 | q1
    · exact (C.nwm z).2 y q1
    · obtain ⟨c0, hc0⟩ := Bk.there b1; exact absurd (Array.getElem?_eq_some_iff.mp hc0).1 (Nat.not_lt.mpr q1)
theorem Core.retV (C : Core p l e R s m args below meth c bs ml none nm own Z a0 EL nw vm T h k n) {K N : Nat} (hd : decode bs pc = .ok (.return_, 1)) (hk : k ≤ K) (hn : n ≤ N) (q : Q none h) : Endw p e below T (mkF m pc Ls []) (Fin s Z EL nw Q K N) :=
  C.leave (fun _ => rfl) hk hn q fun X fs hl => X.returnOut C.hx C.rtq (C.dec hd) hl
theorem Core.retX (C : Core p l e R s m args below meth c bs ml ret nm own Z a0 EL nw vm T h k n) {K N : Nat} {t : FieldType} {w : Value} {i : Instr} (hr : ret = some t) (hn' : narrow t w = w) (hi : (i = .ireturn ∧ (t = .int ∨ t = .boolean ∨ t = .byte ∨ t = .char ∨ t = .short) ∧ ∃ z, w = .int z) ∨ (i = .lreturn ∧ t = .long ∧ ∃ z, w = .long z) ∨ (i = .dreturn ∧ t = .double ∧ ∃ z, w = .double z) ∨ (i = .freturn ∧ t = .float ∧ ∃ z, w = .float z) ∨ (i = .areturn ∧ t.isReference = true ∧ w.isRef = true))
    (hd : decode bs pc = .ok (i, 1)) (hk : k ≤ K) (hn : n ≤ N) (q : Q (some w) h) : Endw p e below T (mkF m pc Ls (w :: rest)) (Fin s Z EL nw Q K N) :=
  C.leave (fun z => by subst hr; cases z) hk hn q fun X fs hl => RoadKit.retOut X C.hx (C.rtq.trans hr) hn' hi (C.dec hd) hl
theorem Core.retI (C : Core p l e R s m args below meth c bs ml ret nm own Z a0 EL nw vm T h k n) {K N : Nat} {t : FieldType} {z : Int32} (hr : ret = some t) (ht : t = .int ∨ t = .boolean ∨ t = .byte ∨ t = .char ∨ t = .short) (hn' : narrow t (.int z) = .int z) (hd : decode bs pc = .ok (.ireturn, 1)) (hk : k ≤ K) (hn : n ≤ N) (q : Q (some (.int z)) h) : Endw p e below T (mkF m pc Ls (.int z :: rest)) (Fin s Z EL nw Q K N) :=
  C.retX hr hn' (Or.inl ⟨rfl, ht, _, rfl⟩) hd hk hn q
theorem Core.retA (C : Core p l e R s m args below meth c bs ml ret nm own Z a0 EL nw vm T h k n) {K N : Nat} {t : FieldType} {w : Value} (hr : ret = some t) (ht : t.isReference = true) (hw : w.isRef = true) (hn' : narrow t w = w) (hd : decode bs pc = .ok (.areturn, 1)) (hk : k ≤ K) (hn : n ≤ N) (q : Q (some w) h) : Endw p e below T (mkF m pc Ls (w :: rest)) (Fin s Z EL nw Q K N) :=
  C.retX hr hn' (Or.inr (Or.inr (Or.inr (Or.inr ⟨rfl, ht, hw⟩)))) hd hk hn q
/-! ## String constants -/
theorem Core.ldcC (C : Core p l e R s m args below meth c bs ml ret nm own Z a0 EL nw vm T h k n) {text : String} {ix N : Nat} {vs : List Value} {z : Int32} (w : (Jvm.Cond.stringLink own ix text).before a0 Z = true) (wS : ∀ a ∈ Bundle.stringAtoms, a.before a0 Z = true) (hmem : (own, ix) ∈ EL) (ht : (∀ c ∈ text.toList, c.toNat < 256) ∧ text.toList.map (fun c => Value.int (Jvm.Lit.byteI c.toNat.toUInt16)) = vs) (hz : ¬ z < 0) (hl : z.toNatClampNeg = vs.length)
    (hN : 4 * text.toList.length ≤ N) (hbig : N ≤ 536870912) (hk : k + 2 ≤ R.cells) (hn : n + (N + 4) ≤ R.slots) (hd : decode bs pc = .ok (.ldc ix, 2)) (hp : pc + 2 = pc') (hnw : nw = false)
    (K : ∀ vm' T' h' a b kA, Core p l e R s m args below meth c bs ml ret nm own Z a0 EL nw vm' T' h' (k + 2) (n + (N + 4)) → Keep h h' [] → CHr Z EL vm h vm' h' → Exa Z h' a "java/lang/String" → Fld Z h' a "java/lang/String" "coder" "B" (.int 0) → Fld Z h' a "java/lang/String" "value" "[B" (.ref b) → Arv Z h' b kA .byte z vs (.int 0) → (∀ x, Safe Z EL vm' h' x → x ≠ a ∧ x ≠ b) → Endw p e below T' (mkF m pc' Ls (.ref a :: rest)) F) : Endw p e below T (mkF m pc Ls rest) F := by
  subst hp
  obtain ⟨-, ⟨L, X, NL⟩, -⟩ := id C
  obtain ⟨k0, hS, hk0⟩ := C.since
  obtain ⟨a, T', h', k1, b, kA, X', e', E, hS', hk1, hZ', hown', r1, r2, r3, r4, -, -, A, -, r5, st⟩ := RoadKit.ldcCH X C.hx C.warm C.hown w wS C.heq hS hk0 C.ew hmem C.chv ht hz hl (g := mkF m pc Ls rest) rfl (C.dec hd) hN hbig hk hn
  exact Endw.st st (K T'.vm T' h' a b kA ⟨C.1, ⟨L, X', NL⟩, e', hZ', hown', ⟨k1, hS', hk1⟩, C.chr.trans A, old_keep C.old (keep_of_ext E) all0, fun z => by rw [hnw] at z; cases z⟩ (keep_of_ext E) A r1 r2 r3 r4 r5)
theorem Core.ldcO (C : Core p l e R s m args below meth c bs ml ret nm own Z a0 EL nw vm T h k n) {text : String} {ix N : Nat} (w : (Jvm.Cond.stringLink own ix text).before a0 Z = true) (wS : ∀ a ∈ Bundle.stringAtoms, a.before a0 Z = true)
    (hN : 4 * text.toList.length ≤ N) (hbig : N ≤ 536870912) (hk : k + 2 ≤ R.cells) (hn : n + (N + 4) ≤ R.slots) (hd : decode bs pc = .ok (.ldc ix, 2)) (hp : pc + 2 = pc') (hnw : nw = false)
    (K : ∀ vm' T' h' a, Core p l e R s m args below meth c bs ml ret nm own Z a0 EL nw vm' T' h' (k + 2) (n + (N + 4)) → Keep h h' [] → CHr Z EL vm h vm' h' → Endw p e below T' (mkF m pc' Ls (.ref a :: rest)) F) : Endw p e below T (mkF m pc Ls rest) F := by
  subst hp
  obtain ⟨-, ⟨L, X, NL⟩, -⟩ := id C
  obtain ⟨k0, hS, hk0⟩ := C.since
  obtain ⟨a, T', h', k1, X', e', E, hS', hk1, hZ', hown', A, -, st⟩ := RoadKit.ldcOH X C.hx C.warm C.hown w wS C.heq hS hk0 C.ew C.chv (g := mkF m pc Ls rest) rfl (C.dec hd) hN hbig hk hn
  exact Endw.st st (K T'.vm T' h' a ⟨C.1, ⟨L, X', NL⟩, e', hZ', hown', ⟨k1, hS', hk1⟩, C.chr.trans A, old_keep C.old (keep_of_ext E) all0, fun z => by rw [hnw] at z; cases z⟩ (keep_of_ext E) A)
end Walk
end Jvm.Own
namespace Jvm.Own
open Jvm Jvm.ClassFile Sem Op Lib Jvm.Free Jvm.Stand Jvm.LawKit Jvm.RoadKit Bundle
section Help
variable {p : Program} {l : Launch} {e : Env} {R : Room} {s : State} {m : MethodId} {args : Array Value} {below : List Frame} {meth : Method} {c : Code}
variable {bs : ByteArray} {ml : Nat} {ret : Option FieldType} {nm own : String} {Z : State} {a0 : Array Value} {EL : List (String × Nat)} {nw : Bool} {vm : Vm} {T T' : State} {h h' : Heap} {k n : Nat} {g : JFrame} {rest : List Value}
theorem own_irem (C : Core p l e R s m args below meth c bs ml ret nm own Z a0 EL nw vm T h k n) {x y : Int32} {target : State} (hg : g.method = m) (hd : decode bs g.pc = .ok (.irem, 1)) (hs : g.stack = .int y :: .int x :: rest) (hy : y ≠ 0) (hr : Steps p.tables e below (T.setTop { g with pc := g.pc + 1, stack := .int (x % y) :: rest }) target) : Steps p.tables e below (T.setTop g) target := by
  obtain ⟨-, ⟨L, X, -⟩, -⟩ := id C
  exact iremM X C.hx hg (C.dec hd) hs hy hr
theorem own_ldcI (C : Core p l e R s m args below meth c bs ml ret nm own Z a0 EL nw vm T h k n) {ix : Nat} {v : Int32} {target : State} (w : (Jvm.Cond.constant own ix v).before a0 Z = true) (hg : g.method = m) (hd : decode bs g.pc = .ok (.ldc ix, 2)) (hr : Steps p.tables e below (T.setTop { g with pc := g.pc + 2, stack := .int v :: g.stack }) target) : Steps p.tables e below (T.setTop g) target := by
  obtain ⟨-, ⟨L, X, -⟩, -⟩ := id C
  exact X.ldcI C.hx C.hown (mvT C.warm w) hg (C.dec hd) hr
theorem own_nar_mask {x : Int32} : nar .char ((x &&& 255).toUInt32.toUInt16.toUInt32.toInt32) = x &&& 255 := by
  show ((x &&& 255).toUInt32.toUInt16.toUInt32.toInt32).toUInt32.toUInt16.toUInt32.toInt32 = _
  rw [i2c_mask, i2c_mask]
theorem own_toInt {y : Int32} (h : y.toBitVec.toNat < 2147483648) : y.toInt = (y.toBitVec.toNat : Int) := by
  have : y.toInt = y.toBitVec.toInt := rfl
  rw [this, BitVec.toInt_eq_toNat_cond, if_pos (by omega)]
theorem own_and_nat (x m : Int32) : (x &&& m).toBitVec.toNat = x.toBitVec.toNat &&& m.toBitVec.toNat := by simp [Int32.toBitVec_and, BitVec.toNat_and]
theorem own_cI (x : Int32) : (Value.int x).category = 1 := rfl
theorem own_cR (x : Addr) : (Value.ref x).category = 1 := rfl
theorem own_cN : Value.null.category = 1 := rfl
theorem own_cJ (x : Int64) : (Value.long x).category = 2 := rfl
theorem own_cD (x : UInt64) : (Value.double x).category = 2 := rfl
/-- a char of one byte -/
def B8 (c : Int32) : Prop := ¬ c < 0 ∧ ¬ (255 : Int32) < c
theorem own_mask255 (x : Int32) : B8 (x &&& 255) := by
  have e : (x &&& 255).toBitVec.toNat ≤ 255 := by rw [own_and_nat]; exact Nat.and_le_right
  have q := own_toInt (y := x &&& 255) (by omega)
  refine ⟨?_, ?_⟩ <;> rw [Int32.lt_iff_toInt_lt, q]
  · show ¬ (_ < (0 : Int)); omega
  · show ¬ ((255 : Int) < _); omega
theorem own_b16 {c : Int32} (h : B8 c) : ¬ c < 0 ∧ ¬ (65535 : Int32) < c := by
  refine ⟨h.1, fun q => h.2 ?_⟩
  rw [Int32.lt_iff_toInt_lt] at q ⊢
  have e1 : (65535 : Int32).toInt = 65535 := rfl
  have e2 : (255 : Int32).toInt = 255 := rfl
  omega
theorem own_c0 {P : Int32 → Prop} : ∀ c ∈ ([] : List Int32), P c := fun _ q => nomatch q
theorem own_cS {P : Int32 → Prop} {y : Int32} {L : List Int32} (q : P y) (r : ∀ c ∈ L, P c) : ∀ c ∈ y :: L, P c := fun x z => (List.mem_cons.mp z).elim (fun u => u ▸ q) (r x)
theorem own_nar_ref {v : Value} {t : FieldType} (h : v.isRef = true) (ht : t.isReference = true := by rfl) : narrow t v = v := by
  cases v <;> cases t <;> first | rfl | (cases h; done) | (cases ht; done)
theorem own_fits_ref {v : Value} {t : FieldType} (h : v.isRef = true) (ht : t.isReference = true := by rfl) : fits t v = true := by
  cases v <;> cases t <;> first | rfl | (cases h; done) | (cases ht; done)
theorem own_nar_byte {x : Int32} : nar .byte (x.toInt8.toInt32) = x.toInt8.toInt32 := by
  show (x.toInt8.toInt32).toInt8.toInt32 = _
  simp
theorem own_eqInt {args : Array Value} {first s : State} {o : Option Outcome} {idx : List Nat} {t : Term} {n : Int32} (h : (Jvm.Cond.eq t (Term.int n)).value args first o s idx = some true) : t.eval args first o idx s = some (.int n) := by
  simp only [Cond.value, Term.eval] at h
  cases ht : t.eval args first o idx s with
  | none => simp [ht] at h
  | some x => cases x <;> simp_all
/-- the bytes of a Latin-1 text -/
def bys (cs : List Int32) : List Value := (cs.map fun c => c.toInt8.toInt32).map Value.int
/-- the String at a: Latin-1, its byte[] at b, its chars cs -/
def Str (Z : State) (h : Heap) (a b : Addr) (kb : ClassId) (cs : List Int32) : Prop :=
  Exa Z h a "java/lang/String" ∧ Fld Z h a "java/lang/String" "coder" "B" (.int 0) ∧ Fld Z h a "java/lang/String" "value" "[B" (.ref b) ∧
    Arv Z h b kb .byte (Int32.ofNat cs.length) (bys cs) (.int 0) ∧ (∀ c ∈ cs, B8 c) ∧ cs.length ≤ 4000
theorem Str.keep {a b : Addr} {kb : ClassId} {cs : List Int32} {ws : List Addr} (S : Str Z h a b kb cs) (K : Keep h h' ws) (q1 : a ∉ ws) (q2 : b ∉ ws) : Str Z h' a b kb cs :=
  ⟨S.1.keep K, S.2.1.keep K q1, S.2.2.1.keep K q1, S.2.2.2.1.keep K q2, S.2.2.2.2⟩
theorem own_instanceofNull (C : Core p l e R s m args below meth c bs ml ret nm own Z a0 EL nw vm T h k n) {ix : Nat} {target : State} (hg : g.method = m) (hs : g.stack = .null :: rest) (hd : decode bs g.pc = .ok (.instanceof ix, 3)) (hr : Steps p.tables e below (T.setTop { g with pc := g.pc + 3, stack := .int 0 :: rest }) target) : Steps p.tables e below (T.setTop g) target := by
  obtain ⟨-, ⟨L, X, -⟩, -⟩ := id C
  exact X.instanceofNull C.hx hg hs (C.dec hd) _ hr
theorem own_checkcastNull (C : Core p l e R s m args below meth c bs ml ret nm own Z a0 EL nw vm T h k n) {ix : Nat} {target : State} (hg : g.method = m) (hs : g.stack = .null :: rest) (hd : decode bs g.pc = .ok (.checkcast ix, 3)) (hr : Steps p.tables e below (T.setTop { g with pc := g.pc + 3 }) target) : Steps p.tables e below (T.setTop g) target := by
  obtain ⟨-, ⟨L, X, -⟩, -⟩ := id C
  exact X.checkcastNull C.hx hg hs (C.dec hd) _ hr
theorem own_ldc2J (C : Core p l e R s m args below meth c bs ml ret nm own Z a0 EL nw vm T h k n) {ix : Nat} {v : Int64} {target : State} (w : (Jvm.Cond.constantLong own ix v).before a0 Z = true) (hg : g.method = m) (hd : decode bs g.pc = .ok (.ldc2_w ix, 3)) (hr : Steps p.tables e below (T.setTop { g with pc := g.pc + 3, stack := .long v :: g.stack }) target) : Steps p.tables e below (T.setTop g) target := by
  obtain ⟨-, ⟨L, X, -⟩, -⟩ := id C
  exact X.ldc2J C.hx C.hown (mvT C.warm w) hg (C.dec hd) hr
variable {F : Outcome → State → Prop} {pc pc' : Nat} {Ls : Array Slot}
theorem Core.instY (C : Core p l e R s m args below meth c bs ml ret nm own Z a0 EL nw vm T h k n) {K : String} {ix : Nat} {a : Addr} (w : (Jvm.Cond.classLink own ix K).before a0 Z = true) (f : Ins Z h a K true) (hd : decode bs pc = .ok (.instanceof ix, 3)) (hp : pc + 3 = pc')
    (Kk : ∀ T', Core p l e R s m args below meth c bs ml ret nm own Z a0 EL nw vm T' h k n → Endw p e below T' (mkF m pc' Ls (.int 1 :: rest)) F) : Endw p e below T (mkF m pc Ls (.ref a :: rest)) F := by
  subst hp
  obtain ⟨-, ⟨L, X, N⟩, -⟩ := id C
  obtain ⟨T', X', e', st⟩ := RoadKit.instY X C.hx C.warm C.hown w C.heq f (g := mkF m pc Ls (.ref a :: rest)) rfl rfl (C.dec hd)
  exact Endw.st st (Kk T' (C.same X' N e'))
theorem Core.castY (C : Core p l e R s m args below meth c bs ml ret nm own Z a0 EL nw vm T h k n) {K : String} {ix : Nat} {a : Addr} (w : (Jvm.Cond.classLink own ix K).before a0 Z = true) (f : Ins Z h a K true) (hd : decode bs pc = .ok (.checkcast ix, 3)) (hp : pc + 3 = pc')
    (Kk : ∀ T', Core p l e R s m args below meth c bs ml ret nm own Z a0 EL nw vm T' h k n → Endw p e below T' (mkF m pc' Ls (.ref a :: rest)) F) : Endw p e below T (mkF m pc Ls (.ref a :: rest)) F := by
  subst hp
  obtain ⟨-, ⟨L, X, N⟩, -⟩ := id C
  obtain ⟨T', X', e', st⟩ := RoadKit.castY X C.hx C.warm C.hown w C.heq f (g := mkF m pc Ls (.ref a :: rest)) rfl rfl (C.dec hd)
  exact Endw.st st (Kk T' (C.same X' N e'))
theorem Core.instNo (C : Core p l e R s m args below meth c bs ml ret nm own Z a0 EL nw vm T h k n) {K Cl : String} {ix : Nat} {a : Addr} (w : (Jvm.Cond.classLink own ix K).before a0 Z = true) (E : Exa Z h a Cl) (f : ∃ c t, Z.vm.findClass Cl = some c ∧ Z.vm.findClass K = some t ∧ Z.vm.assignable c t = false) (hd : decode bs pc = .ok (.instanceof ix, 3)) (hp : pc + 3 = pc')
    (Kk : ∀ T', Core p l e R s m args below meth c bs ml ret nm own Z a0 EL nw vm T' h k n → Endw p e below T' (mkF m pc' Ls (.int 0 :: rest)) F) : Endw p e below T (mkF m pc Ls (.ref a :: rest)) F := by
  subst hp
  obtain ⟨-, ⟨L, X, N⟩, -⟩ := id C
  obtain ⟨T', X', e', st⟩ := RoadKit.instNo X C.hx C.warm C.hown w C.heq E f (g := mkF m pc Ls (.ref a :: rest)) rfl rfl (C.dec hd)
  exact Endw.st st (Kk T' (C.same X' N e'))
theorem own_found {K : String} {i : Nat} (wk : (Jvm.Cond.instantiable K i).before a0 Z = true) : ∃ t kt, Z.vm.findClass K = some t ∧ Z.vm.classes[t]? = some kt ∧ kt.kind = .ordinary ∧ kt.isInterface = false := by
  obtain ⟨t, kt, h1, h2, h3, h4, -⟩ := Cond.instantiable_spec wk
  exact ⟨t, kt, h1, h2, h3, (Bool.or_eq_false_iff.mp h4).1⟩
theorem own_NSroot {O K : String} {i : Nat} (w : (Jvm.Cond.noSuperclass O).before a0 Z = true) (wk : (Jvm.Cond.instantiable K i).before a0 Z = true) (hn : O ≠ K) : NS Z O K := by
  obtain ⟨c, k, h1, h2, h3, -, -⟩ := Cond.noSuperclass_spec w
  obtain ⟨t, -, g1, -⟩ := own_found wk
  have ne := ids_ne h1 g1 hn
  refine ⟨c, t, h1, g1, fun fuel => ?_⟩
  cases fuel with
  | zero => rfl
  | succ f => simp [Vm.isSubclassAux, ne, h2, h3]
theorem own_NSno {Cl S K : String} {i : Nat} (w : (Jvm.Cond.superclass Cl S).before a0 Z = true) (wk : (Jvm.Cond.instantiable K i).before a0 Z = true) (n : NS Z Cl K) (hn : Cl ≠ K) : ∃ c t, Z.vm.findClass Cl = some c ∧ Z.vm.findClass K = some t ∧ Z.vm.assignable c t = false := by
  obtain ⟨c, t, h0, g0, n3⟩ := n
  obtain ⟨p, k, kp, h1, h2, h3, h4, h5, -, h7⟩ := Cond.superclass_spec h0 w
  obtain ⟨t', kt, g1, g2, g3, g4⟩ := own_found wk
  cases g0.symm.trans g1
  have ne := ids_ne h0 g0 hn
  refine ⟨c, t, h0, g0, ?_⟩
  show Z.vm.assignableAux (255 + 1) c t = false
  simp [Vm.assignableAux, ne, h2, g2, h5, g3, g4, Vm.isSubclass, n3]
end Help
end Jvm.Own
namespace Jvm.Own
open Jvm Jvm.ClassFile Sem Op Lib Jvm.Free Jvm.Stand Jvm.LawKit Jvm.RoadKit Bundle
section Calls
variable {p : Program} {l : Launch} {e : Env} {R : Room} {s : State} {m : MethodId} {args : Array Value} {below : List Frame} {meth : Method} {c : Code}
variable {bs : ByteArray} {ml : Nat} {ret : Option FieldType} {nm own : String} {Z : State} {a0 : Array Value} {EL : List (String × Nat)} {nw nw' : Bool} {vm vm' : Vm} {T T' : State} {h h' : Heap} {k n k' n' : Nat} {F : Outcome → State → Prop} {pc pc' : Nat} {Ls : Array Slot} {rest : List Value} {g g' : JFrame} {Q : Option Value → Heap → Prop}
/-- what a callee that interns nothing has made is safe -/
theorem own_safe_new {t : Addr} (M : ∀ y, Bk Z EL vm' h' y → Bk Z EL vm h y) (ge : h.size ≤ t) : Safe Z EL vm' h' t := fun b => Safe.new ge (M t b)
/-- the class of y is no interface -/
def Plain (Z : State) (C : String) : Prop := ∃ c k, Z.vm.findClass C = some c ∧ Z.vm.classes[c]? = some k ∧ k.isInterface = false
theorem own_plain {C : String} {y : MethodName} (w : (Jvm.Cond.selects C y y).before a0 Z = true) (wi : (Jvm.Cond.instanceMethod y).before a0 Z = true) : Plain Z y.cls := by
  obtain ⟨mk, methM, hn, -, -, -⟩ := Cond.instanceMethod_spec wi
  obtain ⟨kr, h1, h2⟩ := notFace_of_selects w _ hn
  exact ⟨_, kr, findClass_of_methodNamed hn, h1, h2⟩
theorem own_nf {y : MethodName} (P : Plain Z y.cls) : NotFace Z y := fun r0 h0 => by
  obtain ⟨cc, kc, h1, h2, h3⟩ := P
  cases h1.symm.trans (findClass_of_methodNamed h0)
  exact ⟨kc, h2, h3⟩
theorem own_same {y : MethodName} (w : (Jvm.Cond.declares y).before a0 Z = true) (P : Plain Z y.cls) (hy : y.cls ≠ "java/lang/invoke/MethodHandle" ∧ y.cls ≠ "java/lang/invoke/VarHandle") : (Jvm.Cond.sameMethod y.cls y.cls y.name y.desc).before a0 Z = true := by
  obtain ⟨r0, r, hn, -, -, -⟩ := Cond.declares_spec w
  obtain ⟨c, kc, h1, h2, h3⟩ := P
  have hf := State.methodFound?_of_named hn hy
  have hn' : Z.methodNamed? ⟨y.cls, y.name, y.desc⟩ = some r0 := hn
  simp [Cond.before, Cond.holds, Cond.value, h1, hf, hn', h2, h3]
theorem Core.super (C : Core p l e R s m args below meth c bs ml ret nm own Z a0 EL nw vm T h k n) {y : MethodName} {Cl : String} {ix : Nat} {bytes : ByteArray} {mx : Nat} {rt : Option FieldType} {rm : Room} {xs : List Addr} {W : Nat} {a : Addr} {argsL st : List Value} {as' : Array Value} (hne : y.name ≠ "<init>")
    (w1 : (Jvm.Cond.methodLink own ix y).before a0 Z = true) (w2 : (Jvm.Cond.sameMethod y.cls y.cls y.name y.desc).before a0 Z = true) (w6 : (Jvm.Cond.instanceMethod y).before a0 Z = true) (w5 : (Jvm.Cond.superclass own y.cls).before a0 Z = true) (w3 : (Jvm.Cond.code y bytes mx rt).before a0 Z = true) (w4 : (Jvm.Cond.initialized y.cls).before a0 Z = true)
    (hM : Met l Z EL nw' y bytes mx rt [] rm as' h xs Q) (hnn : nw = true → nw' = true) (has : as' = (.ref a :: argsL).toArray) (E : Exa Z h a Cl) (hs : ∀ x ∈ xs, x < h.size ∧ Safe Z EL vm h x) (hf : rm.frames + 1 ≤ R.frames) (hl : W + (mx + 11) + rm.locals ≤ R.locals) (hk : k + rm.cells ≤ R.cells) (hn : n + rm.slots ≤ R.slots)
    (hlen : ∀ sig, parseMethodDescriptor y.desc = some sig → argsL.length = sig.parameters.length) (hst : st = argsL.reverse ++ .ref a :: rest) (hW : (rest.map fun v => v.category).sum ≤ W) (hsz : Ls.size = ml) (hd : decode bs pc = .ok (.invokespecial ix, 3)) (hp : pc + 3 = pc')
    (K : ∀ vm' T' h' v, Core p l e R s m args below meth c bs ml ret nm own Z a0 EL nw vm' T' h' (k + rm.cells) (n + rm.slots) → CHr Z EL vm h vm' h' → (nw' = true → ∀ y, Bk Z EL vm' h' y → Bk Z EL vm h y) → Q v h' → Endw p e below T' (mkF m pc' Ls (v.toList ++ rest)) F) : Endw p e below T (mkF m pc Ls st) F := by
  subst hp has
  obtain ⟨-, ⟨L, X, N⟩, -⟩ := id C
  obtain ⟨v, vm₁, B, -, X', h2, -, ⟨L', ⟨q1, q2, q3⟩, e1, e2, e3, A, M⟩, st'⟩ := RoadKit.superBackS (a0 := a0) (s := s.setVm vm) (K := Cl) X C.hx C.warm (y := y) C.hown w1 w2 w6 w5 hne (backOwn (W := W) hM C.warm w3 w4 hf hl C.ew C.chv hs) C.heq (Ins.self E) (g := mkF m pc Ls st) rfl (hsz.trans C.mlq.symm) w3 (argsL := argsL) (rest := rest) hlen hst (by show 2 * 0 + _ ≤ _; omega) (C.dec hd) (fun _ _ => ⟨rfl, C.heq, hk, hn⟩)
  exact Endw.ste st' (K _ _ _ v (C.behind X' h2 N q2 q3 e1 e2 e3 A (fun z => M (hnn z))) A (fun z => (M z).2) q1)
theorem Core.priv (C : Core p l e R s m args below meth c bs ml ret nm own Z a0 EL nw vm T h k n) {y : MethodName} {Cl : String} {ix : Nat} {bytes : ByteArray} {mx : Nat} {rt : Option FieldType} {rm : Room} {xs : List Addr} {W : Nat} {a : Addr} {argsL st : List Value} {as' : Array Value}
    (w1 : (Jvm.Cond.methodLink own ix y).before a0 Z = true) (w6 : (Jvm.Cond.instanceMethod y).before a0 Z = true) (P : Plain Z y.cls) (w7 : (Jvm.Cond.privateMethod y).before a0 Z = true) (w3 : (Jvm.Cond.code y bytes mx rt).before a0 Z = true) (w4 : (Jvm.Cond.initialized y.cls).before a0 Z = true) (hy : y.cls ≠ "java/lang/invoke/MethodHandle" ∧ y.cls ≠ "java/lang/invoke/VarHandle")
    (hM : Met l Z EL nw' y bytes mx rt [] rm as' h xs Q) (hnn : nw = true → nw' = true) (has : as' = (.ref a :: argsL).toArray) (E : Exa Z h a Cl) (hs : ∀ x ∈ xs, x < h.size ∧ Safe Z EL vm h x) (hf : rm.frames + 1 ≤ R.frames) (hl : W + (mx + 11) + rm.locals ≤ R.locals) (hk : k + rm.cells ≤ R.cells) (hn : n + rm.slots ≤ R.slots)
    (hlen : ∀ sig, parseMethodDescriptor y.desc = some sig → argsL.length = sig.parameters.length) (hst : st = argsL.reverse ++ .ref a :: rest) (hW : (rest.map fun v => v.category).sum ≤ W) (hsz : Ls.size = ml) (hd : decode bs pc = .ok (.invokevirtual ix, 3)) (hp : pc + 3 = pc')
    (K : ∀ vm' T' h' v, Core p l e R s m args below meth c bs ml ret nm own Z a0 EL nw vm' T' h' (k + rm.cells) (n + rm.slots) → CHr Z EL vm h vm' h' → (nw' = true → ∀ y, Bk Z EL vm' h' y → Bk Z EL vm h y) → Q v h' → Endw p e below T' (mkF m pc' Ls (v.toList ++ rest)) F) : Endw p e below T (mkF m pc Ls st) F := by
  subst hp has
  obtain ⟨-, ⟨L, X, N⟩, -⟩ := id C
  obtain ⟨cell, c1, c2⟩ := Exa.cell E
  obtain ⟨cP, kP, p1, p2, p3⟩ := P
  have w5 : (Jvm.Cond.selects y.cls y y).before a0 Z = true := selects_self_of_private p1 p2 p3 (Cond.privateMethod_at w7) w6 hy
  obtain ⟨v, vm₁, B, -, X', h2, -, ⟨L', ⟨q1, q2, q3⟩, e1, e2, e3, A, M⟩, st'⟩ := X.privateBackS C.hx (y := y) C.hown (mvT C.warm w1) (mvT C.warm w6) (mvT C.warm w5) (Cond.privateMethod_at (mvP (s := s.setVm vm) C.warm w7 (args := #[]))) (mvT C.warm w3) hy (backOwn (W := W) hM C.warm w3 w4 hf hl C.ew C.chv hs) (g := mkF m pc Ls st) rfl (hsz.trans C.mlq.symm) (Steps.refl _) (a := a) (by rw [C.heq]; exact c1) c2 (argsL := argsL) (rest := rest) hlen hst (by show 2 * 0 + _ ≤ _; omega) (C.dec hd) (fun _ _ => ⟨rfl, C.heq, hk, hn⟩)
  exact Endw.ste st' (K _ _ _ v (C.behind X' h2 N q2 q3 e1 e2 e3 A (fun z => M (hnn z))) A (fun z => (M z).2) q1)
/-- System.arraycopy between two primitive arrays of one kind -/
theorem Core.acopy (C : Core p l e R s m args below meth c bs ml ret nm own Z a0 EL nw vm T h k n) {ix : Nat} {a b : Addr} {k1 k2 : ClassId} {ty : FieldType} {z1 z2 sp dp nn : Int32} {vs vd vr : List Value} {d1 d2 : Value} {W : Nat}
    (w1 : (Jvm.Cond.methodLink own ix Jvm.Stand.acN).before a0 Z = true) (w2 : (Jvm.Cond.native Jvm.Stand.acN).before a0 Z = true) (w3 : (Jvm.Cond.static Jvm.Stand.acN).before a0 Z = true) (w4 : (Jvm.Cond.initialized "java/lang/System").before a0 Z = true)
    (A : Arv Z h a k1 ty z1 vs d1) (B : Arv Z h b k2 ty z2 vd d2) (hty : refKind ty = false) (h1 : ¬ sp < 0) (h2 : ¬ dp < 0) (h3 : ¬ nn < 0) (h4 : sp.toNatClampNeg + nn.toNatClampNeg ≤ z1.toNatClampNeg) (h5 : dp.toNatClampNeg + nn.toNatClampNeg ≤ z2.toNatClampNeg) (hl : dp.toNatClampNeg + nn.toNatClampNeg ≤ vd.length)
    (hr : vd.take dp.toNatClampNeg ++ ((List.range nn.toNatClampNeg).map fun i => vs.getD (sp.toNatClampNeg + i) d1) ++ vd.drop (dp.toNatClampNeg + nn.toNatClampNeg) = vr) (ge : Z.heap.size ≤ b) (sf : Safe Z EL vm h b) (hsz : Ls.size = ml) (hd : decode bs pc = .ok (.invokestatic ix, 3)) (hp : pc + 3 = pc')
    (hf : 1 ≤ R.frames) (hW : (rest.map fun v => v.category).sum ≤ W) (hlo : W + (nativeFrameWords "java/lang/System" "arraycopy" 5 + 11) ≤ R.locals)
    (K : ∀ T' h', Core p l e R s m args below meth c bs ml ret nm own Z a0 EL nw vm T' h' k n → Keep h h' [b] → CHr Z EL vm h vm h' → Arv Z h' b k2 ty z2 vr d2 → Endw p e below T' (mkF m pc' Ls rest) F) : Endw p e below T (mkF m pc Ls (.int nn :: .int dp :: .ref b :: .int sp :: .ref a :: rest)) F := by
  subst hp hr
  obtain ⟨-, ⟨L, X, N⟩, -⟩ := id C
  obtain ⟨T', h', L', X', e', N', Kp, V, st⟩ := RoadKit.cpA X C.hx C.warm C.hown w1 w2 w3 w4 C.heq A B (Or.inl ⟨rfl, hty⟩) h1 h2 h3 h4 h5 rfl hl N ge (g := mkF m pc Ls (.int nn :: .int dp :: .ref b :: .int sp :: .ref a :: rest)) rfl (hsz.trans C.mlq.symm) rfl (C.dec hd) hf (W := W) (by show 2 * 0 + _ ≤ _; omega) hlo
  exact Endw.st st (K T' h' (C.on (ws := [b]) X' N' e' Kp (allS ge all0) (sfS sf sf0)) Kp (CHr.keep Kp (sfS sf sf0) C.chv) V)
end Calls
end Jvm.Own
namespace Jvm.Own
open Jvm Jvm.ClassFile Sem Op Lib Jvm.Free Jvm.Stand Jvm.LawKit Jvm.RoadKit Bundle
section Num
theorem own_ti {n : Nat} (h : n < 2147483648) : (Int32.ofNat n).toInt = (n : Int) := Int32.toInt_ofNat_small (by omega)
theorem own_nn {n : Nat} (h : n < 2147483648) : ¬ Int32.ofNat n < 0 := by
  rw [Int32.lt_iff_toInt_lt, own_ti h]; show ¬ ((n : Int) < 0); omega
theorem own_nc {n : Nat} (h : n < 2147483648) : (Int32.ofNat n).toNatClampNeg = n := by
  simp only [Int32.toNatClampNeg, own_ti h]; omega
theorem own_lt {a b : Nat} (ha : a < 2147483648) (hb : b < 2147483648) : Int32.ofNat a < Int32.ofNat b ↔ a < b := by
  rw [Int32.lt_iff_toInt_lt, own_ti ha, own_ti hb]; omega
theorem own_ieq {a b : Nat} (ha : a < 2147483648) (hb : b < 2147483648) : Int32.ofNat a = Int32.ofNat b ↔ a = b := by
  constructor
  · intro e; have := congrArg Int32.toInt e; rw [own_ti ha, own_ti hb] at this; omega
  · rintro rfl; rfl
theorem own_add (a b : Nat) : Int32.ofNat a + Int32.ofNat b = Int32.ofNat (a + b) := (Int32.ofNat_add a b).symm
theorem own_sub {a b : Nat} (h : b ≤ a) : Int32.ofNat a - Int32.ofNat b = Int32.ofNat (a - b) := by
  have e : Int32.ofNat a = Int32.ofNat (a - b) + Int32.ofNat b := by rw [own_add]; congr 1; omega
  rw [e]; exact Int32.add_sub_cancel _ _
theorem own_shr0 (x : Int32) : x >>> ((0 : Int32) &&& 31) = x := by
  rw [show ((0 : Int32) &&& 31) = 0 from by decide]
  apply Int32.toBitVec_inj.mp; rw [Int32.toBitVec_shiftRight, show (0 : Int32).toBitVec.smod 32 = 0#32 from by decide]; simp
theorem own_shl0 (x : Int32) : x <<< ((0 : Int32) &&& 31) = x := by
  rw [show ((0 : Int32) &&& 31) = 0 from by decide]
  apply Int32.toBitVec_inj.mp; rw [Int32.toBitVec_shiftLeft, show (0 : Int32).toBitVec.smod 32 = 0#32 from by decide]; simp
theorem bys_len (cs : List Int32) : (bys cs).length = cs.length := by simp [bys]
theorem bys_app (cs ds : List Int32) : bys (cs ++ ds) = bys cs ++ bys ds := by simp [bys]
/-- what a copy of all of ds to the end of cs leaves, the places behind being 0 -/
theorem own_cat (cs ds : List Int32) : ((bys cs ++ List.replicate ds.length (Value.int 0)).take cs.length) ++ ((List.range ds.length).map fun i => (bys ds).getD (0 + i) (Value.int 0)) ++ ((bys cs ++ List.replicate ds.length (Value.int 0)).drop (cs.length + ds.length)) = bys (cs ++ ds) := by
  have h1 : (bys cs ++ List.replicate ds.length (Value.int 0)).take cs.length = bys cs := by rw [← bys_len cs]; exact List.take_left
  have h2 : (bys cs ++ List.replicate ds.length (Value.int 0)).drop (cs.length + ds.length) = [] := by
    apply List.drop_eq_nil_of_le; simp [bys_len]
  have h3 : ((List.range ds.length).map fun i => (bys ds).getD (0 + i) (Value.int 0)) = bys ds := by
    apply List.ext_getElem
    · simp [bys_len]
    · intro i q1 q2
      simp only [List.getElem_map, List.getElem_range, Nat.zero_add]
      rw [List.getD_eq_getElem?_getD, List.getElem?_eq_getElem q2]; rfl
  rw [h1, h2, h3, List.append_nil, bys_app]
/-- .. what a copy of the first n of a buffer into a new array of n leaves -/
theorem own_cut (cs : List Int32) : ((List.replicate cs.length (Value.int 0)).take 0) ++ ((List.range cs.length).map fun i => (bys cs).getD (0 + i) (Value.int 0)) ++ ((List.replicate cs.length (Value.int 0)).drop (0 + cs.length)) = bys cs := by
  have q := own_cat [] cs
  simpa [bys] using q
end Num
end Jvm.Own
namespace Jvm.Own
open Jvm Jvm.ClassFile Sem Op Lib Jvm.Free Jvm.Stand Jvm.LawKit Jvm.RoadKit Bundle
section Sb
variable {p : Program} {l : Launch} {e : Env} {R : Room} {s : State} {m : MethodId} {args : Array Value} {below : List Frame} {meth : Method} {c : Code}
variable {bs : ByteArray} {ml : Nat} {ret : Option FieldType} {nm own : String} {Z : State} {a0 : Array Value} {EL : List (String × Nat)} {nw : Bool} {vm : Vm} {T T' : State} {h h' : Heap} {k n : Nat} {F : Outcome → State → Prop} {pc pc' : Nat} {Ls : Array Slot} {rest : List Value}
/-- the StringBuilder at b: Latin-1, its buffer at t with room for cap, its chars cs -/
def Sb (Z : State) (h : Heap) (b t : Addr) (kb : ClassId) (cs : List Int32) (cap : Nat) : Prop :=
  Exa Z h b "java/lang/StringBuilder" ∧ (Fld Z h b "java/lang/AbstractStringBuilder" "coder" "B" (.int 0) ∧ Fld Z h b "java/lang/AbstractStringBuilder" "count" "I" (.int (Int32.ofNat cs.length))) ∧ Fld Z h b "java/lang/AbstractStringBuilder" "value" "[B" (.ref t) ∧
    Arv Z h t kb .byte (Int32.ofNat cap) (bys cs) (.int 0) ∧ (∀ c ∈ cs, B8 c) ∧ cs.length ≤ cap ∧ cap ≤ 4000
theorem Sb.keep {b t : Addr} {kb : ClassId} {cs : List Int32} {cap : Nat} {ws : List Addr} (S : Sb Z h b t kb cs cap) (K : Keep h h' ws) (q1 : b ∉ ws) (q2 : t ∉ ws) : Sb Z h' b t kb cs cap :=
  ⟨S.1.keep K, ⟨S.2.1.1.keep K q1, S.2.1.2.keep K q1⟩, S.2.2.1.keep K q1, S.2.2.2.1.keep K q2, S.2.2.2.2⟩
theorem Sb.le {b t : Addr} {kb : ClassId} {cs : List Int32} {cap : Nat} (S : Sb Z h b t kb cs cap) : cs.length ≤ cap := S.2.2.2.2.2.1
theorem Sb.le4 {b t : Addr} {kb : ClassId} {cs : List Int32} {cap : Nat} (S : Sb Z h b t kb cs cap) : cap ≤ 4000 := S.2.2.2.2.2.2
theorem Str.le4 {b t : Addr} {kb : ClassId} {cs : List Int32} (S : Str Z h b t kb cs) : cs.length ≤ 4000 := S.2.2.2.2.2
theorem own_all_app {P : Int32 → Prop} {cs ds : List Int32} (h1 : ∀ c ∈ cs, P c) (h2 : ∀ c ∈ ds, P c) : ∀ c ∈ cs ++ ds, P c := fun c q => (List.mem_append.mp q).elim (h1 c) (h2 c)
/-- all of ds is copied to the end of cs -/
theorem Core.acopyCat (C : Core p l e R s m args below meth c bs ml ret nm own Z a0 EL nw vm T h k n) {ix : Nat} {a b : Addr} {k1 k2 : ClassId} {cs ds : List Int32} {cap W : Nat}
    (w1 : (Jvm.Cond.methodLink own ix Jvm.Stand.acN).before a0 Z = true) (w2 : (Jvm.Cond.native Jvm.Stand.acN).before a0 Z = true) (w3 : (Jvm.Cond.static Jvm.Stand.acN).before a0 Z = true) (w4 : (Jvm.Cond.initialized "java/lang/System").before a0 Z = true)
    (A : Arv Z h a k1 .byte (Int32.ofNat ds.length) (bys ds) (.int 0)) (B : Arv Z h b k2 .byte (Int32.ofNat cap) (bys cs) (.int 0)) (hle : cs.length + ds.length ≤ cap) (hc : cap ≤ 4000) (ge : Z.heap.size ≤ b) (sf : Safe Z EL vm h b) (hsz : Ls.size = ml) (hd : decode bs pc = .ok (.invokestatic ix, 3)) (hp : pc + 3 = pc')
    (hf : 1 ≤ R.frames) (hW : (rest.map fun v => v.category).sum ≤ W) (hlo : W + (nativeFrameWords "java/lang/System" "arraycopy" 5 + 11) ≤ R.locals)
    (K : ∀ T' h', Core p l e R s m args below meth c bs ml ret nm own Z a0 EL nw vm T' h' k n → Keep h h' [b] → CHr Z EL vm h vm h' → Arv Z h' b k2 .byte (Int32.ofNat cap) (bys (cs ++ ds)) (.int 0) → Endw p e below T' (mkF m pc' Ls rest) F) : Endw p e below T (mkF m pc Ls (.int (Int32.ofNat ds.length) :: .int (Int32.ofNat cs.length) :: .ref b :: .int 0 :: .ref a :: rest)) F := by
  have e1 : (Int32.ofNat cs.length).toNatClampNeg = cs.length := own_nc (by omega)
  have e2 : (Int32.ofNat ds.length).toNatClampNeg = ds.length := own_nc (by omega)
  have e3 : (Int32.ofNat cap).toNatClampNeg = cap := own_nc (by omega)
  have e0 : (0 : Int32).toNatClampNeg = 0 := by decide
  refine C.acopy (ty := .byte) (vr := bys (cs ++ ds)) w1 w2 w3 w4 A (B.pad (vs' := bys cs ++ List.replicate ds.length (.int 0)) (pad_rep _ _ _)) rfl (by decide) (own_nn (by omega)) (own_nn (by omega)) (by rw [e0, e2]; omega) (by rw [e1, e2, e3]; omega) (by rw [e1, e2]; simp [bys_len]) ?_ ge sf hsz hd hp hf hW hlo K
  rw [e1, e2, e0]; exact own_cat cs ds
/-- the first m of a buffer are copied into a new array -/
theorem Core.acopyNew (C : Core p l e R s m args below meth c bs ml ret nm own Z a0 EL nw vm T h k n) {ix : Nat} {a b : Addr} {k1 k2 : ClassId} {cs : List Int32} {cap N M W : Nat}
    (w1 : (Jvm.Cond.methodLink own ix Jvm.Stand.acN).before a0 Z = true) (w2 : (Jvm.Cond.native Jvm.Stand.acN).before a0 Z = true) (w3 : (Jvm.Cond.static Jvm.Stand.acN).before a0 Z = true) (w4 : (Jvm.Cond.initialized "java/lang/System").before a0 Z = true)
    (A : Arv Z h a k1 .byte (Int32.ofNat cap) (bys cs) (.int 0)) (B : Arv Z h b k2 .byte (Int32.ofNat N) [] (.int 0)) (h1 : cs.length ≤ M) (h2 : M ≤ cap) (h3 : M ≤ N) (hc : cap ≤ 4000) (hN : N ≤ 4000) (ge : Z.heap.size ≤ b) (sf : Safe Z EL vm h b) (hsz : Ls.size = ml) (hd : decode bs pc = .ok (.invokestatic ix, 3)) (hp : pc + 3 = pc')
    (hf : 1 ≤ R.frames) (hW : (rest.map fun v => v.category).sum ≤ W) (hlo : W + (nativeFrameWords "java/lang/System" "arraycopy" 5 + 11) ≤ R.locals)
    (K : ∀ T' h', Core p l e R s m args below meth c bs ml ret nm own Z a0 EL nw vm T' h' k n → Keep h h' [b] → CHr Z EL vm h vm h' → Arv Z h' b k2 .byte (Int32.ofNat N) (bys cs) (.int 0) → Endw p e below T' (mkF m pc' Ls rest) F) : Endw p e below T (mkF m pc Ls (.int (Int32.ofNat M) :: .int 0 :: .ref b :: .int 0 :: .ref a :: rest)) F := by
  have e2 : (Int32.ofNat M).toNatClampNeg = M := own_nc (by omega)
  have e3 : (Int32.ofNat cap).toNatClampNeg = cap := own_nc (by omega)
  have e4 : (Int32.ofNat N).toNatClampNeg = N := own_nc (by omega)
  have e0 : (0 : Int32).toNatClampNeg = 0 := by decide
  have V : ∀ i, (bys cs).getD i (Value.int 0) = (bys cs ++ List.replicate (M - cs.length) (Value.int 0)).getD i (Value.int 0) := fun i => (pad_rep _ _ _ i).symm
  refine C.acopy (ty := .byte) (vr := bys cs ++ List.replicate (M - cs.length) (.int 0)) w1 w2 w3 w4 A (B.pad (vs' := [] ++ List.replicate M (.int 0)) (pad_rep _ _ _)) rfl (by decide) (by decide) (own_nn (by omega)) (by rw [e0, e2, e3]; omega) (by rw [e0, e2, e4]; omega) (by rw [e0, e2]; simp) ?_ ge sf hsz hd hp hf hW hlo ?_
  · rw [e0, e2]
    have q2 : (([] : List Value) ++ List.replicate M (Value.int 0)).drop (0 + M) = [] := by apply List.drop_eq_nil_of_le; simp
    rw [q2, List.take_zero, List.nil_append, List.append_nil]
    apply List.ext_getElem
    · simp [bys_len]; omega
    · intro i q1 q2
      simp only [List.getElem_map, List.getElem_range, Nat.zero_add]
      rw [V i, List.getD_eq_getElem?_getD, List.getElem?_eq_getElem q2]; rfl
  · intro T' h' C' Kp A' V'
    exact K T' h' C' Kp A' (V'.pad fun i => (pad_rep _ _ _ i).symm)
end Sb
end Jvm.Own
namespace Jvm.Own
open Jvm
section SbNum
theorem own_sub_le {a b : Nat} (h : a ≤ b) (hb : b ≤ 4000) : ¬ (0 : Int32) < Int32.ofNat a - Int32.ofNat b := by
  rw [Int32.lt_iff_toInt_lt, Int32.toInt_sub, own_ti (by omega), own_ti (by omega)]
  show ¬ ((0 : Int) < _)
  rw [Int.bmod_eq_of_le (by omega) (by omega)]; omega
theorem own_sub0 (x : Int32) : x - 0 = x := Int32.sub_zero x
theorem own_min_r {a b : Nat} (h : b < a) (ha : a ≤ 100000) : (if Int32.ofNat b < Int32.ofNat a then Int32.ofNat b else Int32.ofNat a) = Int32.ofNat b := if_pos ((own_lt (by omega) (by omega)).mpr h)
theorem own_min_l {a b : Nat} (h : a < b) (hb : b ≤ 100000) : (if Int32.ofNat b < Int32.ofNat a then Int32.ofNat b else Int32.ofNat a) = Int32.ofNat a := if_neg (fun q => absurd ((own_lt (by omega) (by omega)).mp q) (by omega))
theorem own_max {a b : Nat} (ha : a ≤ 4000) (hb : b ≤ 4000) : (if Int32.ofNat a < Int32.ofNat b then Int32.ofNat b else Int32.ofNat a) = Int32.ofNat (Nat.max a b) := by
  by_cases q : a < b
  · rw [if_pos ((own_lt (by omega) (by omega)).mpr q), show Nat.max a b = b from Nat.max_eq_right (by omega)]
  · rw [if_neg (fun z => q ((own_lt (by omega) (by omega)).mp z)), show Nat.max a b = a from Nat.max_eq_left (by omega)]
theorem own_pos {n : Nat} (h : 0 < n) (h2 : n < 2147483648) : (0 : Int32) < Int32.ofNat n := by
  rw [Int32.lt_iff_toInt_lt, own_ti h2]; show (0 : Int) < _; omega
theorem own_small {n : Nat} (h : n < 2147483639) : ¬ (2147483639 : Int32) < Int32.ofNat n := by
  rw [Int32.lt_iff_toInt_lt, own_ti (by omega)]; show ¬ ((2147483639 : Int) < _); omega
theorem own_nmax {n : Nat} (h : n < 2147483647) : ¬ Int32.ofNat n = (2147483647 : Int32) := fun e => by
  have := congrArg Int32.toInt e; rw [own_ti (by omega)] at this
  have e2 : (2147483647 : Int32).toInt = 2147483647 := rfl
  omega
theorem own_sub_gt {a b : Nat} (h : b < a) (ha : a ≤ 4000) : (0 : Int32) < Int32.ofNat a - Int32.ofNat b := by
  rw [own_sub (by omega)]; exact own_pos (by omega) (by omega)
/-- the capacity to which a Latin-1 builder of capacity cap grows for k chars -/
def Grow (cap k nc : Nat) : Prop := k ≤ nc ∧ nc = cap + Nat.max (k - cap) (cap + 2)
end SbNum
end Jvm.Own
namespace Jvm.Own
section Wd
/-- a char -/
def C16 (c : Int32) : Prop := ¬ c < 0 ∧ ¬ (65535 : Int32) < c
def own_lo (c : Int32) : Int32 := c.toInt8.toInt32
def own_hi (c : Int32) : Int32 := (c >>> ((8 : Int32) &&& 31)).toInt8.toInt32
/-- the chars as UTF-16 bytes, the low one first -/
def wideI : List Int32 → List Int32
  | [] => []
  | c :: r => own_lo c :: own_hi c :: wideI r
theorem wideI_len (cs : List Int32) : (wideI cs).length = 2 * cs.length := by
  induction cs with
  | nil => rfl
  | cons c r ih => simp [wideI, ih]; omega
theorem wideI_app (cs ds : List Int32) : wideI (cs ++ ds) = wideI cs ++ wideI ds := by
  induction cs with
  | nil => rfl
  | cons c r ih => simp [wideI, ih]
theorem wideI_lo (cs : List Int32) {j : Nat} (h : j < cs.length) : (wideI cs).getD (2 * j) 0 = own_lo (cs.getD j 0) := by
  induction cs generalizing j with
  | nil => exact absurd h (Nat.not_lt_zero _)
  | cons c r ih =>
    cases j with
    | zero => rfl
    | succ j => rw [show 2 * (j + 1) = 2 * j + 1 + 1 from by omega, wideI, List.getD_cons_succ, List.getD_cons_succ, List.getD_cons_succ]; exact ih (by simpa using h)
theorem wideI_hi (cs : List Int32) {j : Nat} (h : j < cs.length) : (wideI cs).getD (2 * j + 1) 0 = own_hi (cs.getD j 0) := by
  induction cs generalizing j with
  | nil => exact absurd h (Nat.not_lt_zero _)
  | cons c r ih =>
    cases j with
    | zero => rfl
    | succ j => rw [show 2 * (j + 1) + 1 = 2 * j + 1 + 1 + 1 from by omega, wideI, List.getD_cons_succ, List.getD_cons_succ, List.getD_cons_succ]; exact ih (by simpa using h)
theorem own_take1 (cs : List Int32) {j : Nat} (h : j < cs.length) : cs.take (j + 1) = cs.take j ++ [cs.getD j 0] := by
  rw [List.getD_eq_getElem?_getD, List.getElem?_eq_getElem h]
  exact (List.take_append_getElem h).symm
theorem own_toNat {x : Int32} (h0 : ¬ x < 0) : x.toInt = (x.toBitVec.toNat : Int) := by
  rw [Int32.lt_iff_toInt_lt] at h0
  have e0 : (0 : Int32).toInt = 0 := rfl
  have := x.toBitVec.isLt
  have e : x.toInt = x.toBitVec.toInt := rfl
  rw [e] at h0 ⊢
  rw [BitVec.toInt_eq_toNat_cond] at h0 ⊢
  split at h0 <;> split <;> omega
theorem own_lo_and (x : Int32) : (own_lo x &&& 255).toBitVec.toNat = x.toBitVec.toNat % 256 := by
  have h : (own_lo x).toBitVec = (x.toBitVec.signExtend 8).signExtend 32 := by rw [own_lo, Int8.toBitVec_toInt32, Int32.toBitVec_toInt8]
  rw [Int32.toBitVec_and, BitVec.toNat_and, h]
  have e : ((x.toBitVec.signExtend 8).signExtend 32).toNat % 256 = x.toBitVec.toNat % 256 := by
    rw [BitVec.toNat_signExtend]
    have hlt := x.toBitVec.isLt
    simp only [BitVec.toNat_setWidth, BitVec.toNat_signExtend]
    split <;> split <;> omega
  rw [← e]
  exact Nat.and_two_pow_sub_one_eq_mod _ 8
theorem own_c16N {c : Int32} (h : C16 c) : c.toBitVec.toNat < 65536 := by
  have hc := own_toNat h.1
  have h1 := h.2
  rw [Int32.lt_iff_toInt_lt] at h1
  have e1 : (65535 : Int32).toInt = 65535 := rfl
  omega
theorem own_shiftR (c : Int32) (k : Nat) (kk : Int32) (hk : (kk &&& 31).toBitVec.smod 32 = BitVec.ofNat 32 k) (hkl : k < 32) (hn : c.toBitVec.toNat < 2147483648) : (c >>> (kk &&& 31)).toBitVec.toNat = c.toBitVec.toNat >>> k := by
  rw [Int32.toBitVec_shiftRight, hk, BitVec.sshiftRight_eq', BitVec.toNat_sshiftRight_of_msb_false (by rw [BitVec.msb_eq_false_iff_two_mul_lt]; omega), BitVec.toNat_ofNat, Nat.mod_eq_of_lt (by omega)]
theorem own_shiftL (c : Int32) (k : Nat) (kk : Int32) (hk : (kk &&& 31).toBitVec.smod 32 = BitVec.ofNat 32 k) (hkl : k < 32) : (c <<< (kk &&& 31)).toBitVec.toNat = c.toBitVec.toNat <<< k % 2 ^ 32 := by
  rw [Int32.toBitVec_shiftLeft, hk, BitVec.shiftLeft_eq', BitVec.toNat_shiftLeft, BitVec.toNat_ofNat, Nat.mod_eq_of_lt (show k < 2 ^ 32 by omega)]
theorem own_ofN {n : Nat} (h : n < 4294967296) : (Int32.ofNat n).toBitVec.toNat = n := by
  show (BitVec.ofNat 32 n).toNat = n
  rw [BitVec.toNat_ofNat, Nat.mod_eq_of_lt (by omega)]
theorem own_bvEq {x y : Int32} (h : x.toBitVec.toNat = y.toBitVec.toNat) : x = y := Int32.toBitVec_inj.mp (BitVec.eq_of_toNat_eq h)
theorem own_shr1 {n : Nat} (h : n ≤ 4000) : Int32.ofNat (2 * n) >>> ((1 : Int32) &&& 31) = Int32.ofNat n := by
  apply own_bvEq
  rw [own_shiftR _ 1 1 (by decide) (by decide) (by rw [own_ofN (by omega)]; omega), own_ofN (by omega), own_ofN (by omega), Nat.shiftRight_eq_div_pow]
  omega
theorem own_shl1 {n : Nat} (h : n ≤ 4000) : Int32.ofNat n <<< ((1 : Int32) &&& 31) = Int32.ofNat (2 * n) := by
  apply own_bvEq
  rw [own_shiftL _ 1 1 (by decide) (by decide), own_ofN (by omega), own_ofN (by omega), Nat.shiftLeft_eq]
  omega
/-- what getChar makes of the two bytes -/
theorem own_pair {c : Int32} (h : C16 c) : ((own_lo c &&& 255) ||| ((own_hi c &&& 255) <<< ((8 : Int32) &&& 31))).toUInt32.toUInt16.toUInt32.toInt32 = c := by
  have hn := own_c16N h
  have a1 := own_lo_and c
  have a2 : (own_hi c &&& 255).toBitVec.toNat = c.toBitVec.toNat / 256 := by
    show (own_lo (c >>> ((8 : Int32) &&& 31)) &&& 255).toBitVec.toNat = _
    rw [own_lo_and, own_shiftR _ 8 8 (by decide) (by decide) (by omega), Nat.shiftRight_eq_div_pow]
    omega
  apply own_bvEq
  have g : ((own_lo c &&& 255) ||| ((own_hi c &&& 255) <<< ((8 : Int32) &&& 31))).toBitVec.toNat = c.toBitVec.toNat := by
    rw [Int32.toBitVec_or, BitVec.toNat_or, own_shiftL _ 8 8 (by decide) (by decide), a1, a2, Nat.mod_eq_of_lt (show (c.toBitVec.toNat / 256) <<< 8 < 2 ^ 32 by rw [Nat.shiftLeft_eq]; omega), Nat.or_comm, ← Nat.shiftLeft_add_eq_or_of_lt (by omega), Nat.shiftLeft_eq]
    omega
  show BitVec.toNat ((((own_lo c &&& 255) ||| ((own_hi c &&& 255) <<< ((8 : Int32) &&& 31))).toBitVec.setWidth 16).setWidth 32) = _
  rw [BitVec.toNat_setWidth, BitVec.toNat_setWidth, g]
  omega
theorem own_i2cN (x : Int32) : (x.toUInt32.toUInt16.toUInt32.toInt32).toBitVec.toNat = x.toBitVec.toNat % 65536 := by
  show BitVec.toNat ((x.toBitVec.setWidth 16).setWidth 32) = _
  rw [BitVec.toNat_setWidth, BitVec.toNat_setWidth]
  omega
theorem own_c16of {x : Int32} (h : x.toBitVec.toNat < 65536) : C16 x := by
  have e : x.toInt = x.toBitVec.toInt := rfl
  have q : x.toInt = x.toBitVec.toNat := by rw [e, BitVec.toInt_eq_toNat_cond, if_pos (by omega)]
  refine ⟨?_, ?_⟩ <;> rw [Int32.lt_iff_toInt_lt, q]
  · show ¬ (_ < (0 : Int)); omega
  · show ¬ ((65535 : Int) < _); omega
theorem own_c16i (x : Int32) : C16 (x.toUInt32.toUInt16.toUInt32.toInt32) := own_c16of (by rw [own_i2cN]; omega)
theorem own_i2c16 {x : Int32} (h : C16 x) : x.toUInt32.toUInt16.toUInt32.toInt32 = x := own_bvEq (by rw [own_i2cN]; have := own_c16N h; omega)
/-- .. of one byte -/
theorem own_chr8 {c : Int32} (h : ¬ c < 0 ∧ ¬ (255 : Int32) < c) : own_lo c &&& 255 = c := by
  have hc := own_toNat h.1
  have h1 := h.2
  rw [Int32.lt_iff_toInt_lt] at h1
  have e1 : (255 : Int32).toInt = 255 := rfl
  exact own_bvEq (by rw [own_lo_and]; omega)
/-- the coder by the array's length -/
theorem own_cod0 (n : Nat) : ((((Int32.ofNat n - Int32.ofNat n).toUInt32 >>> ((31 : Int32) &&& 31).toUInt32).toInt32).toInt8.toInt32) = 0 := by
  rw [Int32.sub_self]; decide
theorem own_cod1 {n : Nat} (h : 0 < n) (h2 : n ≤ 8) : ((((Int32.ofNat n - Int32.ofNat (2 * n)).toUInt32 >>> ((31 : Int32) &&& 31).toUInt32).toInt32).toInt8.toInt32) = 1 := by
  have q : n = 1 ∨ n = 2 ∨ n = 3 ∨ n = 4 ∨ n = 5 ∨ n = 6 ∨ n = 7 ∨ n = 8 := by omega
  rcases q with rfl | rfl | rfl | rfl | rfl | rfl | rfl | rfl <;> decide
theorem own_mod9 (n : Int32) : ((n &&& 2147483647) % 9) = 0 ∨ ((n &&& 2147483647) % 9) = 1 ∨ ((n &&& 2147483647) % 9) = 2 ∨ ((n &&& 2147483647) % 9) = 3 ∨ ((n &&& 2147483647) % 9) = 4 ∨ ((n &&& 2147483647) % 9) = 5 ∨ ((n &&& 2147483647) % 9) = 6 ∨ ((n &&& 2147483647) % 9) = 7 ∨ ((n &&& 2147483647) % 9) = 8 := by
  have e0 : (n &&& 2147483647).toBitVec.toNat ≤ 2147483647 := by rw [Int32.toBitVec_and, BitVec.toNat_and]; exact Nat.and_le_right
  have e1 : (n &&& 2147483647).toInt = ((n &&& 2147483647).toBitVec.toNat : Int) := by
    have e : (n &&& 2147483647).toInt = (n &&& 2147483647).toBitVec.toInt := rfl
    rw [e, BitVec.toInt_eq_toNat_cond, if_pos (by omega)]
  generalize (n &&& 2147483647) = y at e0 e1
  have q : (y % 9).toInt = y.toInt.tmod 9 := Int32.toInt_mod y 9
  rw [e1, Int.tmod_eq_emod_of_nonneg (by omega)] at q
  have f : ∀ k : Int32, (y % 9).toInt = k.toInt → y % 9 = k := fun k h => Int32.toInt_inj.mp h
  have : (y % 9).toInt = 0 ∨ (y % 9).toInt = 1 ∨ (y % 9).toInt = 2 ∨ (y % 9).toInt = 3 ∨ (y % 9).toInt = 4 ∨ (y % 9).toInt = 5 ∨ (y % 9).toInt = 6 ∨ (y % 9).toInt = 7 ∨ (y % 9).toInt = 8 := by omega
  rcases this with h | h | h | h | h | h | h | h | h
  · exact Or.inl (f 0 h)
  · exact Or.inr (Or.inl (f 1 h))
  · exact Or.inr (Or.inr (Or.inl (f 2 h)))
  · exact Or.inr (Or.inr (Or.inr (Or.inl (f 3 h))))
  · exact Or.inr (Or.inr (Or.inr (Or.inr (Or.inl (f 4 h)))))
  · exact Or.inr (Or.inr (Or.inr (Or.inr (Or.inr (Or.inl (f 5 h))))))
  · exact Or.inr (Or.inr (Or.inr (Or.inr (Or.inr (Or.inr (Or.inl (f 6 h)))))))
  · exact Or.inr (Or.inr (Or.inr (Or.inr (Or.inr (Or.inr (Or.inr (Or.inl (f 7 h))))))))
  · exact Or.inr (Or.inr (Or.inr (Or.inr (Or.inr (Or.inr (Or.inr (Or.inr (f 8 h))))))))
/-- what stands at place i -/
theorem own_at (cs : List Int32) {i : Nat} (h : i ≤ cs.length) : (cs.drop i = [] ∧ i = cs.length) ∨ ∃ x r, cs.drop i = x :: r ∧ i < cs.length ∧ cs.getD i 0 = x ∧ cs.drop (i + 1) = r := by
  by_cases q : i < cs.length
  · refine Or.inr ⟨cs[i], cs.drop (i + 1), List.drop_eq_getElem_cons q, q, ?_, rfl⟩
    rw [List.getD_eq_getElem?_getD, List.getElem?_eq_getElem q]; rfl
  · have e : i = cs.length := by omega
    exact Or.inl ⟨by rw [e]; exact List.drop_length, e⟩
end Wd
end Jvm.Own
namespace Jvm.Own
open Jvm Jvm.ClassFile Sem Op Lib Jvm.Free Jvm.Stand Jvm.LawKit Jvm.RoadKit Bundle
section Wide
variable {p : Program} {l : Launch} {e : Env} {R : Room} {s : State} {m : MethodId} {args : Array Value} {below : List Frame} {meth : Method} {c : Code}
variable {bs : ByteArray} {ml : Nat} {ret : Option FieldType} {nm own : String} {Z : State} {a0 : Array Value} {EL : List (String × Nat)} {nw : Bool} {vm : Vm} {T T' : State} {h h' : Heap} {k n : Nat} {F : Outcome → State → Prop} {pc pc' : Nat} {Ls : Array Slot} {rest : List Value}
/-- ints as values -/
def own_vals (cs : List Int32) : List Value := cs.map Value.int
def own_wide (cs : List Int32) : List Value := own_vals (wideI cs)
theorem own_mapD (xs : List Int32) (i : Nat) : (own_vals xs).getD i (.int 0) = .int (xs.getD i 0) := by
  rw [own_vals, List.getD_eq_getElem?_getD, List.getElem?_map, List.getD_eq_getElem?_getD]
  cases xs[i]? <;> rfl
theorem own_valsLen (xs : List Int32) : (own_vals xs).length = xs.length := List.length_map _
theorem own_vals1 (xs : List Int32) (x : Int32) : own_vals (xs ++ [x]) = own_vals xs ++ [.int x] := by simp [own_vals]
theorem own_vals2 (xs : List Int32) (x y : Int32) : own_vals (xs ++ [x, y]) = own_vals xs ++ [.int x] ++ [.int y] := by simp [own_vals]
theorem own_bys1 (cs : List Int32) (x : Int32) : bys (cs ++ [x]) = bys cs ++ [.int x.toInt8.toInt32] := by simp [bys]
theorem own_bysV (cs : List Int32) : bys cs = own_vals (cs.map own_lo) := rfl
theorem own_bysD (cs : List Int32) {j : Nat} (h : j < cs.length) : (bys cs).getD j (.int 0) = .int (own_lo (cs.getD j 0)) := by
  rw [own_bysV, own_mapD]; congr 1
  rw [List.getD_eq_getElem?_getD, List.getElem?_map, List.getD_eq_getElem?_getD, List.getElem?_eq_getElem h]; rfl
theorem own_takeAll {P : Int32 → Prop} {cs : List Int32} {j : Nat} (h : j < cs.length) (q : ∀ c ∈ cs.take j, P c) (r : P (cs.getD j 0)) : ∀ c ∈ cs.take (j + 1), P c := by
  rw [own_take1 cs h]
  exact own_all_app q (own_cS r own_c0)
theorem own_getAll {P : Int32 → Prop} {cs : List Int32} {j : Nat} (h : j < cs.length) (q : ∀ c ∈ cs, P c) : P (cs.getD j 0) := by
  rw [List.getD_eq_getElem?_getD, List.getElem?_eq_getElem h]; exact q _ (List.getElem_mem h)
theorem own_narC {x : Int32} (h : C16 x) : narrow .char (.int x) = .int x := congrArg Value.int (own_i2c16 h)
theorem own_narCi (x : Int32) : narrow .char (.int x.toUInt32.toUInt16.toUInt32.toInt32) = .int x.toUInt32.toUInt16.toUInt32.toInt32 := own_narC (own_c16i x)
theorem own_narB (x : Int32) : narrow .byte (.int x.toInt8.toInt32) = .int x.toInt8.toInt32 := congrArg Value.int own_nar_byte
theorem own_b8of {x : Int32} (h : C16 x) (q : ¬ (255 : Int32) < x) : B8 x := ⟨h.1, q⟩
theorem own_inc (j : Nat) : Int32.ofNat j + (1 : Int32) = Int32.ofNat (j + 1) := own_add j 1
theorem own_lt30 {n : Nat} (h : n ≤ 4000) : Int32.ofNat n < (1073741823 : Int32) := by
  rw [Int32.lt_iff_toInt_lt, own_ti (by omega)]; show (_ : Int) < 1073741823; omega
theorem own_n0 {n : Nat} (h : 0 < n) (h2 : n ≤ 4000) : ¬ Int32.ofNat n = (0 : Int32) := fun q => absurd ((own_ieq (b := 0) (by omega) (by omega)).mp q) (by omega)
/-- the String at a: UTF-16, its byte[] at b, its chars cs -/
def Wid (Z : State) (h : Heap) (a b : Addr) (kb : ClassId) (cs : List Int32) : Prop :=
  Exa Z h a "java/lang/String" ∧ Fld Z h a "java/lang/String" "coder" "B" (.int 1) ∧ Fld Z h a "java/lang/String" "value" "[B" (.ref b) ∧
    Arv Z h b kb .byte (Int32.ofNat (2 * cs.length)) (own_wide cs) (.int 0) ∧ (∀ c ∈ cs, C16 c) ∧ cs.length ≤ 8
theorem Wid.keep {a b : Addr} {kb : ClassId} {cs : List Int32} {ws : List Addr} (S : Wid Z h a b kb cs) (K : Keep h h' ws) (q1 : a ∉ ws) (q2 : b ∉ ws) : Wid Z h' a b kb cs :=
  ⟨S.1.keep K, S.2.1.keep K q1, S.2.2.1.keep K q1, S.2.2.2.1.keep K q2, S.2.2.2.2⟩
/-- .. Latin-1 or UTF-16 -/
def Txt (Z : State) (h : Heap) (a b : Addr) (kb : ClassId) (cs : List Int32) : Prop := (Str Z h a b kb cs ∧ cs.length ≤ 8) ∨ Wid Z h a b kb cs
theorem Txt.keep {a b : Addr} {kb : ClassId} {cs : List Int32} {ws : List Addr} (S : Txt Z h a b kb cs) (K : Keep h h' ws) (q1 : a ∉ ws) (q2 : b ∉ ws) : Txt Z h' a b kb cs :=
  S.imp (fun q => ⟨q.1.keep K q1 q2, q.2⟩) (fun q => q.keep K q1 q2)
theorem Txt.exa {a b : Addr} {kb : ClassId} {cs : List Int32} (S : Txt Z h a b kb cs) : Exa Z h a "java/lang/String" := S.elim (fun q => q.1.1) (fun q => q.1)
theorem Txt.le8 {a b : Addr} {kb : ClassId} {cs : List Int32} (S : Txt Z h a b kb cs) : cs.length ≤ 8 := S.elim (fun q => q.2) (fun q => q.2.2.2.2.2)
theorem Txt.lt1 {a b : Addr} {kb : ClassId} {cs : List Int32} (S : Txt Z h a b kb cs) : a < h.size := S.exa.lt
theorem Txt.lt2 {a b : Addr} {kb : ClassId} {cs : List Int32} (S : Txt Z h a b kb cs) : b < h.size := S.elim (fun q => q.1.2.2.2.1.lt) (fun q => q.2.2.2.1.lt)
theorem Core.bastoreEnd (C : Core p l e R s m args below meth c bs ml ret nm own Z a0 EL nw vm T h k n) {a : Addr} {kA : ClassId} {N i : Nat} {x x' : Int32} {vs : List Value} (A : Arv Z h a kA .byte (Int32.ofNat N) vs (.int 0)) (hi : vs.length = i) (hlt : i < N) (hN : N ≤ 4000) (hx' : nar .byte x = x') (ge : Z.heap.size ≤ a) (sf : Safe Z EL vm h a) (hd : decode bs pc = .ok (.bastore, 1)) (hp : pc + 1 = pc')
    (K : ∀ T' h', Core p l e R s m args below meth c bs ml ret nm own Z a0 EL nw vm T' h' k n → Keep h h' [a] → CHr Z EL vm h vm h' → Arv Z h' a kA .byte (Int32.ofNat N) (vs ++ [.int x']) (.int 0) → Endw p e below T' (mkF m pc' Ls rest) F) : Endw p e below T (mkF m pc Ls (.int x :: .int (Int32.ofNat i) :: .ref a :: rest)) F := by
  refine C.bastore (vs' := vs ++ [.int x']) (A.pad (vs' := vs ++ List.replicate 1 (.int 0)) (pad_rep _ _ _)) ⟨own_nn (by omega), (own_lt (by omega) (by omega)).mpr hlt⟩ i (own_nc (by omega)) (by simp; omega) hx' ge sf ?_ hd hp K
  subst hi
  rw [List.set_append_right _ _ (Nat.le_refl _), Nat.sub_self]; rfl
theorem Core.caloadN (C : Core p l e R s m args below meth c bs ml ret nm own Z a0 EL nw vm T h k n) {a : Addr} {kA : ClassId} {N j : Nat} {vs : List Value} {dv v : Value} (A : Arv Z h a kA .char (Int32.ofNat N) vs dv) (hj : j < N) (hN : N ≤ 8000) (hv : vs.getD j dv = v) (hd : decode bs pc = .ok (.caload, 1)) (hp : pc + 1 = pc')
    (K : Endw p e below T (mkF m pc' Ls (v :: rest)) F) : Endw p e below T (mkF m pc Ls (.int (Int32.ofNat j) :: .ref a :: rest)) F :=
  C.caload A ⟨own_nn (by omega), (own_lt (by omega) (by omega)).mpr hj⟩ (by rw [own_nc (by omega)]; exact hv) hd hp K
theorem Core.baloadN (C : Core p l e R s m args below meth c bs ml ret nm own Z a0 EL nw vm T h k n) {a : Addr} {kA : ClassId} {N j : Nat} {vs : List Value} {dv v : Value} (A : Arv Z h a kA .byte (Int32.ofNat N) vs dv) (hj : j < N) (hN : N ≤ 8000) (hv : vs.getD j dv = v) (hd : decode bs pc = .ok (.baload, 1)) (hp : pc + 1 = pc')
    (K : Endw p e below T (mkF m pc' Ls (v :: rest)) F) : Endw p e below T (mkF m pc Ls (.int (Int32.ofNat j) :: .ref a :: rest)) F :=
  C.baload A ⟨own_nn (by omega), (own_lt (by omega) (by omega)).mpr hj⟩ (by rw [own_nc (by omega)]; exact hv) hd hp K
end Wide
end Jvm.Own
namespace Jvm.Own
section Dec
def own_dig (x : Int32) : Int32 := if x < 48 then 0 else if 57 < x then 0 else 1
def own_sgn (x : Int32) : Int32 := if x = 43 then 1 else if x = 45 then 1 else 0
def own_exp (x : Int32) : Int32 := if x = 101 then 1 else if x = 69 then 1 else 0
/-- the law's automaton -/
def own_step (s x : Int32) : Int32 :=
  if s = 0 then (if own_dig x = 0 then (if own_sgn x = 0 then (if x = 46 then 3 else 8) else 1) else 2)
  else if s = 1 then (if own_dig x = 0 then (if x = 46 then 3 else 8) else 2)
  else if s = 2 then (if own_dig x = 0 then (if x = 46 then 4 else if own_exp x = 0 then 8 else 5) else 2)
  else if s = 3 then (if own_dig x = 0 then 8 else 4)
  else if s = 4 then (if own_dig x = 0 then (if own_exp x = 0 then 8 else 5) else 4)
  else if s = 5 then (if own_sgn x = 0 then (if own_dig x = 0 then 8 else 7) else 6)
  else if s = 6 then (if own_dig x = 0 then 8 else 7)
  else if s = 7 then (if own_dig x = 0 then 8 else 7)
  else 8
def own_acc (s : Int32) : Int32 := if s = 2 then 1 else if s = 4 then 1 else if s = 7 then 1 else 0
/-- digitsFrom: how many digits stand at the head -/
def own_dg : List Int32 → Nat
  | [] => 0
  | x :: r => if x < 48 then 0 else if 57 < x then 0 else own_dg r + 1
def own_sg : List Int32 → Nat
  | [] => 0
  | x :: _ => if x = 43 then 1 else if x = 45 then 1 else 0
def own_D4 : List Int32 → Int32
  | [] => 1
  | _ :: _ => 0
def own_D6 (r : List Int32) : Int32 := if own_dg r = 0 then 0 else own_D4 (r.drop (own_dg r))
def own_D5 (r : List Int32) : Int32 := own_D6 (r.drop (own_sg r))
def own_D3 : List Int32 → Int32
  | [] => 1
  | x :: r => if x = 101 then own_D5 r else if x = 69 then own_D5 r else 0
def own_D93 (d : Int32) (r : List Int32) : Int32 := if d = 0 then 0 else own_D3 r
def own_D2 (d : Int32) : List Int32 → Int32
  | [] => own_D93 d []
  | x :: r => if x = 46 then own_D93 (d ||| (if own_dg r = 0 then 0 else 1)) (r.drop (own_dg r)) else own_D93 d (x :: r)
def own_D1 (r : List Int32) : Int32 := own_D2 (if own_dg r = 0 then 0 else 1) (r.drop (own_dg r))
/-- isDecimal -/
def own_isDec (cs : List Int32) : Int32 := own_D1 (cs.drop (own_sg cs))
-- the plain law
theorem own_run8 (r : List Int32) : r.foldl own_step 8 = 8 := by
  induction r with
  | nil => rfl
  | cons x r ih => rw [List.foldl_cons, show own_step 8 x = 8 from rfl, ih]
theorem own_digN {x : Int32} (h : ¬ own_dig x = 0) : ¬ x < 48 ∧ ¬ 57 < x := by
  unfold own_dig at h
  by_cases h1 : x < 48
  · rw [if_pos h1] at h; exact absurd rfl h
  · by_cases h2 : 57 < x
    · rw [if_neg h1, if_pos h2] at h; exact absurd rfl h
    · exact ⟨h1, h2⟩
theorem own_dig1 {x : Int32} (h : ¬ own_dig x = 0) (r : List Int32) : own_dg (x :: r) = own_dg r + 1 := by
  obtain ⟨h1, h2⟩ := own_digN h; rw [own_dg, if_neg h1, if_neg h2]
theorem own_dig0 {x : Int32} (h : own_dig x = 0) (r : List Int32) : own_dg (x :: r) = 0 := by
  by_cases h1 : x < 48
  · rw [own_dg, if_pos h1]
  · by_cases h2 : 57 < x
    · rw [own_dg, if_neg h1, if_pos h2]
    · unfold own_dig at h; rw [if_neg h1, if_neg h2] at h; exact absurd h (by decide)
theorem own_step7 (x : Int32) : own_step 7 x = if own_dig x = 0 then 8 else 7 := rfl
theorem own_step6 (x : Int32) : own_step 6 x = if own_dig x = 0 then 8 else 7 := rfl
theorem own_step5 (x : Int32) : own_step 5 x = (if own_sgn x = 0 then (if own_dig x = 0 then 8 else 7) else 6) := rfl
theorem own_step4 (x : Int32) : own_step 4 x = (if own_dig x = 0 then (if own_exp x = 0 then 8 else 5) else 4) := rfl
theorem own_step3 (x : Int32) : own_step 3 x = (if own_dig x = 0 then 8 else 4) := rfl
theorem own_step2 (x : Int32) : own_step 2 x = (if own_dig x = 0 then (if x = 46 then 4 else if own_exp x = 0 then 8 else 5) else 2) := rfl
theorem own_step1 (x : Int32) : own_step 1 x = (if own_dig x = 0 then (if x = 46 then 3 else 8) else 2) := rfl
theorem own_step0 (x : Int32) : own_step 0 x = (if own_dig x = 0 then (if own_sgn x = 0 then (if x = 46 then 3 else 8) else 1) else 2) := rfl
theorem own_acc8 (r : List Int32) : own_acc (r.foldl own_step 8) = 0 := by rw [own_run8]; rfl
theorem own_run7 (r : List Int32) : own_acc (r.foldl own_step 7) = own_D4 (r.drop (own_dg r)) := by
  induction r with
  | nil => rfl
  | cons x r ih =>
    rw [List.foldl_cons, own_step7]
    by_cases h : own_dig x = 0
    · rw [if_pos h, own_acc8, own_dig0 h]; rfl
    · rw [if_neg h, own_dig1 h, List.drop_succ_cons, ih]
theorem own_run6 (r : List Int32) : own_acc (r.foldl own_step 6) = own_D6 r := by
  cases r with
  | nil => rfl
  | cons x r =>
    rw [List.foldl_cons, own_step6, own_D6]
    by_cases h : own_dig x = 0
    · rw [if_pos h, own_acc8, own_dig0 h]; rfl
    · rw [if_neg h, own_dig1 h, List.drop_succ_cons, own_run7, if_neg (Nat.succ_ne_zero _)]
theorem own_sgnP {x : Int32} (h : ¬ own_sgn x = 0) : x = 43 ∨ x = 45 := by
  unfold own_sgn at h
  by_cases h1 : x = 43
  · exact Or.inl h1
  · by_cases h2 : x = 45
    · exact Or.inr h2
    · rw [if_neg h1, if_neg h2] at h; exact absurd rfl h
theorem own_sgN {x : Int32} (h : own_sgn x = 0) (r : List Int32) : own_sg (x :: r) = 0 := by
  unfold own_sgn at h
  by_cases h1 : x = 43
  · rw [if_pos h1] at h; exact absurd h (by decide)
  · by_cases h2 : x = 45
    · rw [if_neg h1, if_pos h2] at h; exact absurd h (by decide)
    · rw [own_sg, if_neg h1, if_neg h2]
theorem own_sgP {x : Int32} (h : ¬ own_sgn x = 0) (r : List Int32) : own_sg (x :: r) = 1 := by
  rcases own_sgnP h with rfl | rfl <;> rfl
theorem own_run5 (r : List Int32) : own_acc (r.foldl own_step 5) = own_D5 r := by
  cases r with
  | nil => rfl
  | cons x r =>
    rw [List.foldl_cons, own_step5, own_D5]
    by_cases h : own_sgn x = 0
    · rw [if_pos h, own_sgN h, List.drop_zero, own_D6]
      by_cases g : own_dig x = 0
      · rw [if_pos g, own_acc8, own_dig0 g]; rfl
      · rw [if_neg g, own_dig1 g, List.drop_succ_cons, own_run7, if_neg (Nat.succ_ne_zero _)]
    · rw [if_neg h, own_sgP h, own_run6]; rfl
theorem own_expD {x : Int32} (h : ¬ own_exp x = 0) (r : List Int32) : own_D3 (x :: r) = own_D5 r := by
  unfold own_exp at h
  by_cases h1 : x = 101
  · rw [own_D3, if_pos h1]
  · by_cases h2 : x = 69
    · rw [own_D3, if_neg h1, if_pos h2]
    · rw [if_neg h1, if_neg h2] at h; exact absurd rfl h
theorem own_expN {x : Int32} (h : own_exp x = 0) (r : List Int32) : own_D3 (x :: r) = 0 := by
  unfold own_exp at h
  by_cases h1 : x = 101
  · rw [if_pos h1] at h; exact absurd h (by decide)
  · by_cases h2 : x = 69
    · rw [if_neg h1, if_pos h2] at h; exact absurd h (by decide)
    · rw [own_D3, if_neg h1, if_neg h2]
theorem own_run4 (r : List Int32) : own_acc (r.foldl own_step 4) = own_D3 (r.drop (own_dg r)) := by
  induction r with
  | nil => rfl
  | cons x r ih =>
    rw [List.foldl_cons, own_step4]
    by_cases h : own_dig x = 0
    · rw [if_pos h, own_dig0 h, List.drop_zero]
      by_cases g : own_exp x = 0
      · rw [if_pos g, own_acc8, own_expN g]
      · rw [if_neg g, own_run5, own_expD g]
    · rw [if_neg h, own_dig1 h, List.drop_succ_cons, ih]
theorem own_run3 (r : List Int32) : own_acc (r.foldl own_step 3) = own_D93 (if own_dg r = 0 then 0 else 1) (r.drop (own_dg r)) := by
  cases r with
  | nil => rfl
  | cons x r =>
    rw [List.foldl_cons, own_step3]
    by_cases h : own_dig x = 0
    · rw [if_pos h, own_dig0 h, own_acc8]; rfl
    · rw [if_neg h, own_dig1 h, own_run4, if_neg (Nat.succ_ne_zero _)]; rfl
theorem own_or1 (d : Nat) : ((1 : Int32) ||| (if d = 0 then 0 else 1)) = 1 := by
  by_cases h : d = 0
  · rw [if_pos h]; decide
  · rw [if_neg h]; decide
theorem own_or0 (d : Nat) : ((0 : Int32) ||| (if d = 0 then 0 else 1)) = if d = 0 then 0 else 1 := by
  by_cases h : d = 0
  · rw [if_pos h]; decide
  · rw [if_neg h]; decide
theorem own_run2 (r : List Int32) : own_acc (r.foldl own_step 2) = own_D2 1 (r.drop (own_dg r)) := by
  induction r with
  | nil => rfl
  | cons x r ih =>
    rw [List.foldl_cons, own_step2]
    by_cases h : own_dig x = 0
    · rw [if_pos h, own_dig0 h, List.drop_zero, own_D2]
      by_cases g : x = 46
      · rw [if_pos g, if_pos g, own_run4, own_or1]; rfl
      · rw [if_neg g, if_neg g]
        by_cases k : own_exp x = 0
        · rw [if_pos k, own_acc8]; exact (own_expN k r).symm
        · rw [if_neg k, own_run5]; exact (own_expD k r).symm
    · rw [if_neg h, own_dig1 h, List.drop_succ_cons, ih]
theorem own_dot (r : List Int32) : own_D2 0 (46 :: r) = own_acc (r.foldl own_step 3) := by
  rw [own_D2, if_pos rfl, own_or0, own_run3]
theorem own_run1 (r : List Int32) : own_acc (r.foldl own_step 1) = own_D1 r := by
  cases r with
  | nil => rfl
  | cons x r =>
    rw [List.foldl_cons, own_step1, own_D1]
    by_cases h : own_dig x = 0
    · rw [if_pos h, own_dig0 h, List.drop_zero, if_pos rfl]
      by_cases g : x = 46
      · rw [if_pos g, g, own_dot]
      · rw [if_neg g, own_acc8, own_D2, if_neg g]; rfl
    · rw [if_neg h, own_dig1 h, List.drop_succ_cons, own_run2, if_neg (Nat.succ_ne_zero _)]
theorem own_run0 (r : List Int32) : own_acc (r.foldl own_step 0) = own_isDec r := by
  cases r with
  | nil => rfl
  | cons x r =>
    rw [List.foldl_cons, own_isDec]
    by_cases k : own_sgn x = 0
    · rw [own_sgN k, List.drop_zero, ← own_run1, List.foldl_cons]
      congr 2
      rw [own_step0, own_step1, if_pos k]
    · rw [own_sgP k, List.drop_succ_cons, List.drop_zero, ← own_run1]
      rcases own_sgnP k with rfl | rfl <;> rfl
theorem own_dgle (r : List Int32) : own_dg r ≤ r.length := by
  induction r with
  | nil => exact Nat.le_refl 0
  | cons x r ih =>
    rw [own_dg, List.length_cons]
    split
    · omega
    · split
      · omega
      · omega
theorem own_dgB (cs : List Int32) (i : Nat) : own_dg (cs.drop i) ≤ cs.length - i := by
  have := own_dgle (cs.drop i); rwa [List.length_drop] at this
theorem own_dd (cs : List Int32) (j k : Nat) : (cs.drop j).drop k = cs.drop (j + k) := List.drop_drop
end Dec
end Jvm.Own
namespace Jvm.Pilot.@@N@@
open Jvm Jvm.ClassFile Sem Op Lib Jvm.Free Jvm.Stand Jvm.LawKit Jvm.RoadKit Bundle Jvm.Own Jvm.Pilot.@@N@@.Jvm.D
theorem d0_0 : decode jdk_52_method_3_code 0 = .ok (.iload_n 0, 1) := by decide +kernel
theorem d0_1 : decode jdk_52_method_3_code 1 = .ok (.ifCond .ge 11, 3) := by decide +kernel
theorem d0_12 : decode jdk_52_method_3_code 12 = .ok (.iload_n 0, 1) := by decide +kernel
theorem d0_13 : decode jdk_52_method_3_code 13 = .ok (.ldc 20, 2) := by decide +kernel
theorem W64 {Z : State} {a0 : Array Value} (hw : ∀ d ∈ tables_1, d.before a0 Z = true) : (Jvm.Cond.constant "java/lang/StringUTF16" (20 : Nat) (1073741823 : Int32)).before a0 Z = true := hw _ (List.mem_of_getElem? (i := 64) rfl)
theorem d0_15 : decode jdk_52_method_3_code 15 = .ok (.if_icmp .lt 40, 3) := by decide +kernel
theorem d0_55 : decode jdk_52_method_3_code 55 = .ok (.iload_n 0, 1) := by decide +kernel
theorem d0_56 : decode jdk_52_method_3_code 56 = .ok (.iconst 1, 1) := by decide +kernel
theorem d0_57 : decode jdk_52_method_3_code 57 = .ok (.ishl, 1) := by decide +kernel
theorem d0_58 : decode jdk_52_method_3_code 58 = .ok (.ireturn, 1) := by decide +kernel
theorem pn_675554463136_5 : plainName "java/lang/StringUTF16" = true := by first | (simp [plainName, overriddenIn]; done) | decide +kernel
theorem d1_0 : decode jdk_52_method_2_code 0 = .ok (.iload_n 0, 1) := by decide +kernel
theorem d1_1 : decode jdk_52_method_2_code 1 = .ok (.invokestatic 11, 3) := by decide +kernel
theorem W61 {Z : State} {a0 : Array Value} (hw : ∀ d ∈ tables_1, d.before a0 Z = true) : (Jvm.Cond.methodLink "java/lang/StringUTF16" (11 : Nat) ({ cls := "java/lang/StringUTF16", name := "newBytesLength", desc := "(I)I" } : Jvm.MethodName)).before a0 Z = true := hw _ (List.mem_of_getElem? (i := 61) rfl)
theorem pd_28492949 : parseMethodDescriptor "(I)I" = some ⟨[.int], (some .int)⟩ := by decide +kernel
theorem W62 {Z : State} {a0 : Array Value} (hw : ∀ d ∈ tables_1, d.before a0 Z = true) : (Jvm.Cond.static ({ cls := "java/lang/StringUTF16", name := "newBytesLength", desc := "(I)I" } : Jvm.MethodName)).before a0 Z = true := hw _ (List.mem_of_getElem? (i := 62) rfl)
theorem W63 {Z : State} {a0 : Array Value} (hw : ∀ d ∈ tables_1, d.before a0 Z = true) : (Jvm.Cond.code ({ cls := "java/lang/StringUTF16", name := "newBytesLength", desc := "(I)I" } : Jvm.MethodName) jdk_52_method_3_code (1 : Nat) (Option.some Jvm.ClassFile.FieldType.int)).before a0 Z = true := hw _ (List.mem_of_getElem? (i := 63) rfl)
theorem W50 {Z : State} {a0 : Array Value} (hw : ∀ d ∈ tables_1, d.before a0 Z = true) : (Jvm.Cond.initialized "java/lang/StringUTF16").before a0 Z = true := hw _ (List.mem_of_getElem? (i := 50) rfl)
theorem d1_4 : decode jdk_52_method_2_code 4 = .ok (.newarray .byte, 2) := by decide +kernel
theorem W23 {Z : State} {a0 : Array Value} (hw : ∀ d ∈ tables_1, d.before a0 Z = true) : (Jvm.Cond.arrayClass Jvm.ClassFile.FieldType.byte).before a0 Z = true := hw _ (List.mem_of_getElem? (i := 23) rfl)
theorem d1_6 : decode jdk_52_method_2_code 6 = .ok (.areturn, 1) := by decide +kernel
theorem d2_0 : decode jdk_52_method_4_code 0 = .ok (.getstatic 44, 3) := by decide +kernel
theorem W68 {Z : State} {a0 : Array Value} (hw : ∀ d ∈ tables_1, d.before a0 Z = true) : (Jvm.Cond.fieldLink "java/lang/StringUTF16" (44 : Nat) "java/lang/StringUTF16" "$assertionsDisabled" "Z").before a0 Z = true := hw _ (List.mem_of_getElem? (i := 68) rfl)
theorem d2_3 : decode jdk_52_method_4_code 3 = .ok (.ifCond .ne 25, 3) := by decide +kernel
theorem d2_28 : decode jdk_52_method_4_code 28 = .ok (.iload_n 1, 1) := by decide +kernel
theorem d2_29 : decode jdk_52_method_4_code 29 = .ok (.iconst 1, 1) := by decide +kernel
theorem d2_30 : decode jdk_52_method_4_code 30 = .ok (.ishl, 1) := by decide +kernel
theorem d2_31 : decode jdk_52_method_4_code 31 = .ok (.istore_n 1, 1) := by decide +kernel
theorem d2_32 : decode jdk_52_method_4_code 32 = .ok (.aload_n 0, 1) := by decide +kernel
theorem d2_33 : decode jdk_52_method_4_code 33 = .ok (.iload_n 1, 1) := by decide +kernel
theorem d2_34 : decode jdk_52_method_4_code 34 = .ok (.iinc 1 1, 3) := by decide +kernel
theorem d2_37 : decode jdk_52_method_4_code 37 = .ok (.iload_n 2, 1) := by decide +kernel
theorem d2_38 : decode jdk_52_method_4_code 38 = .ok (.getstatic 59, 3) := by decide +kernel
theorem W69 {Z : State} {a0 : Array Value} (hw : ∀ d ∈ tables_1, d.before a0 Z = true) : (Jvm.Cond.fieldLink "java/lang/StringUTF16" (59 : Nat) "java/lang/StringUTF16" "HI_BYTE_SHIFT" "I").before a0 Z = true := hw _ (List.mem_of_getElem? (i := 69) rfl)
theorem d2_41 : decode jdk_52_method_4_code 41 = .ok (.ishr, 1) := by decide +kernel
theorem d2_42 : decode jdk_52_method_4_code 42 = .ok (.i2b, 1) := by decide +kernel
theorem d2_43 : decode jdk_52_method_4_code 43 = .ok (.bastore, 1) := by decide +kernel
theorem d2_44 : decode jdk_52_method_4_code 44 = .ok (.aload_n 0, 1) := by decide +kernel
theorem d2_45 : decode jdk_52_method_4_code 45 = .ok (.iload_n 1, 1) := by decide +kernel
theorem d2_46 : decode jdk_52_method_4_code 46 = .ok (.iload_n 2, 1) := by decide +kernel
theorem d2_47 : decode jdk_52_method_4_code 47 = .ok (.getstatic 63, 3) := by decide +kernel
theorem W70 {Z : State} {a0 : Array Value} (hw : ∀ d ∈ tables_1, d.before a0 Z = true) : (Jvm.Cond.fieldLink "java/lang/StringUTF16" (63 : Nat) "java/lang/StringUTF16" "LO_BYTE_SHIFT" "I").before a0 Z = true := hw _ (List.mem_of_getElem? (i := 70) rfl)
theorem d2_50 : decode jdk_52_method_4_code 50 = .ok (.ishr, 1) := by decide +kernel
theorem d2_51 : decode jdk_52_method_4_code 51 = .ok (.i2b, 1) := by decide +kernel
theorem d2_52 : decode jdk_52_method_4_code 52 = .ok (.bastore, 1) := by decide +kernel
theorem d2_53 : decode jdk_52_method_4_code 53 = .ok (.return_, 1) := by decide +kernel
theorem d3_0 : decode jdk_52_method_5_code 0 = .ok (.getstatic 44, 3) := by decide +kernel
theorem d3_3 : decode jdk_52_method_5_code 3 = .ok (.ifCond .ne 25, 3) := by decide +kernel
theorem d3_28 : decode jdk_52_method_5_code 28 = .ok (.iload_n 1, 1) := by decide +kernel
theorem d3_29 : decode jdk_52_method_5_code 29 = .ok (.iconst 1, 1) := by decide +kernel
theorem d3_30 : decode jdk_52_method_5_code 30 = .ok (.ishl, 1) := by decide +kernel
theorem d3_31 : decode jdk_52_method_5_code 31 = .ok (.istore_n 1, 1) := by decide +kernel
theorem d3_32 : decode jdk_52_method_5_code 32 = .ok (.aload_n 0, 1) := by decide +kernel
theorem d3_33 : decode jdk_52_method_5_code 33 = .ok (.iload_n 1, 1) := by decide +kernel
theorem d3_34 : decode jdk_52_method_5_code 34 = .ok (.iinc 1 1, 3) := by decide +kernel
theorem d3_37 : decode jdk_52_method_5_code 37 = .ok (.baload, 1) := by decide +kernel
theorem d3_38 : decode jdk_52_method_5_code 38 = .ok (.sipush 255, 3) := by decide +kernel
theorem d3_41 : decode jdk_52_method_5_code 41 = .ok (.iand, 1) := by decide +kernel
theorem d3_42 : decode jdk_52_method_5_code 42 = .ok (.getstatic 59, 3) := by decide +kernel
theorem d3_45 : decode jdk_52_method_5_code 45 = .ok (.ishl, 1) := by decide +kernel
theorem d3_46 : decode jdk_52_method_5_code 46 = .ok (.aload_n 0, 1) := by decide +kernel
theorem d3_47 : decode jdk_52_method_5_code 47 = .ok (.iload_n 1, 1) := by decide +kernel
theorem d3_48 : decode jdk_52_method_5_code 48 = .ok (.baload, 1) := by decide +kernel
theorem d3_49 : decode jdk_52_method_5_code 49 = .ok (.sipush 255, 3) := by decide +kernel
theorem d3_52 : decode jdk_52_method_5_code 52 = .ok (.iand, 1) := by decide +kernel
theorem d3_53 : decode jdk_52_method_5_code 53 = .ok (.getstatic 63, 3) := by decide +kernel
theorem d3_56 : decode jdk_52_method_5_code 56 = .ok (.ishl, 1) := by decide +kernel
theorem d3_57 : decode jdk_52_method_5_code 57 = .ok (.ior, 1) := by decide +kernel
theorem d3_58 : decode jdk_52_method_5_code 58 = .ok (.i2c, 1) := by decide +kernel
theorem d3_59 : decode jdk_52_method_5_code 59 = .ok (.ireturn, 1) := by decide +kernel
theorem d4_3 : decode jdk_52_method_21_code 3 = .ok (.iload 5, 2) := by decide +kernel
theorem d4_5 : decode jdk_52_method_21_code 5 = .ok (.iload 4, 2) := by decide +kernel
theorem d4_7 : decode jdk_52_method_21_code 7 = .ok (.if_icmp .ge 37, 3) := by decide +kernel
theorem d4_44 : decode jdk_52_method_21_code 44 = .ok (.iload 4, 2) := by decide +kernel
theorem d4_46 : decode jdk_52_method_21_code 46 = .ok (.ireturn, 1) := by decide +kernel
theorem d4_10 : decode jdk_52_method_21_code 10 = .ok (.aload_n 0, 1) := by decide +kernel
theorem d4_11 : decode jdk_52_method_21_code 11 = .ok (.iload_n 1, 1) := by decide +kernel
theorem d4_12 : decode jdk_52_method_21_code 12 = .ok (.caload, 1) := by decide +kernel
theorem d4_13 : decode jdk_52_method_21_code 13 = .ok (.istore 6, 2) := by decide +kernel
theorem d4_15 : decode jdk_52_method_21_code 15 = .ok (.iload 6, 2) := by decide +kernel
theorem d4_17 : decode jdk_52_method_21_code 17 = .ok (.sipush 255, 3) := by decide +kernel
theorem d4_20 : decode jdk_52_method_21_code 20 = .ok (.if_icmp .le 6, 3) := by decide +kernel
theorem d4_23 : decode jdk_52_method_21_code 23 = .ok (.iload 5, 2) := by decide +kernel
theorem d4_25 : decode jdk_52_method_21_code 25 = .ok (.ireturn, 1) := by decide +kernel
theorem d4_26 : decode jdk_52_method_21_code 26 = .ok (.aload_n 2, 1) := by decide +kernel
theorem d4_27 : decode jdk_52_method_21_code 27 = .ok (.iload_n 3, 1) := by decide +kernel
theorem d4_28 : decode jdk_52_method_21_code 28 = .ok (.iload 6, 2) := by decide +kernel
theorem d4_30 : decode jdk_52_method_21_code 30 = .ok (.i2b, 1) := by decide +kernel
theorem d4_31 : decode jdk_52_method_21_code 31 = .ok (.bastore, 1) := by decide +kernel
theorem d4_32 : decode jdk_52_method_21_code 32 = .ok (.iinc 1 1, 3) := by decide +kernel
theorem d4_35 : decode jdk_52_method_21_code 35 = .ok (.iinc 3 1, 3) := by decide +kernel
theorem d4_38 : decode jdk_52_method_21_code 38 = .ok (.iinc 5 1, 3) := by decide +kernel
theorem d4_41 : decode jdk_52_method_21_code 41 = .ok (.goto (-38), 3) := by decide +kernel
theorem d4_0 : decode jdk_52_method_21_code 0 = .ok (.iconst 0, 1) := by decide +kernel
theorem d4_1 : decode jdk_52_method_21_code 1 = .ok (.istore 5, 2) := by decide +kernel
theorem d5_8 : decode jdk_52_method_14_code 8 = .ok (.iload 4, 2) := by decide +kernel
theorem d5_10 : decode jdk_52_method_14_code 10 = .ok (.iload_n 2, 1) := by decide +kernel
theorem d5_11 : decode jdk_52_method_14_code 11 = .ok (.if_icmp .ge 21, 3) := by decide +kernel
theorem d5_32 : decode jdk_52_method_14_code 32 = .ok (.aload_n 3, 1) := by decide +kernel
theorem d5_33 : decode jdk_52_method_14_code 33 = .ok (.areturn, 1) := by decide +kernel
theorem d5_14 : decode jdk_52_method_14_code 14 = .ok (.aload_n 3, 1) := by decide +kernel
theorem d5_15 : decode jdk_52_method_14_code 15 = .ok (.iload 4, 2) := by decide +kernel
theorem d5_17 : decode jdk_52_method_14_code 17 = .ok (.aload_n 0, 1) := by decide +kernel
theorem d5_18 : decode jdk_52_method_14_code 18 = .ok (.iload_n 1, 1) := by decide +kernel
theorem d5_19 : decode jdk_52_method_14_code 19 = .ok (.caload, 1) := by decide +kernel
theorem d5_20 : decode jdk_52_method_14_code 20 = .ok (.invokestatic 111, 3) := by decide +kernel
theorem W65 {Z : State} {a0 : Array Value} (hw : ∀ d ∈ tables_1, d.before a0 Z = true) : (Jvm.Cond.methodLink "java/lang/StringUTF16" (111 : Nat) ({ cls := "java/lang/StringUTF16", name := "putChar", desc := "([BII)V" } : Jvm.MethodName)).before a0 Z = true := hw _ (List.mem_of_getElem? (i := 65) rfl)
theorem pd_285b4249492956 : parseMethodDescriptor "([BII)V" = some ⟨[(.array .byte), .int, .int], none⟩ := by decide +kernel
theorem W66 {Z : State} {a0 : Array Value} (hw : ∀ d ∈ tables_1, d.before a0 Z = true) : (Jvm.Cond.static ({ cls := "java/lang/StringUTF16", name := "putChar", desc := "([BII)V" } : Jvm.MethodName)).before a0 Z = true := hw _ (List.mem_of_getElem? (i := 66) rfl)
theorem W67 {Z : State} {a0 : Array Value} (hw : ∀ d ∈ tables_1, d.before a0 Z = true) : (Jvm.Cond.code ({ cls := "java/lang/StringUTF16", name := "putChar", desc := "([BII)V" } : Jvm.MethodName) jdk_52_method_4_code (3 : Nat) (Option.none : Option Jvm.ClassFile.FieldType)).before a0 Z = true := hw _ (List.mem_of_getElem? (i := 67) rfl)
theorem d5_23 : decode jdk_52_method_14_code 23 = .ok (.iinc 1 1, 3) := by decide +kernel
theorem d5_26 : decode jdk_52_method_14_code 26 = .ok (.iinc 4 1, 3) := by decide +kernel
theorem d5_29 : decode jdk_52_method_14_code 29 = .ok (.goto (-21), 3) := by decide +kernel
theorem d5_0 : decode jdk_52_method_14_code 0 = .ok (.iload_n 2, 1) := by decide +kernel
theorem d5_1 : decode jdk_52_method_14_code 1 = .ok (.invokestatic 107, 3) := by decide +kernel
theorem W58 {Z : State} {a0 : Array Value} (hw : ∀ d ∈ tables_1, d.before a0 Z = true) : (Jvm.Cond.methodLink "java/lang/StringUTF16" (107 : Nat) ({ cls := "java/lang/StringUTF16", name := "newBytesFor", desc := "(I)[B" } : Jvm.MethodName)).before a0 Z = true := hw _ (List.mem_of_getElem? (i := 58) rfl)
theorem pd_2849295b42 : parseMethodDescriptor "(I)[B" = some ⟨[.int], (some (.array .byte))⟩ := by decide +kernel
theorem W59 {Z : State} {a0 : Array Value} (hw : ∀ d ∈ tables_1, d.before a0 Z = true) : (Jvm.Cond.static ({ cls := "java/lang/StringUTF16", name := "newBytesFor", desc := "(I)[B" } : Jvm.MethodName)).before a0 Z = true := hw _ (List.mem_of_getElem? (i := 59) rfl)
theorem W60 {Z : State} {a0 : Array Value} (hw : ∀ d ∈ tables_1, d.before a0 Z = true) : (Jvm.Cond.code ({ cls := "java/lang/StringUTF16", name := "newBytesFor", desc := "(I)[B" } : Jvm.MethodName) jdk_52_method_2_code (1 : Nat) (Option.some (Jvm.ClassFile.FieldType.array Jvm.ClassFile.FieldType.byte))).before a0 Z = true := hw _ (List.mem_of_getElem? (i := 60) rfl)
theorem d5_4 : decode jdk_52_method_14_code 4 = .ok (.astore_n 3, 1) := by decide +kernel
theorem d5_5 : decode jdk_52_method_14_code 5 = .ok (.iconst 0, 1) := by decide +kernel
theorem d5_6 : decode jdk_52_method_14_code 6 = .ok (.istore 4, 2) := by decide +kernel
theorem d6_0 : decode jdk_52_method_16_code 0 = .ok (.iload_n 2, 1) := by decide +kernel
theorem d6_1 : decode jdk_52_method_16_code 1 = .ok (.newarray .byte, 2) := by decide +kernel
theorem d6_3 : decode jdk_52_method_16_code 3 = .ok (.astore_n 3, 1) := by decide +kernel
theorem d6_4 : decode jdk_52_method_16_code 4 = .ok (.aload_n 0, 1) := by decide +kernel
theorem d6_5 : decode jdk_52_method_16_code 5 = .ok (.iload_n 1, 1) := by decide +kernel
theorem d6_6 : decode jdk_52_method_16_code 6 = .ok (.aload_n 3, 1) := by decide +kernel
theorem d6_7 : decode jdk_52_method_16_code 7 = .ok (.iconst 0, 1) := by decide +kernel
theorem d6_8 : decode jdk_52_method_16_code 8 = .ok (.iload_n 2, 1) := by decide +kernel
theorem d6_9 : decode jdk_52_method_16_code 9 = .ok (.invokestatic 115, 3) := by decide +kernel
theorem W52 {Z : State} {a0 : Array Value} (hw : ∀ d ∈ tables_1, d.before a0 Z = true) : (Jvm.Cond.methodLink "java/lang/StringUTF16" (115 : Nat) ({ cls := "java/lang/StringUTF16", name := "compress", desc := "([CI[BII)I" } : Jvm.MethodName)).before a0 Z = true := hw _ (List.mem_of_getElem? (i := 52) rfl)
theorem pd_285b43495b4249492949 : parseMethodDescriptor "([CI[BII)I" = some ⟨[(.array .char), .int, (.array .byte), .int, .int], (some .int)⟩ := by decide +kernel
theorem W53 {Z : State} {a0 : Array Value} (hw : ∀ d ∈ tables_1, d.before a0 Z = true) : (Jvm.Cond.static ({ cls := "java/lang/StringUTF16", name := "compress", desc := "([CI[BII)I" } : Jvm.MethodName)).before a0 Z = true := hw _ (List.mem_of_getElem? (i := 53) rfl)
theorem W54 {Z : State} {a0 : Array Value} (hw : ∀ d ∈ tables_1, d.before a0 Z = true) : (Jvm.Cond.code ({ cls := "java/lang/StringUTF16", name := "compress", desc := "([CI[BII)I" } : Jvm.MethodName) jdk_52_method_21_code (7 : Nat) (Option.some Jvm.ClassFile.FieldType.int)).before a0 Z = true := hw _ (List.mem_of_getElem? (i := 54) rfl)
theorem d6_12 : decode jdk_52_method_16_code 12 = .ok (.istore 4, 2) := by decide +kernel
theorem d6_14 : decode jdk_52_method_16_code 14 = .ok (.iload 4, 2) := by decide +kernel
theorem d6_16 : decode jdk_52_method_16_code 16 = .ok (.iload_n 2, 1) := by decide +kernel
theorem d6_17 : decode jdk_52_method_16_code 17 = .ok (.if_icmp .eq 40, 3) := by decide +kernel
theorem d6_57 : decode jdk_52_method_16_code 57 = .ok (.aload_n 3, 1) := by decide +kernel
theorem d6_58 : decode jdk_52_method_16_code 58 = .ok (.areturn, 1) := by decide +kernel
theorem d6_20 : decode jdk_52_method_16_code 20 = .ok (.aload_n 0, 1) := by decide +kernel
theorem d6_21 : decode jdk_52_method_16_code 21 = .ok (.iload_n 1, 1) := by decide +kernel
theorem d6_22 : decode jdk_52_method_16_code 22 = .ok (.iload_n 2, 1) := by decide +kernel
theorem d6_23 : decode jdk_52_method_16_code 23 = .ok (.invokestatic 119, 3) := by decide +kernel
theorem W55 {Z : State} {a0 : Array Value} (hw : ∀ d ∈ tables_1, d.before a0 Z = true) : (Jvm.Cond.methodLink "java/lang/StringUTF16" (119 : Nat) ({ cls := "java/lang/StringUTF16", name := "toBytes", desc := "([CII)[B" } : Jvm.MethodName)).before a0 Z = true := hw _ (List.mem_of_getElem? (i := 55) rfl)
theorem pd_285b434949295b42 : parseMethodDescriptor "([CII)[B" = some ⟨[(.array .char), .int, .int], (some (.array .byte))⟩ := by decide +kernel
theorem W56 {Z : State} {a0 : Array Value} (hw : ∀ d ∈ tables_1, d.before a0 Z = true) : (Jvm.Cond.static ({ cls := "java/lang/StringUTF16", name := "toBytes", desc := "([CII)[B" } : Jvm.MethodName)).before a0 Z = true := hw _ (List.mem_of_getElem? (i := 56) rfl)
theorem W57 {Z : State} {a0 : Array Value} (hw : ∀ d ∈ tables_1, d.before a0 Z = true) : (Jvm.Cond.code ({ cls := "java/lang/StringUTF16", name := "toBytes", desc := "([CII)[B" } : Jvm.MethodName) jdk_52_method_14_code (5 : Nat) (Option.some (Jvm.ClassFile.FieldType.array Jvm.ClassFile.FieldType.byte))).before a0 Z = true := hw _ (List.mem_of_getElem? (i := 57) rfl)
theorem d6_26 : decode jdk_52_method_16_code 26 = .ok (.astore 5, 2) := by decide +kernel
theorem d6_28 : decode jdk_52_method_16_code 28 = .ok (.aload 5, 2) := by decide +kernel
theorem d6_30 : decode jdk_52_method_16_code 30 = .ok (.iload 4, 2) := by decide +kernel
theorem d6_32 : decode jdk_52_method_16_code 32 = .ok (.invokestatic 71, 3) := by decide +kernel
theorem W71 {Z : State} {a0 : Array Value} (hw : ∀ d ∈ tables_1, d.before a0 Z = true) : (Jvm.Cond.methodLink "java/lang/StringUTF16" (71 : Nat) ({ cls := "java/lang/StringUTF16", name := "getChar", desc := "([BI)C" } : Jvm.MethodName)).before a0 Z = true := hw _ (List.mem_of_getElem? (i := 71) rfl)
theorem pd_285b42492943 : parseMethodDescriptor "([BI)C" = some ⟨[(.array .byte), .int], (some .char)⟩ := by decide +kernel
theorem W72 {Z : State} {a0 : Array Value} (hw : ∀ d ∈ tables_1, d.before a0 Z = true) : (Jvm.Cond.static ({ cls := "java/lang/StringUTF16", name := "getChar", desc := "([BI)C" } : Jvm.MethodName)).before a0 Z = true := hw _ (List.mem_of_getElem? (i := 72) rfl)
theorem W73 {Z : State} {a0 : Array Value} (hw : ∀ d ∈ tables_1, d.before a0 Z = true) : (Jvm.Cond.code ({ cls := "java/lang/StringUTF16", name := "getChar", desc := "([BI)C" } : Jvm.MethodName) jdk_52_method_5_code (2 : Nat) (Option.some Jvm.ClassFile.FieldType.char)).before a0 Z = true := hw _ (List.mem_of_getElem? (i := 73) rfl)
theorem d6_35 : decode jdk_52_method_16_code 35 = .ok (.sipush 255, 3) := by decide +kernel
theorem d6_38 : decode jdk_52_method_16_code 38 = .ok (.if_icmp .gt 16, 3) := by decide +kernel
theorem d6_54 : decode jdk_52_method_16_code 54 = .ok (.aload 5, 2) := by decide +kernel
theorem d6_56 : decode jdk_52_method_16_code 56 = .ok (.areturn, 1) := by decide +kernel
theorem d7_0 : decode jdk_52_method_15_code 0 = .ok (.iload_n 1, 1) := by decide +kernel
theorem d7_1 : decode jdk_52_method_15_code 1 = .ok (.aload_n 0, 1) := by decide +kernel
theorem d7_2 : decode jdk_52_method_15_code 2 = .ok (.arraylength, 1) := by decide +kernel
theorem d7_3 : decode jdk_52_method_15_code 3 = .ok (.isub, 1) := by decide +kernel
theorem d7_4 : decode jdk_52_method_15_code 4 = .ok (.bipush 31, 2) := by decide +kernel
theorem d7_6 : decode jdk_52_method_15_code 6 = .ok (.iushr, 1) := by decide +kernel
theorem d7_7 : decode jdk_52_method_15_code 7 = .ok (.i2b, 1) := by decide +kernel
theorem d7_8 : decode jdk_52_method_15_code 8 = .ok (.ireturn, 1) := by decide +kernel
theorem d8_0 : decode jdk_42_method_149_code 0 = .ok (.aload_n 0, 1) := by decide +kernel
theorem d8_1 : decode jdk_42_method_149_code 1 = .ok (.invokespecial 1, 3) := by decide +kernel
theorem W19 {Z : State} {a0 : Array Value} (hw : ∀ d ∈ tables_1, d.before a0 Z = true) : (Jvm.Cond.methodLink "java/lang/String" (1 : Nat) ({ cls := "java/lang/Object", name := "<init>", desc := "()V" } : Jvm.MethodName)).before a0 Z = true := hw _ (List.mem_of_getElem? (i := 19) rfl)
theorem W20 {Z : State} {a0 : Array Value} (hw : ∀ d ∈ tables_1, d.before a0 Z = true) : (Jvm.Cond.instanceMethod ({ cls := "java/lang/Object", name := "<init>", desc := "()V" } : Jvm.MethodName)).before a0 Z = true := hw _ (List.mem_of_getElem? (i := 20) rfl)
theorem W21 {Z : State} {a0 : Array Value} (hw : ∀ d ∈ tables_1, d.before a0 Z = true) : (Jvm.Cond.code ({ cls := "java/lang/Object", name := "<init>", desc := "()V" } : Jvm.MethodName) object_method_1_code (1 : Nat) (Option.none : Option Jvm.ClassFile.FieldType)).before a0 Z = true := hw _ (List.mem_of_getElem? (i := 21) rfl)
theorem d8_4 : decode jdk_42_method_149_code 4 = .ok (.iload_n 3, 1) := by decide +kernel
theorem d8_5 : decode jdk_42_method_149_code 5 = .ok (.ifCond .ne 22, 3) := by decide +kernel
theorem d8_8 : decode jdk_42_method_149_code 8 = .ok (.aload_n 0, 1) := by decide +kernel
theorem d8_9 : decode jdk_42_method_149_code 9 = .ok (.ldc 7, 2) := by decide +kernel
theorem W22 {Z : State} {a0 : Array Value} (hw : ∀ d ∈ tables_1, d.before a0 Z = true) : (Jvm.Cond.stringLink "java/lang/String" (7 : Nat) "").before a0 Z = true := hw _ (List.mem_of_getElem? (i := 22) rfl)
theorem d8_11 : decode jdk_42_method_149_code 11 = .ok (.getfield 9, 3) := by decide +kernel
theorem W28 {Z : State} {a0 : Array Value} (hw : ∀ d ∈ tables_1, d.before a0 Z = true) : (Jvm.Cond.fieldLink "java/lang/String" (9 : Nat) "java/lang/String" "value" "[B").before a0 Z = true := hw _ (List.mem_of_getElem? (i := 28) rfl)
theorem d8_14 : decode jdk_42_method_149_code 14 = .ok (.putfield 9, 3) := by decide +kernel
theorem W24 {Z : State} {a0 : Array Value} (hw : ∀ d ∈ tables_1, d.before a0 Z = true) : (Jvm.Cond.laysFinal "java/lang/String" "java/lang/String" "value" "[B").before a0 Z = true := hw _ (List.mem_of_getElem? (i := 24) rfl)
theorem W9 {Z : State} {a0 : Array Value} (hw : ∀ d ∈ tables_1, d.before a0 Z = true) : (Jvm.Cond.instantiable "java/lang/String" (4 : Nat)).before a0 Z = true := hw _ (List.mem_of_getElem? (i := 9) rfl)
theorem W25 {Z : State} {a0 : Array Value} (hw : ∀ d ∈ tables_1, d.before a0 Z = true) : (Jvm.Cond.laysFinal "java/lang/String" "java/lang/String" "coder" "B").before a0 Z = true := hw _ (List.mem_of_getElem? (i := 25) rfl)
theorem d8_17 : decode jdk_42_method_149_code 17 = .ok (.aload_n 0, 1) := by decide +kernel
theorem d8_18 : decode jdk_42_method_149_code 18 = .ok (.ldc 7, 2) := by decide +kernel
theorem d8_20 : decode jdk_42_method_149_code 20 = .ok (.getfield 15, 3) := by decide +kernel
theorem W29 {Z : State} {a0 : Array Value} (hw : ∀ d ∈ tables_1, d.before a0 Z = true) : (Jvm.Cond.fieldLink "java/lang/String" (15 : Nat) "java/lang/String" "coder" "B").before a0 Z = true := hw _ (List.mem_of_getElem? (i := 29) rfl)
theorem d8_23 : decode jdk_42_method_149_code 23 = .ok (.putfield 15, 3) := by decide +kernel
theorem d8_26 : decode jdk_42_method_149_code 26 = .ok (.return_, 1) := by decide +kernel
theorem pn_537472696e67_3 : plainName "java/lang/String" = true := by first | (simp [plainName, overriddenIn]; done) | decide +kernel
theorem d9_0 : decode jdk_42_method_3_code 0 = .ok (.aload_n 0, 1) := by decide +kernel
theorem d9_1 : decode jdk_42_method_3_code 1 = .ok (.aload_n 1, 1) := by decide +kernel
theorem d9_2 : decode jdk_42_method_3_code 2 = .ok (.iconst 0, 1) := by decide +kernel
theorem d9_3 : decode jdk_42_method_3_code 3 = .ok (.aload_n 1, 1) := by decide +kernel
theorem d9_4 : decode jdk_42_method_3_code 4 = .ok (.arraylength, 1) := by decide +kernel
theorem d9_5 : decode jdk_42_method_3_code 5 = .ok (.aconst_null, 1) := by decide +kernel
theorem d9_6 : decode jdk_42_method_3_code 6 = .ok (.invokespecial 27, 3) := by decide +kernel
theorem W15 {Z : State} {a0 : Array Value} (hw : ∀ d ∈ tables_1, d.before a0 Z = true) : (Jvm.Cond.methodLink "java/lang/String" (27 : Nat) ({ cls := "java/lang/String", name := "<init>", desc := "([CIILjava/lang/Void;)V" } : Jvm.MethodName)).before a0 Z = true := hw _ (List.mem_of_getElem? (i := 15) rfl)
theorem pd_22 : parseMethodDescriptor "([CIILjava/lang/Void;)V" = some ⟨[(.array .char), .int, .int, (.object "java/lang/Void")], none⟩ := by decide +kernel
theorem W16 {Z : State} {a0 : Array Value} (hw : ∀ d ∈ tables_1, d.before a0 Z = true) : (Jvm.Cond.instanceMethod ({ cls := "java/lang/String", name := "<init>", desc := "([CIILjava/lang/Void;)V" } : Jvm.MethodName)).before a0 Z = true := hw _ (List.mem_of_getElem? (i := 16) rfl)
theorem W18 {Z : State} {a0 : Array Value} (hw : ∀ d ∈ tables_1, d.before a0 Z = true) : (Jvm.Cond.code ({ cls := "java/lang/String", name := "<init>", desc := "([CIILjava/lang/Void;)V" } : Jvm.MethodName) jdk_42_method_149_code (6 : Nat) (Option.none : Option Jvm.ClassFile.FieldType)).before a0 Z = true := hw _ (List.mem_of_getElem? (i := 18) rfl)
theorem W10 {Z : State} {a0 : Array Value} (hw : ∀ d ∈ tables_1, d.before a0 Z = true) : (Jvm.Cond.initialized "java/lang/String").before a0 Z = true := hw _ (List.mem_of_getElem? (i := 10) rfl)
theorem d9_9 : decode jdk_42_method_3_code 9 = .ok (.return_, 1) := by decide +kernel
theorem d8_27 : decode jdk_42_method_149_code 27 = .ok (.getstatic 38, 3) := by decide +kernel
theorem W44 {Z : State} {a0 : Array Value} (hw : ∀ d ∈ tables_1, d.before a0 Z = true) : (Jvm.Cond.fieldLink "java/lang/String" (38 : Nat) "java/lang/String" "COMPACT_STRINGS" "Z").before a0 Z = true := hw _ (List.mem_of_getElem? (i := 44) rfl)
theorem d8_30 : decode jdk_42_method_149_code 30 = .ok (.ifCond .eq 28, 3) := by decide +kernel
theorem d8_33 : decode jdk_42_method_149_code 33 = .ok (.aload_n 1, 1) := by decide +kernel
theorem d8_34 : decode jdk_42_method_149_code 34 = .ok (.iload_n 2, 1) := by decide +kernel
theorem d8_35 : decode jdk_42_method_149_code 35 = .ok (.iload_n 3, 1) := by decide +kernel
theorem d8_36 : decode jdk_42_method_149_code 36 = .ok (.invokestatic 177, 3) := by decide +kernel
theorem W48 {Z : State} {a0 : Array Value} (hw : ∀ d ∈ tables_1, d.before a0 Z = true) : (Jvm.Cond.methodLink "java/lang/String" (177 : Nat) ({ cls := "java/lang/StringUTF16", name := "compress", desc := "([CII)[B" } : Jvm.MethodName)).before a0 Z = true := hw _ (List.mem_of_getElem? (i := 48) rfl)
theorem W49 {Z : State} {a0 : Array Value} (hw : ∀ d ∈ tables_1, d.before a0 Z = true) : (Jvm.Cond.static ({ cls := "java/lang/StringUTF16", name := "compress", desc := "([CII)[B" } : Jvm.MethodName)).before a0 Z = true := hw _ (List.mem_of_getElem? (i := 49) rfl)
theorem W51 {Z : State} {a0 : Array Value} (hw : ∀ d ∈ tables_1, d.before a0 Z = true) : (Jvm.Cond.code ({ cls := "java/lang/StringUTF16", name := "compress", desc := "([CII)[B" } : Jvm.MethodName) jdk_52_method_16_code (6 : Nat) (Option.some (Jvm.ClassFile.FieldType.array Jvm.ClassFile.FieldType.byte))).before a0 Z = true := hw _ (List.mem_of_getElem? (i := 51) rfl)
theorem d8_39 : decode jdk_42_method_149_code 39 = .ok (.astore 5, 2) := by decide +kernel
theorem d8_41 : decode jdk_42_method_149_code 41 = .ok (.aload_n 0, 1) := by decide +kernel
theorem d8_42 : decode jdk_42_method_149_code 42 = .ok (.aload 5, 2) := by decide +kernel
theorem d8_44 : decode jdk_42_method_149_code 44 = .ok (.iload_n 3, 1) := by decide +kernel
theorem d8_45 : decode jdk_42_method_149_code 45 = .ok (.invokestatic 47, 3) := by decide +kernel
theorem W74 {Z : State} {a0 : Array Value} (hw : ∀ d ∈ tables_1, d.before a0 Z = true) : (Jvm.Cond.methodLink "java/lang/String" (47 : Nat) ({ cls := "java/lang/StringUTF16", name := "coderFromArrayLen", desc := "([BI)B" } : Jvm.MethodName)).before a0 Z = true := hw _ (List.mem_of_getElem? (i := 74) rfl)
theorem pd_285b42492942 : parseMethodDescriptor "([BI)B" = some ⟨[(.array .byte), .int], (some .byte)⟩ := by decide +kernel
theorem W75 {Z : State} {a0 : Array Value} (hw : ∀ d ∈ tables_1, d.before a0 Z = true) : (Jvm.Cond.static ({ cls := "java/lang/StringUTF16", name := "coderFromArrayLen", desc := "([BI)B" } : Jvm.MethodName)).before a0 Z = true := hw _ (List.mem_of_getElem? (i := 75) rfl)
theorem W76 {Z : State} {a0 : Array Value} (hw : ∀ d ∈ tables_1, d.before a0 Z = true) : (Jvm.Cond.code ({ cls := "java/lang/StringUTF16", name := "coderFromArrayLen", desc := "([BI)B" } : Jvm.MethodName) jdk_52_method_15_code (2 : Nat) (Option.some Jvm.ClassFile.FieldType.byte)).before a0 Z = true := hw _ (List.mem_of_getElem? (i := 76) rfl)
theorem d8_48 : decode jdk_42_method_149_code 48 = .ok (.putfield 15, 3) := by decide +kernel
theorem d8_51 : decode jdk_42_method_149_code 51 = .ok (.aload_n 0, 1) := by decide +kernel
theorem d8_52 : decode jdk_42_method_149_code 52 = .ok (.aload 5, 2) := by decide +kernel
theorem d8_54 : decode jdk_42_method_149_code 54 = .ok (.putfield 9, 3) := by decide +kernel
theorem d8_57 : decode jdk_42_method_149_code 57 = .ok (.return_, 1) := by decide +kernel
theorem d10_0 : decode method_4_code 0 = .ok (.iload_n 0, 1) := by decide +kernel
theorem d10_1 : decode method_4_code 1 = .ok (.ifCond .ne 14, 3) := by decide +kernel
theorem d10_4 : decode method_4_code 4 = .ok (.new 28, 3) := by decide +kernel
theorem W8 {Z : State} {a0 : Array Value} (hw : ∀ d ∈ tables_1, d.before a0 Z = true) : (Jvm.Cond.classLink "com/example/cohabit/cohabit/NumbersIsDecimalPinLaw" (28 : Nat) "java/lang/String").before a0 Z = true := hw _ (List.mem_of_getElem? (i := 8) rfl)
theorem d10_7 : decode method_4_code 7 = .ok (.dup, 1) := by decide +kernel
theorem d10_8 : decode method_4_code 8 = .ok (.iconst 0, 1) := by decide +kernel
theorem d10_9 : decode method_4_code 9 = .ok (.newarray .char, 2) := by decide +kernel
theorem W11 {Z : State} {a0 : Array Value} (hw : ∀ d ∈ tables_1, d.before a0 Z = true) : (Jvm.Cond.arrayClass Jvm.ClassFile.FieldType.char).before a0 Z = true := hw _ (List.mem_of_getElem? (i := 11) rfl)
theorem d10_11 : decode method_4_code 11 = .ok (.invokespecial 30, 3) := by decide +kernel
theorem W12 {Z : State} {a0 : Array Value} (hw : ∀ d ∈ tables_1, d.before a0 Z = true) : (Jvm.Cond.methodLink "com/example/cohabit/cohabit/NumbersIsDecimalPinLaw" (30 : Nat) ({ cls := "java/lang/String", name := "<init>", desc := "([C)V" } : Jvm.MethodName)).before a0 Z = true := hw _ (List.mem_of_getElem? (i := 12) rfl)
theorem pd_285b432956 : parseMethodDescriptor "([C)V" = some ⟨[(.array .char)], none⟩ := by decide +kernel
theorem W13 {Z : State} {a0 : Array Value} (hw : ∀ d ∈ tables_1, d.before a0 Z = true) : (Jvm.Cond.instanceMethod ({ cls := "java/lang/String", name := "<init>", desc := "([C)V" } : Jvm.MethodName)).before a0 Z = true := hw _ (List.mem_of_getElem? (i := 13) rfl)
theorem W14 {Z : State} {a0 : Array Value} (hw : ∀ d ∈ tables_1, d.before a0 Z = true) : (Jvm.Cond.code ({ cls := "java/lang/String", name := "<init>", desc := "([C)V" } : Jvm.MethodName) jdk_42_method_3_code (2 : Nat) (Option.none : Option Jvm.ClassFile.FieldType)).before a0 Z = true := hw _ (List.mem_of_getElem? (i := 14) rfl)
theorem d10_14 : decode method_4_code 14 = .ok (.areturn, 1) := by decide +kernel
theorem pn_50696e4c6177_1 : plainName "com/example/cohabit/cohabit/NumbersIsDecimalPinLaw" = true := by first | (simp [plainName, overriddenIn]; done) | decide +kernel
theorem d10_15 : decode method_4_code 15 = .ok (.iload_n 0, 1) := by decide +kernel
theorem d10_16 : decode method_4_code 16 = .ok (.iconst 1, 1) := by decide +kernel
theorem d10_17 : decode method_4_code 17 = .ok (.if_icmp .ne 18, 3) := by decide +kernel
theorem d10_20 : decode method_4_code 20 = .ok (.new 28, 3) := by decide +kernel
theorem d10_23 : decode method_4_code 23 = .ok (.dup, 1) := by decide +kernel
theorem d10_24 : decode method_4_code 24 = .ok (.iconst 1, 1) := by decide +kernel
theorem d10_25 : decode method_4_code 25 = .ok (.newarray .char, 2) := by decide +kernel
theorem d10_27 : decode method_4_code 27 = .ok (.dup, 1) := by decide +kernel
theorem d10_28 : decode method_4_code 28 = .ok (.iconst 0, 1) := by decide +kernel
theorem d10_29 : decode method_4_code 29 = .ok (.iload_n 1, 1) := by decide +kernel
theorem d10_30 : decode method_4_code 30 = .ok (.castore, 1) := by decide +kernel
theorem d10_31 : decode method_4_code 31 = .ok (.invokespecial 30, 3) := by decide +kernel
theorem d10_34 : decode method_4_code 34 = .ok (.areturn, 1) := by decide +kernel
theorem d10_35 : decode method_4_code 35 = .ok (.iload_n 0, 1) := by decide +kernel
theorem d10_36 : decode method_4_code 36 = .ok (.iconst 2, 1) := by decide +kernel
theorem d10_37 : decode method_4_code 37 = .ok (.if_icmp .ne 22, 3) := by decide +kernel
theorem d10_40 : decode method_4_code 40 = .ok (.new 28, 3) := by decide +kernel
theorem d10_43 : decode method_4_code 43 = .ok (.dup, 1) := by decide +kernel
theorem d10_44 : decode method_4_code 44 = .ok (.iconst 2, 1) := by decide +kernel
theorem d10_45 : decode method_4_code 45 = .ok (.newarray .char, 2) := by decide +kernel
theorem d10_47 : decode method_4_code 47 = .ok (.dup, 1) := by decide +kernel
theorem d10_48 : decode method_4_code 48 = .ok (.iconst 0, 1) := by decide +kernel
theorem d10_49 : decode method_4_code 49 = .ok (.iload_n 1, 1) := by decide +kernel
theorem d10_50 : decode method_4_code 50 = .ok (.castore, 1) := by decide +kernel
theorem d10_51 : decode method_4_code 51 = .ok (.dup, 1) := by decide +kernel
theorem d10_52 : decode method_4_code 52 = .ok (.iconst 1, 1) := by decide +kernel
theorem d10_53 : decode method_4_code 53 = .ok (.iload_n 2, 1) := by decide +kernel
theorem d10_54 : decode method_4_code 54 = .ok (.castore, 1) := by decide +kernel
theorem d10_55 : decode method_4_code 55 = .ok (.invokespecial 30, 3) := by decide +kernel
theorem d10_58 : decode method_4_code 58 = .ok (.areturn, 1) := by decide +kernel
theorem d10_59 : decode method_4_code 59 = .ok (.iload_n 0, 1) := by decide +kernel
theorem d10_60 : decode method_4_code 60 = .ok (.iconst 3, 1) := by decide +kernel
theorem d10_61 : decode method_4_code 61 = .ok (.if_icmp .ne 26, 3) := by decide +kernel
theorem d10_64 : decode method_4_code 64 = .ok (.new 28, 3) := by decide +kernel
theorem d10_67 : decode method_4_code 67 = .ok (.dup, 1) := by decide +kernel
theorem d10_68 : decode method_4_code 68 = .ok (.iconst 3, 1) := by decide +kernel
theorem d10_69 : decode method_4_code 69 = .ok (.newarray .char, 2) := by decide +kernel
theorem d10_71 : decode method_4_code 71 = .ok (.dup, 1) := by decide +kernel
theorem d10_72 : decode method_4_code 72 = .ok (.iconst 0, 1) := by decide +kernel
theorem d10_73 : decode method_4_code 73 = .ok (.iload_n 1, 1) := by decide +kernel
theorem d10_74 : decode method_4_code 74 = .ok (.castore, 1) := by decide +kernel
theorem d10_75 : decode method_4_code 75 = .ok (.dup, 1) := by decide +kernel
theorem d10_76 : decode method_4_code 76 = .ok (.iconst 1, 1) := by decide +kernel
theorem d10_77 : decode method_4_code 77 = .ok (.iload_n 2, 1) := by decide +kernel
theorem d10_78 : decode method_4_code 78 = .ok (.castore, 1) := by decide +kernel
theorem d10_79 : decode method_4_code 79 = .ok (.dup, 1) := by decide +kernel
theorem d10_80 : decode method_4_code 80 = .ok (.iconst 2, 1) := by decide +kernel
theorem d10_81 : decode method_4_code 81 = .ok (.iload_n 3, 1) := by decide +kernel
theorem d10_82 : decode method_4_code 82 = .ok (.castore, 1) := by decide +kernel
theorem d10_83 : decode method_4_code 83 = .ok (.invokespecial 30, 3) := by decide +kernel
theorem d10_86 : decode method_4_code 86 = .ok (.areturn, 1) := by decide +kernel
theorem d10_87 : decode method_4_code 87 = .ok (.iload_n 0, 1) := by decide +kernel
theorem d10_88 : decode method_4_code 88 = .ok (.iconst 4, 1) := by decide +kernel
theorem d10_89 : decode method_4_code 89 = .ok (.if_icmp .ne 31, 3) := by decide +kernel
theorem d10_92 : decode method_4_code 92 = .ok (.new 28, 3) := by decide +kernel
theorem d10_95 : decode method_4_code 95 = .ok (.dup, 1) := by decide +kernel
theorem d10_96 : decode method_4_code 96 = .ok (.iconst 4, 1) := by decide +kernel
theorem d10_97 : decode method_4_code 97 = .ok (.newarray .char, 2) := by decide +kernel
theorem d10_99 : decode method_4_code 99 = .ok (.dup, 1) := by decide +kernel
theorem d10_100 : decode method_4_code 100 = .ok (.iconst 0, 1) := by decide +kernel
theorem d10_101 : decode method_4_code 101 = .ok (.iload_n 1, 1) := by decide +kernel
theorem d10_102 : decode method_4_code 102 = .ok (.castore, 1) := by decide +kernel
theorem d10_103 : decode method_4_code 103 = .ok (.dup, 1) := by decide +kernel
theorem d10_104 : decode method_4_code 104 = .ok (.iconst 1, 1) := by decide +kernel
theorem d10_105 : decode method_4_code 105 = .ok (.iload_n 2, 1) := by decide +kernel
theorem d10_106 : decode method_4_code 106 = .ok (.castore, 1) := by decide +kernel
theorem d10_107 : decode method_4_code 107 = .ok (.dup, 1) := by decide +kernel
theorem d10_108 : decode method_4_code 108 = .ok (.iconst 2, 1) := by decide +kernel
theorem d10_109 : decode method_4_code 109 = .ok (.iload_n 3, 1) := by decide +kernel
theorem d10_110 : decode method_4_code 110 = .ok (.castore, 1) := by decide +kernel
theorem d10_111 : decode method_4_code 111 = .ok (.dup, 1) := by decide +kernel
theorem d10_112 : decode method_4_code 112 = .ok (.iconst 3, 1) := by decide +kernel
theorem d10_113 : decode method_4_code 113 = .ok (.iload 4, 2) := by decide +kernel
theorem d10_115 : decode method_4_code 115 = .ok (.castore, 1) := by decide +kernel
theorem d10_116 : decode method_4_code 116 = .ok (.invokespecial 30, 3) := by decide +kernel
theorem d10_119 : decode method_4_code 119 = .ok (.areturn, 1) := by decide +kernel
theorem d10_120 : decode method_4_code 120 = .ok (.iload_n 0, 1) := by decide +kernel
theorem d10_121 : decode method_4_code 121 = .ok (.iconst 5, 1) := by decide +kernel
theorem d10_122 : decode method_4_code 122 = .ok (.if_icmp .ne 36, 3) := by decide +kernel
theorem d10_125 : decode method_4_code 125 = .ok (.new 28, 3) := by decide +kernel
theorem d10_128 : decode method_4_code 128 = .ok (.dup, 1) := by decide +kernel
theorem d10_129 : decode method_4_code 129 = .ok (.iconst 5, 1) := by decide +kernel
theorem d10_130 : decode method_4_code 130 = .ok (.newarray .char, 2) := by decide +kernel
theorem d10_132 : decode method_4_code 132 = .ok (.dup, 1) := by decide +kernel
theorem d10_133 : decode method_4_code 133 = .ok (.iconst 0, 1) := by decide +kernel
theorem d10_134 : decode method_4_code 134 = .ok (.iload_n 1, 1) := by decide +kernel
theorem d10_135 : decode method_4_code 135 = .ok (.castore, 1) := by decide +kernel
theorem d10_136 : decode method_4_code 136 = .ok (.dup, 1) := by decide +kernel
theorem d10_137 : decode method_4_code 137 = .ok (.iconst 1, 1) := by decide +kernel
theorem d10_138 : decode method_4_code 138 = .ok (.iload_n 2, 1) := by decide +kernel
theorem d10_139 : decode method_4_code 139 = .ok (.castore, 1) := by decide +kernel
theorem d10_140 : decode method_4_code 140 = .ok (.dup, 1) := by decide +kernel
theorem d10_141 : decode method_4_code 141 = .ok (.iconst 2, 1) := by decide +kernel
theorem d10_142 : decode method_4_code 142 = .ok (.iload_n 3, 1) := by decide +kernel
theorem d10_143 : decode method_4_code 143 = .ok (.castore, 1) := by decide +kernel
theorem d10_144 : decode method_4_code 144 = .ok (.dup, 1) := by decide +kernel
theorem d10_145 : decode method_4_code 145 = .ok (.iconst 3, 1) := by decide +kernel
theorem d10_146 : decode method_4_code 146 = .ok (.iload 4, 2) := by decide +kernel
theorem d10_148 : decode method_4_code 148 = .ok (.castore, 1) := by decide +kernel
theorem d10_149 : decode method_4_code 149 = .ok (.dup, 1) := by decide +kernel
theorem d10_150 : decode method_4_code 150 = .ok (.iconst 4, 1) := by decide +kernel
theorem d10_151 : decode method_4_code 151 = .ok (.iload 5, 2) := by decide +kernel
theorem d10_153 : decode method_4_code 153 = .ok (.castore, 1) := by decide +kernel
theorem d10_154 : decode method_4_code 154 = .ok (.invokespecial 30, 3) := by decide +kernel
theorem d10_157 : decode method_4_code 157 = .ok (.areturn, 1) := by decide +kernel
theorem d10_158 : decode method_4_code 158 = .ok (.iload_n 0, 1) := by decide +kernel
theorem d10_159 : decode method_4_code 159 = .ok (.bipush 6, 2) := by decide +kernel
theorem d10_161 : decode method_4_code 161 = .ok (.if_icmp .ne 42, 3) := by decide +kernel
theorem d10_164 : decode method_4_code 164 = .ok (.new 28, 3) := by decide +kernel
theorem d10_167 : decode method_4_code 167 = .ok (.dup, 1) := by decide +kernel
theorem d10_168 : decode method_4_code 168 = .ok (.bipush 6, 2) := by decide +kernel
theorem d10_170 : decode method_4_code 170 = .ok (.newarray .char, 2) := by decide +kernel
theorem d10_172 : decode method_4_code 172 = .ok (.dup, 1) := by decide +kernel
theorem d10_173 : decode method_4_code 173 = .ok (.iconst 0, 1) := by decide +kernel
theorem d10_174 : decode method_4_code 174 = .ok (.iload_n 1, 1) := by decide +kernel
theorem d10_175 : decode method_4_code 175 = .ok (.castore, 1) := by decide +kernel
theorem d10_176 : decode method_4_code 176 = .ok (.dup, 1) := by decide +kernel
theorem d10_177 : decode method_4_code 177 = .ok (.iconst 1, 1) := by decide +kernel
theorem d10_178 : decode method_4_code 178 = .ok (.iload_n 2, 1) := by decide +kernel
theorem d10_179 : decode method_4_code 179 = .ok (.castore, 1) := by decide +kernel
theorem d10_180 : decode method_4_code 180 = .ok (.dup, 1) := by decide +kernel
theorem d10_181 : decode method_4_code 181 = .ok (.iconst 2, 1) := by decide +kernel
theorem d10_182 : decode method_4_code 182 = .ok (.iload_n 3, 1) := by decide +kernel
theorem d10_183 : decode method_4_code 183 = .ok (.castore, 1) := by decide +kernel
theorem d10_184 : decode method_4_code 184 = .ok (.dup, 1) := by decide +kernel
theorem d10_185 : decode method_4_code 185 = .ok (.iconst 3, 1) := by decide +kernel
theorem d10_186 : decode method_4_code 186 = .ok (.iload 4, 2) := by decide +kernel
theorem d10_188 : decode method_4_code 188 = .ok (.castore, 1) := by decide +kernel
theorem d10_189 : decode method_4_code 189 = .ok (.dup, 1) := by decide +kernel
theorem d10_190 : decode method_4_code 190 = .ok (.iconst 4, 1) := by decide +kernel
theorem d10_191 : decode method_4_code 191 = .ok (.iload 5, 2) := by decide +kernel
theorem d10_193 : decode method_4_code 193 = .ok (.castore, 1) := by decide +kernel
theorem d10_194 : decode method_4_code 194 = .ok (.dup, 1) := by decide +kernel
theorem d10_195 : decode method_4_code 195 = .ok (.iconst 5, 1) := by decide +kernel
theorem d10_196 : decode method_4_code 196 = .ok (.iload 6, 2) := by decide +kernel
theorem d10_198 : decode method_4_code 198 = .ok (.castore, 1) := by decide +kernel
theorem d10_199 : decode method_4_code 199 = .ok (.invokespecial 30, 3) := by decide +kernel
theorem d10_202 : decode method_4_code 202 = .ok (.areturn, 1) := by decide +kernel
theorem d10_203 : decode method_4_code 203 = .ok (.iload_n 0, 1) := by decide +kernel
theorem d10_204 : decode method_4_code 204 = .ok (.bipush 7, 2) := by decide +kernel
theorem d10_206 : decode method_4_code 206 = .ok (.if_icmp .ne 48, 3) := by decide +kernel
theorem d10_209 : decode method_4_code 209 = .ok (.new 28, 3) := by decide +kernel
theorem d10_212 : decode method_4_code 212 = .ok (.dup, 1) := by decide +kernel
theorem d10_213 : decode method_4_code 213 = .ok (.bipush 7, 2) := by decide +kernel
theorem d10_215 : decode method_4_code 215 = .ok (.newarray .char, 2) := by decide +kernel
theorem d10_217 : decode method_4_code 217 = .ok (.dup, 1) := by decide +kernel
theorem d10_218 : decode method_4_code 218 = .ok (.iconst 0, 1) := by decide +kernel
theorem d10_219 : decode method_4_code 219 = .ok (.iload_n 1, 1) := by decide +kernel
theorem d10_220 : decode method_4_code 220 = .ok (.castore, 1) := by decide +kernel
theorem d10_221 : decode method_4_code 221 = .ok (.dup, 1) := by decide +kernel
theorem d10_222 : decode method_4_code 222 = .ok (.iconst 1, 1) := by decide +kernel
theorem d10_223 : decode method_4_code 223 = .ok (.iload_n 2, 1) := by decide +kernel
theorem d10_224 : decode method_4_code 224 = .ok (.castore, 1) := by decide +kernel
theorem d10_225 : decode method_4_code 225 = .ok (.dup, 1) := by decide +kernel
theorem d10_226 : decode method_4_code 226 = .ok (.iconst 2, 1) := by decide +kernel
theorem d10_227 : decode method_4_code 227 = .ok (.iload_n 3, 1) := by decide +kernel
theorem d10_228 : decode method_4_code 228 = .ok (.castore, 1) := by decide +kernel
theorem d10_229 : decode method_4_code 229 = .ok (.dup, 1) := by decide +kernel
theorem d10_230 : decode method_4_code 230 = .ok (.iconst 3, 1) := by decide +kernel
theorem d10_231 : decode method_4_code 231 = .ok (.iload 4, 2) := by decide +kernel
theorem d10_233 : decode method_4_code 233 = .ok (.castore, 1) := by decide +kernel
theorem d10_234 : decode method_4_code 234 = .ok (.dup, 1) := by decide +kernel
theorem d10_235 : decode method_4_code 235 = .ok (.iconst 4, 1) := by decide +kernel
theorem d10_236 : decode method_4_code 236 = .ok (.iload 5, 2) := by decide +kernel
theorem d10_238 : decode method_4_code 238 = .ok (.castore, 1) := by decide +kernel
theorem d10_239 : decode method_4_code 239 = .ok (.dup, 1) := by decide +kernel
theorem d10_240 : decode method_4_code 240 = .ok (.iconst 5, 1) := by decide +kernel
theorem d10_241 : decode method_4_code 241 = .ok (.iload 6, 2) := by decide +kernel
theorem d10_243 : decode method_4_code 243 = .ok (.castore, 1) := by decide +kernel
theorem d10_244 : decode method_4_code 244 = .ok (.dup, 1) := by decide +kernel
theorem d10_245 : decode method_4_code 245 = .ok (.bipush 6, 2) := by decide +kernel
theorem d10_247 : decode method_4_code 247 = .ok (.iload 7, 2) := by decide +kernel
theorem d10_249 : decode method_4_code 249 = .ok (.castore, 1) := by decide +kernel
theorem d10_250 : decode method_4_code 250 = .ok (.invokespecial 30, 3) := by decide +kernel
theorem d10_253 : decode method_4_code 253 = .ok (.areturn, 1) := by decide +kernel
theorem d10_254 : decode method_4_code 254 = .ok (.new 28, 3) := by decide +kernel
theorem d10_257 : decode method_4_code 257 = .ok (.dup, 1) := by decide +kernel
theorem d10_258 : decode method_4_code 258 = .ok (.bipush 8, 2) := by decide +kernel
theorem d10_260 : decode method_4_code 260 = .ok (.newarray .char, 2) := by decide +kernel
theorem d10_262 : decode method_4_code 262 = .ok (.dup, 1) := by decide +kernel
theorem d10_263 : decode method_4_code 263 = .ok (.iconst 0, 1) := by decide +kernel
theorem d10_264 : decode method_4_code 264 = .ok (.iload_n 1, 1) := by decide +kernel
theorem d10_265 : decode method_4_code 265 = .ok (.castore, 1) := by decide +kernel
theorem d10_266 : decode method_4_code 266 = .ok (.dup, 1) := by decide +kernel
theorem d10_267 : decode method_4_code 267 = .ok (.iconst 1, 1) := by decide +kernel
theorem d10_268 : decode method_4_code 268 = .ok (.iload_n 2, 1) := by decide +kernel
theorem d10_269 : decode method_4_code 269 = .ok (.castore, 1) := by decide +kernel
theorem d10_270 : decode method_4_code 270 = .ok (.dup, 1) := by decide +kernel
theorem d10_271 : decode method_4_code 271 = .ok (.iconst 2, 1) := by decide +kernel
theorem d10_272 : decode method_4_code 272 = .ok (.iload_n 3, 1) := by decide +kernel
theorem d10_273 : decode method_4_code 273 = .ok (.castore, 1) := by decide +kernel
theorem d10_274 : decode method_4_code 274 = .ok (.dup, 1) := by decide +kernel
theorem d10_275 : decode method_4_code 275 = .ok (.iconst 3, 1) := by decide +kernel
theorem d10_276 : decode method_4_code 276 = .ok (.iload 4, 2) := by decide +kernel
theorem d10_278 : decode method_4_code 278 = .ok (.castore, 1) := by decide +kernel
theorem d10_279 : decode method_4_code 279 = .ok (.dup, 1) := by decide +kernel
theorem d10_280 : decode method_4_code 280 = .ok (.iconst 4, 1) := by decide +kernel
theorem d10_281 : decode method_4_code 281 = .ok (.iload 5, 2) := by decide +kernel
theorem d10_283 : decode method_4_code 283 = .ok (.castore, 1) := by decide +kernel
theorem d10_284 : decode method_4_code 284 = .ok (.dup, 1) := by decide +kernel
theorem d10_285 : decode method_4_code 285 = .ok (.iconst 5, 1) := by decide +kernel
theorem d10_286 : decode method_4_code 286 = .ok (.iload 6, 2) := by decide +kernel
theorem d10_288 : decode method_4_code 288 = .ok (.castore, 1) := by decide +kernel
theorem d10_289 : decode method_4_code 289 = .ok (.dup, 1) := by decide +kernel
theorem d10_290 : decode method_4_code 290 = .ok (.bipush 6, 2) := by decide +kernel
theorem d10_292 : decode method_4_code 292 = .ok (.iload 7, 2) := by decide +kernel
theorem d10_294 : decode method_4_code 294 = .ok (.castore, 1) := by decide +kernel
theorem d10_295 : decode method_4_code 295 = .ok (.dup, 1) := by decide +kernel
theorem d10_296 : decode method_4_code 296 = .ok (.bipush 7, 2) := by decide +kernel
theorem d10_298 : decode method_4_code 298 = .ok (.iload 8, 2) := by decide +kernel
theorem d10_300 : decode method_4_code 300 = .ok (.castore, 1) := by decide +kernel
theorem d10_301 : decode method_4_code 301 = .ok (.invokespecial 30, 3) := by decide +kernel
theorem d10_304 : decode method_4_code 304 = .ok (.areturn, 1) := by decide +kernel
theorem d11_0 : decode jdk_42_method_152_code 0 = .ok (.getstatic 38, 3) := by decide +kernel
theorem d11_3 : decode jdk_42_method_152_code 3 = .ok (.ifCond .eq 10, 3) := by decide +kernel
theorem d11_6 : decode jdk_42_method_152_code 6 = .ok (.aload_n 0, 1) := by decide +kernel
theorem d11_7 : decode jdk_42_method_152_code 7 = .ok (.getfield 15, 3) := by decide +kernel
theorem d11_10 : decode jdk_42_method_152_code 10 = .ok (.goto 4, 3) := by decide +kernel
theorem d11_14 : decode jdk_42_method_152_code 14 = .ok (.ireturn, 1) := by decide +kernel
theorem d12_0 : decode jdk_42_method_154_code 0 = .ok (.getstatic 38, 3) := by decide +kernel
theorem d12_3 : decode jdk_42_method_154_code 3 = .ok (.ifCond .eq 14, 3) := by decide +kernel
theorem d12_6 : decode jdk_42_method_154_code 6 = .ok (.aload_n 0, 1) := by decide +kernel
theorem d12_7 : decode jdk_42_method_154_code 7 = .ok (.getfield 15, 3) := by decide +kernel
theorem d12_10 : decode jdk_42_method_154_code 10 = .ok (.ifCond .ne 7, 3) := by decide +kernel
theorem d12_13 : decode jdk_42_method_154_code 13 = .ok (.iconst 1, 1) := by decide +kernel
theorem d12_14 : decode jdk_42_method_154_code 14 = .ok (.goto 4, 3) := by decide +kernel
theorem d12_18 : decode jdk_42_method_154_code 18 = .ok (.ireturn, 1) := by decide +kernel
theorem d12_17 : decode jdk_42_method_154_code 17 = .ok (.iconst 0, 1) := by decide +kernel
theorem d13_0 : decode jdk_41_method_11_code 0 = .ok (.iload_n 0, 1) := by decide +kernel
theorem d13_1 : decode jdk_41_method_11_code 1 = .ok (.ifCond .lt 8, 3) := by decide +kernel
theorem d13_4 : decode jdk_41_method_11_code 4 = .ok (.iload_n 0, 1) := by decide +kernel
theorem d13_5 : decode jdk_41_method_11_code 5 = .ok (.iload_n 1, 1) := by decide +kernel
theorem d13_6 : decode jdk_41_method_11_code 6 = .ok (.if_icmp .lt 10, 3) := by decide +kernel
theorem d13_16 : decode jdk_41_method_11_code 16 = .ok (.iload_n 0, 1) := by decide +kernel
theorem d13_17 : decode jdk_41_method_11_code 17 = .ok (.ireturn, 1) := by decide +kernel
theorem pn_6974696f6e73_6 : plainName "jdk/internal/util/Preconditions" = true := by first | (simp [plainName, overriddenIn]; done) | decide +kernel
theorem d14_0 : decode jdk_42_method_155_code 0 = .ok (.iload_n 0, 1) := by decide +kernel
theorem d14_1 : decode jdk_42_method_155_code 1 = .ok (.iload_n 1, 1) := by decide +kernel
theorem d14_2 : decode jdk_42_method_155_code 2 = .ok (.getstatic 1053, 3) := by decide +kernel
theorem W108 {Z : State} {a0 : Array Value} (hw : ∀ d ∈ tables_1, d.before a0 Z = true) : (Jvm.Cond.fieldLink "java/lang/String" (1053 : Nat) "jdk/internal/util/Preconditions" "SIOOBE_FORMATTER" "Ljava/util/function/BiFunction;").before a0 Z = true := hw _ (List.mem_of_getElem? (i := 108) rfl)
theorem d14_5 : decode jdk_42_method_155_code 5 = .ok (.invokestatic 1059, 3) := by decide +kernel
theorem W110 {Z : State} {a0 : Array Value} (hw : ∀ d ∈ tables_1, d.before a0 Z = true) : (Jvm.Cond.methodLink "java/lang/String" (1059 : Nat) ({ cls := "jdk/internal/util/Preconditions", name := "checkIndex", desc := "(IILjava/util/function/BiFunction;)I" } : Jvm.MethodName)).before a0 Z = true := hw _ (List.mem_of_getElem? (i := 110) rfl)
theorem pd_11 : parseMethodDescriptor "(IILjava/util/function/BiFunction;)I" = some ⟨[.int, .int, (.object "java/util/function/BiFunction")], (some .int)⟩ := by decide +kernel
theorem W111 {Z : State} {a0 : Array Value} (hw : ∀ d ∈ tables_1, d.before a0 Z = true) : (Jvm.Cond.static ({ cls := "jdk/internal/util/Preconditions", name := "checkIndex", desc := "(IILjava/util/function/BiFunction;)I" } : Jvm.MethodName)).before a0 Z = true := hw _ (List.mem_of_getElem? (i := 111) rfl)
theorem W112 {Z : State} {a0 : Array Value} (hw : ∀ d ∈ tables_1, d.before a0 Z = true) : (Jvm.Cond.code ({ cls := "jdk/internal/util/Preconditions", name := "checkIndex", desc := "(IILjava/util/function/BiFunction;)I" } : Jvm.MethodName) jdk_41_method_11_code (3 : Nat) (Option.some Jvm.ClassFile.FieldType.int)).before a0 Z = true := hw _ (List.mem_of_getElem? (i := 112) rfl)
theorem W109 {Z : State} {a0 : Array Value} (hw : ∀ d ∈ tables_1, d.before a0 Z = true) : (Jvm.Cond.initialized "jdk/internal/util/Preconditions").before a0 Z = true := hw _ (List.mem_of_getElem? (i := 109) rfl)
theorem d14_8 : decode jdk_42_method_155_code 8 = .ok (.pop, 1) := by decide +kernel
theorem d14_9 : decode jdk_42_method_155_code 9 = .ok (.return_, 1) := by decide +kernel
theorem d15_0 : decode jdk_52_method_6_code 0 = .ok (.aload_n 0, 1) := by decide +kernel
theorem d15_1 : decode jdk_52_method_6_code 1 = .ok (.arraylength, 1) := by decide +kernel
theorem d15_2 : decode jdk_52_method_6_code 2 = .ok (.iconst 1, 1) := by decide +kernel
theorem d15_3 : decode jdk_52_method_6_code 3 = .ok (.ishr, 1) := by decide +kernel
theorem d15_4 : decode jdk_52_method_6_code 4 = .ok (.ireturn, 1) := by decide +kernel
theorem d16_0 : decode jdk_52_method_91_code 0 = .ok (.iload_n 0, 1) := by decide +kernel
theorem d16_1 : decode jdk_52_method_91_code 1 = .ok (.aload_n 1, 1) := by decide +kernel
theorem d16_2 : decode jdk_52_method_91_code 2 = .ok (.invokestatic 48, 3) := by decide +kernel
theorem W102 {Z : State} {a0 : Array Value} (hw : ∀ d ∈ tables_1, d.before a0 Z = true) : (Jvm.Cond.methodLink "java/lang/StringUTF16" (48 : Nat) ({ cls := "java/lang/StringUTF16", name := "length", desc := "([B)I" } : Jvm.MethodName)).before a0 Z = true := hw _ (List.mem_of_getElem? (i := 102) rfl)
theorem pd_285b422949 : parseMethodDescriptor "([B)I" = some ⟨[(.array .byte)], (some .int)⟩ := by decide +kernel
theorem W103 {Z : State} {a0 : Array Value} (hw : ∀ d ∈ tables_1, d.before a0 Z = true) : (Jvm.Cond.static ({ cls := "java/lang/StringUTF16", name := "length", desc := "([B)I" } : Jvm.MethodName)).before a0 Z = true := hw _ (List.mem_of_getElem? (i := 103) rfl)
theorem W104 {Z : State} {a0 : Array Value} (hw : ∀ d ∈ tables_1, d.before a0 Z = true) : (Jvm.Cond.code ({ cls := "java/lang/StringUTF16", name := "length", desc := "([B)I" } : Jvm.MethodName) jdk_52_method_6_code (1 : Nat) (Option.some Jvm.ClassFile.FieldType.int)).before a0 Z = true := hw _ (List.mem_of_getElem? (i := 104) rfl)
theorem d16_5 : decode jdk_52_method_91_code 5 = .ok (.invokestatic 414, 3) := by decide +kernel
theorem W105 {Z : State} {a0 : Array Value} (hw : ∀ d ∈ tables_1, d.before a0 Z = true) : (Jvm.Cond.methodLink "java/lang/StringUTF16" (414 : Nat) ({ cls := "java/lang/String", name := "checkIndex", desc := "(II)V" } : Jvm.MethodName)).before a0 Z = true := hw _ (List.mem_of_getElem? (i := 105) rfl)
theorem pd_2849492956 : parseMethodDescriptor "(II)V" = some ⟨[.int, .int], none⟩ := by decide +kernel
theorem W106 {Z : State} {a0 : Array Value} (hw : ∀ d ∈ tables_1, d.before a0 Z = true) : (Jvm.Cond.static ({ cls := "java/lang/String", name := "checkIndex", desc := "(II)V" } : Jvm.MethodName)).before a0 Z = true := hw _ (List.mem_of_getElem? (i := 106) rfl)
theorem W107 {Z : State} {a0 : Array Value} (hw : ∀ d ∈ tables_1, d.before a0 Z = true) : (Jvm.Cond.code ({ cls := "java/lang/String", name := "checkIndex", desc := "(II)V" } : Jvm.MethodName) jdk_42_method_155_code (2 : Nat) (Option.none : Option Jvm.ClassFile.FieldType)).before a0 Z = true := hw _ (List.mem_of_getElem? (i := 107) rfl)
theorem d16_8 : decode jdk_52_method_91_code 8 = .ok (.return_, 1) := by decide +kernel
theorem d17_0 : decode jdk_52_method_83_code 0 = .ok (.iload_n 1, 1) := by decide +kernel
theorem d17_1 : decode jdk_52_method_83_code 1 = .ok (.aload_n 0, 1) := by decide +kernel
theorem d17_2 : decode jdk_52_method_83_code 2 = .ok (.invokestatic 67, 3) := by decide +kernel
theorem W99 {Z : State} {a0 : Array Value} (hw : ∀ d ∈ tables_1, d.before a0 Z = true) : (Jvm.Cond.methodLink "java/lang/StringUTF16" (67 : Nat) ({ cls := "java/lang/StringUTF16", name := "checkIndex", desc := "(I[B)V" } : Jvm.MethodName)).before a0 Z = true := hw _ (List.mem_of_getElem? (i := 99) rfl)
theorem pd_28495b422956 : parseMethodDescriptor "(I[B)V" = some ⟨[.int, (.array .byte)], none⟩ := by decide +kernel
theorem W100 {Z : State} {a0 : Array Value} (hw : ∀ d ∈ tables_1, d.before a0 Z = true) : (Jvm.Cond.static ({ cls := "java/lang/StringUTF16", name := "checkIndex", desc := "(I[B)V" } : Jvm.MethodName)).before a0 Z = true := hw _ (List.mem_of_getElem? (i := 100) rfl)
theorem W101 {Z : State} {a0 : Array Value} (hw : ∀ d ∈ tables_1, d.before a0 Z = true) : (Jvm.Cond.code ({ cls := "java/lang/StringUTF16", name := "checkIndex", desc := "(I[B)V" } : Jvm.MethodName) jdk_52_method_91_code (2 : Nat) (Option.none : Option Jvm.ClassFile.FieldType)).before a0 Z = true := hw _ (List.mem_of_getElem? (i := 101) rfl)
theorem d17_5 : decode jdk_52_method_83_code 5 = .ok (.aload_n 0, 1) := by decide +kernel
theorem d17_6 : decode jdk_52_method_83_code 6 = .ok (.iload_n 1, 1) := by decide +kernel
theorem d17_7 : decode jdk_52_method_83_code 7 = .ok (.invokestatic 71, 3) := by decide +kernel
theorem d17_10 : decode jdk_52_method_83_code 10 = .ok (.ireturn, 1) := by decide +kernel
theorem d18_0 : decode jdk_43_method_2_code 0 = .ok (.iload_n 1, 1) := by decide +kernel
theorem d18_1 : decode jdk_43_method_2_code 1 = .ok (.aload_n 0, 1) := by decide +kernel
theorem d18_2 : decode jdk_43_method_2_code 2 = .ok (.arraylength, 1) := by decide +kernel
theorem d18_3 : decode jdk_43_method_2_code 3 = .ok (.invokestatic 9, 3) := by decide +kernel
theorem W120 {Z : State} {a0 : Array Value} (hw : ∀ d ∈ tables_1, d.before a0 Z = true) : (Jvm.Cond.methodLink "java/lang/StringLatin1" (9 : Nat) ({ cls := "java/lang/String", name := "checkIndex", desc := "(II)V" } : Jvm.MethodName)).before a0 Z = true := hw _ (List.mem_of_getElem? (i := 120) rfl)
theorem d18_6 : decode jdk_43_method_2_code 6 = .ok (.aload_n 0, 1) := by decide +kernel
theorem d18_7 : decode jdk_43_method_2_code 7 = .ok (.iload_n 1, 1) := by decide +kernel
theorem d18_8 : decode jdk_43_method_2_code 8 = .ok (.baload, 1) := by decide +kernel
theorem d18_9 : decode jdk_43_method_2_code 9 = .ok (.sipush 255, 3) := by decide +kernel
theorem d18_12 : decode jdk_43_method_2_code 12 = .ok (.iand, 1) := by decide +kernel
theorem d18_13 : decode jdk_43_method_2_code 13 = .ok (.i2c, 1) := by decide +kernel
theorem d18_14 : decode jdk_43_method_2_code 14 = .ok (.ireturn, 1) := by decide +kernel
theorem pn_4c6174696e31_4 : plainName "java/lang/StringLatin1" = true := by first | (simp [plainName, overriddenIn]; done) | decide +kernel
theorem d19_0 : decode jdk_42_method_54_code 0 = .ok (.aload_n 0, 1) := by decide +kernel
theorem d19_1 : decode jdk_42_method_54_code 1 = .ok (.getfield 9, 3) := by decide +kernel
theorem d19_4 : decode jdk_42_method_54_code 4 = .ok (.arraylength, 1) := by decide +kernel
theorem d19_5 : decode jdk_42_method_54_code 5 = .ok (.aload_n 0, 1) := by decide +kernel
theorem d19_6 : decode jdk_42_method_54_code 6 = .ok (.invokevirtual 335, 3) := by decide +kernel
theorem W39 {Z : State} {a0 : Array Value} (hw : ∀ d ∈ tables_1, d.before a0 Z = true) : (Jvm.Cond.methodLink "java/lang/String" (335 : Nat) ({ cls := "java/lang/String", name := "coder", desc := "()B" } : Jvm.MethodName)).before a0 Z = true := hw _ (List.mem_of_getElem? (i := 39) rfl)
theorem pd_282942 : parseMethodDescriptor "()B" = some ⟨[], (some .byte)⟩ := by decide +kernel
theorem W40 {Z : State} {a0 : Array Value} (hw : ∀ d ∈ tables_1, d.before a0 Z = true) : (Jvm.Cond.declares ({ cls := "java/lang/String", name := "coder", desc := "()B" } : Jvm.MethodName)).before a0 Z = true := hw _ (List.mem_of_getElem? (i := 40) rfl)
theorem W42 {Z : State} {a0 : Array Value} (hw : ∀ d ∈ tables_1, d.before a0 Z = true) : (Jvm.Cond.selects "java/lang/String" ({ cls := "java/lang/String", name := "coder", desc := "()B" } : Jvm.MethodName) ({ cls := "java/lang/String", name := "coder", desc := "()B" } : Jvm.MethodName)).before a0 Z = true := hw _ (List.mem_of_getElem? (i := 42) rfl)
theorem W41 {Z : State} {a0 : Array Value} (hw : ∀ d ∈ tables_1, d.before a0 Z = true) : (Jvm.Cond.instanceMethod ({ cls := "java/lang/String", name := "coder", desc := "()B" } : Jvm.MethodName)).before a0 Z = true := hw _ (List.mem_of_getElem? (i := 41) rfl)
theorem W43 {Z : State} {a0 : Array Value} (hw : ∀ d ∈ tables_1, d.before a0 Z = true) : (Jvm.Cond.code ({ cls := "java/lang/String", name := "coder", desc := "()B" } : Jvm.MethodName) jdk_42_method_152_code (1 : Nat) (Option.some Jvm.ClassFile.FieldType.byte)).before a0 Z = true := hw _ (List.mem_of_getElem? (i := 43) rfl)
theorem d19_9 : decode jdk_42_method_54_code 9 = .ok (.ishr, 1) := by decide +kernel
theorem d19_10 : decode jdk_42_method_54_code 10 = .ok (.ireturn, 1) := by decide +kernel
theorem d20_0 : decode jdk_42_method_56_code 0 = .ok (.aload_n 0, 1) := by decide +kernel
theorem d20_1 : decode jdk_42_method_56_code 1 = .ok (.invokevirtual 492, 3) := by decide +kernel
theorem W91 {Z : State} {a0 : Array Value} (hw : ∀ d ∈ tables_1, d.before a0 Z = true) : (Jvm.Cond.methodLink "java/lang/String" (492 : Nat) ({ cls := "java/lang/String", name := "isLatin1", desc := "()Z" } : Jvm.MethodName)).before a0 Z = true := hw _ (List.mem_of_getElem? (i := 91) rfl)
theorem pd_28295a : parseMethodDescriptor "()Z" = some ⟨[], (some .boolean)⟩ := by decide +kernel
theorem W92 {Z : State} {a0 : Array Value} (hw : ∀ d ∈ tables_1, d.before a0 Z = true) : (Jvm.Cond.declares ({ cls := "java/lang/String", name := "isLatin1", desc := "()Z" } : Jvm.MethodName)).before a0 Z = true := hw _ (List.mem_of_getElem? (i := 92) rfl)
theorem W94 {Z : State} {a0 : Array Value} (hw : ∀ d ∈ tables_1, d.before a0 Z = true) : (Jvm.Cond.selects "java/lang/String" ({ cls := "java/lang/String", name := "isLatin1", desc := "()Z" } : Jvm.MethodName) ({ cls := "java/lang/String", name := "isLatin1", desc := "()Z" } : Jvm.MethodName)).before a0 Z = true := hw _ (List.mem_of_getElem? (i := 94) rfl)
theorem W93 {Z : State} {a0 : Array Value} (hw : ∀ d ∈ tables_1, d.before a0 Z = true) : (Jvm.Cond.instanceMethod ({ cls := "java/lang/String", name := "isLatin1", desc := "()Z" } : Jvm.MethodName)).before a0 Z = true := hw _ (List.mem_of_getElem? (i := 93) rfl)
theorem W95 {Z : State} {a0 : Array Value} (hw : ∀ d ∈ tables_1, d.before a0 Z = true) : (Jvm.Cond.code ({ cls := "java/lang/String", name := "isLatin1", desc := "()Z" } : Jvm.MethodName) jdk_42_method_154_code (1 : Nat) (Option.some Jvm.ClassFile.FieldType.boolean)).before a0 Z = true := hw _ (List.mem_of_getElem? (i := 95) rfl)
theorem d20_4 : decode jdk_42_method_56_code 4 = .ok (.ifCond .eq 12, 3) := by decide +kernel
theorem d20_7 : decode jdk_42_method_56_code 7 = .ok (.aload_n 0, 1) := by decide +kernel
theorem d20_8 : decode jdk_42_method_56_code 8 = .ok (.getfield 9, 3) := by decide +kernel
theorem d20_11 : decode jdk_42_method_56_code 11 = .ok (.iload_n 1, 1) := by decide +kernel
theorem d20_12 : decode jdk_42_method_56_code 12 = .ok (.invokestatic 495, 3) := by decide +kernel
theorem W116 {Z : State} {a0 : Array Value} (hw : ∀ d ∈ tables_1, d.before a0 Z = true) : (Jvm.Cond.methodLink "java/lang/String" (495 : Nat) ({ cls := "java/lang/StringLatin1", name := "charAt", desc := "([BI)C" } : Jvm.MethodName)).before a0 Z = true := hw _ (List.mem_of_getElem? (i := 116) rfl)
theorem W117 {Z : State} {a0 : Array Value} (hw : ∀ d ∈ tables_1, d.before a0 Z = true) : (Jvm.Cond.static ({ cls := "java/lang/StringLatin1", name := "charAt", desc := "([BI)C" } : Jvm.MethodName)).before a0 Z = true := hw _ (List.mem_of_getElem? (i := 117) rfl)
theorem W119 {Z : State} {a0 : Array Value} (hw : ∀ d ∈ tables_1, d.before a0 Z = true) : (Jvm.Cond.code ({ cls := "java/lang/StringLatin1", name := "charAt", desc := "([BI)C" } : Jvm.MethodName) jdk_43_method_2_code (2 : Nat) (Option.some Jvm.ClassFile.FieldType.char)).before a0 Z = true := hw _ (List.mem_of_getElem? (i := 119) rfl)
theorem W118 {Z : State} {a0 : Array Value} (hw : ∀ d ∈ tables_1, d.before a0 Z = true) : (Jvm.Cond.initialized "java/lang/StringLatin1").before a0 Z = true := hw _ (List.mem_of_getElem? (i := 118) rfl)
theorem d20_15 : decode jdk_42_method_56_code 15 = .ok (.ireturn, 1) := by decide +kernel
theorem d20_16 : decode jdk_42_method_56_code 16 = .ok (.aload_n 0, 1) := by decide +kernel
theorem d20_17 : decode jdk_42_method_56_code 17 = .ok (.getfield 9, 3) := by decide +kernel
theorem d20_20 : decode jdk_42_method_56_code 20 = .ok (.iload_n 1, 1) := by decide +kernel
theorem d20_21 : decode jdk_42_method_56_code 21 = .ok (.invokestatic 498, 3) := by decide +kernel
theorem W96 {Z : State} {a0 : Array Value} (hw : ∀ d ∈ tables_1, d.before a0 Z = true) : (Jvm.Cond.methodLink "java/lang/String" (498 : Nat) ({ cls := "java/lang/StringUTF16", name := "charAt", desc := "([BI)C" } : Jvm.MethodName)).before a0 Z = true := hw _ (List.mem_of_getElem? (i := 96) rfl)
theorem W97 {Z : State} {a0 : Array Value} (hw : ∀ d ∈ tables_1, d.before a0 Z = true) : (Jvm.Cond.static ({ cls := "java/lang/StringUTF16", name := "charAt", desc := "([BI)C" } : Jvm.MethodName)).before a0 Z = true := hw _ (List.mem_of_getElem? (i := 97) rfl)
theorem W98 {Z : State} {a0 : Array Value} (hw : ∀ d ∈ tables_1, d.before a0 Z = true) : (Jvm.Cond.code ({ cls := "java/lang/StringUTF16", name := "charAt", desc := "([BI)C" } : Jvm.MethodName) jdk_52_method_83_code (2 : Nat) (Option.some Jvm.ClassFile.FieldType.char)).before a0 Z = true := hw _ (List.mem_of_getElem? (i := 98) rfl)
theorem d20_24 : decode jdk_42_method_56_code 24 = .ok (.ireturn, 1) := by decide +kernel
theorem d21_2 : decode prog_24_method_3_code 2 = .ok (.iload_n 2, 1) := by decide +kernel
theorem d21_3 : decode prog_24_method_3_code 3 = .ok (.aload_n 0, 1) := by decide +kernel
theorem d21_4 : decode prog_24_method_3_code 4 = .ok (.invokevirtual 7, 3) := by decide +kernel
theorem W34 {Z : State} {a0 : Array Value} (hw : ∀ d ∈ tables_1, d.before a0 Z = true) : (Jvm.Cond.methodLink "com/example/cohabit/cohabit/Numbers" (7 : Nat) ({ cls := "java/lang/String", name := "length", desc := "()I" } : Jvm.MethodName)).before a0 Z = true := hw _ (List.mem_of_getElem? (i := 34) rfl)
theorem pd_282949 : parseMethodDescriptor "()I" = some ⟨[], (some .int)⟩ := by decide +kernel
theorem W35 {Z : State} {a0 : Array Value} (hw : ∀ d ∈ tables_1, d.before a0 Z = true) : (Jvm.Cond.declares ({ cls := "java/lang/String", name := "length", desc := "()I" } : Jvm.MethodName)).before a0 Z = true := hw _ (List.mem_of_getElem? (i := 35) rfl)
theorem W37 {Z : State} {a0 : Array Value} (hw : ∀ d ∈ tables_1, d.before a0 Z = true) : (Jvm.Cond.selects "java/lang/String" ({ cls := "java/lang/String", name := "length", desc := "()I" } : Jvm.MethodName) ({ cls := "java/lang/String", name := "length", desc := "()I" } : Jvm.MethodName)).before a0 Z = true := hw _ (List.mem_of_getElem? (i := 37) rfl)
theorem W36 {Z : State} {a0 : Array Value} (hw : ∀ d ∈ tables_1, d.before a0 Z = true) : (Jvm.Cond.instanceMethod ({ cls := "java/lang/String", name := "length", desc := "()I" } : Jvm.MethodName)).before a0 Z = true := hw _ (List.mem_of_getElem? (i := 36) rfl)
theorem W38 {Z : State} {a0 : Array Value} (hw : ∀ d ∈ tables_1, d.before a0 Z = true) : (Jvm.Cond.code ({ cls := "java/lang/String", name := "length", desc := "()I" } : Jvm.MethodName) jdk_42_method_54_code (1 : Nat) (Option.some Jvm.ClassFile.FieldType.int)).before a0 Z = true := hw _ (List.mem_of_getElem? (i := 38) rfl)
theorem d21_7 : decode prog_24_method_3_code 7 = .ok (.if_icmp .ge 29, 3) := by decide +kernel
theorem d21_36 : decode prog_24_method_3_code 36 = .ok (.iload_n 2, 1) := by decide +kernel
theorem d21_37 : decode prog_24_method_3_code 37 = .ok (.ireturn, 1) := by decide +kernel
theorem d21_10 : decode prog_24_method_3_code 10 = .ok (.aload_n 0, 1) := by decide +kernel
theorem d21_11 : decode prog_24_method_3_code 11 = .ok (.iload_n 2, 1) := by decide +kernel
theorem d21_12 : decode prog_24_method_3_code 12 = .ok (.invokevirtual 13, 3) := by decide +kernel
theorem W86 {Z : State} {a0 : Array Value} (hw : ∀ d ∈ tables_1, d.before a0 Z = true) : (Jvm.Cond.methodLink "com/example/cohabit/cohabit/Numbers" (13 : Nat) ({ cls := "java/lang/String", name := "charAt", desc := "(I)C" } : Jvm.MethodName)).before a0 Z = true := hw _ (List.mem_of_getElem? (i := 86) rfl)
theorem pd_28492943 : parseMethodDescriptor "(I)C" = some ⟨[.int], (some .char)⟩ := by decide +kernel
theorem W87 {Z : State} {a0 : Array Value} (hw : ∀ d ∈ tables_1, d.before a0 Z = true) : (Jvm.Cond.declares ({ cls := "java/lang/String", name := "charAt", desc := "(I)C" } : Jvm.MethodName)).before a0 Z = true := hw _ (List.mem_of_getElem? (i := 87) rfl)
theorem W89 {Z : State} {a0 : Array Value} (hw : ∀ d ∈ tables_1, d.before a0 Z = true) : (Jvm.Cond.selects "java/lang/String" ({ cls := "java/lang/String", name := "charAt", desc := "(I)C" } : Jvm.MethodName) ({ cls := "java/lang/String", name := "charAt", desc := "(I)C" } : Jvm.MethodName)).before a0 Z = true := hw _ (List.mem_of_getElem? (i := 89) rfl)
theorem W88 {Z : State} {a0 : Array Value} (hw : ∀ d ∈ tables_1, d.before a0 Z = true) : (Jvm.Cond.instanceMethod ({ cls := "java/lang/String", name := "charAt", desc := "(I)C" } : Jvm.MethodName)).before a0 Z = true := hw _ (List.mem_of_getElem? (i := 88) rfl)
theorem W90 {Z : State} {a0 : Array Value} (hw : ∀ d ∈ tables_1, d.before a0 Z = true) : (Jvm.Cond.code ({ cls := "java/lang/String", name := "charAt", desc := "(I)C" } : Jvm.MethodName) jdk_42_method_56_code (2 : Nat) (Option.some Jvm.ClassFile.FieldType.char)).before a0 Z = true := hw _ (List.mem_of_getElem? (i := 90) rfl)
theorem d21_15 : decode prog_24_method_3_code 15 = .ok (.bipush 48, 2) := by decide +kernel
theorem d21_17 : decode prog_24_method_3_code 17 = .ok (.if_icmp .lt 19, 3) := by decide +kernel
theorem d21_20 : decode prog_24_method_3_code 20 = .ok (.aload_n 0, 1) := by decide +kernel
theorem d21_21 : decode prog_24_method_3_code 21 = .ok (.iload_n 2, 1) := by decide +kernel
theorem d21_22 : decode prog_24_method_3_code 22 = .ok (.invokevirtual 13, 3) := by decide +kernel
theorem d21_25 : decode prog_24_method_3_code 25 = .ok (.bipush 57, 2) := by decide +kernel
theorem d21_27 : decode prog_24_method_3_code 27 = .ok (.if_icmp .gt 9, 3) := by decide +kernel
theorem d21_30 : decode prog_24_method_3_code 30 = .ok (.iinc 2 1, 3) := by decide +kernel
theorem d21_33 : decode prog_24_method_3_code 33 = .ok (.goto (-31), 3) := by decide +kernel
theorem d21_0 : decode prog_24_method_3_code 0 = .ok (.iload_n 1, 1) := by decide +kernel
theorem d21_1 : decode prog_24_method_3_code 1 = .ok (.istore_n 2, 1) := by decide +kernel
theorem pn_756d62657273_0 : plainName "com/example/cohabit/cohabit/Numbers" = true := by first | (simp [plainName, overriddenIn]; done) | decide +kernel
theorem d22_179 : decode prog_24_method_2_code 179 = .ok (.iload_n 1, 1) := by decide +kernel
theorem d22_180 : decode prog_24_method_2_code 180 = .ok (.aload_n 0, 1) := by decide +kernel
theorem d22_181 : decode prog_24_method_2_code 181 = .ok (.invokevirtual 7, 3) := by decide +kernel
theorem d22_184 : decode prog_24_method_2_code 184 = .ok (.if_icmp .ne 7, 3) := by decide +kernel
theorem d22_187 : decode prog_24_method_2_code 187 = .ok (.iconst 1, 1) := by decide +kernel
theorem d22_188 : decode prog_24_method_2_code 188 = .ok (.goto 4, 3) := by decide +kernel
theorem d22_192 : decode prog_24_method_2_code 192 = .ok (.ireturn, 1) := by decide +kernel
theorem d22_191 : decode prog_24_method_2_code 191 = .ok (.iconst 0, 1) := by decide +kernel
theorem d22_161 : decode prog_24_method_2_code 161 = .ok (.iload_n 1, 1) := by decide +kernel
theorem d22_162 : decode prog_24_method_2_code 162 = .ok (.istore 4, 2) := by decide +kernel
theorem d22_164 : decode prog_24_method_2_code 164 = .ok (.aload_n 0, 1) := by decide +kernel
theorem d22_165 : decode prog_24_method_2_code 165 = .ok (.iload 4, 2) := by decide +kernel
theorem d22_167 : decode prog_24_method_2_code 167 = .ok (.invokestatic 17, 3) := by decide +kernel
theorem W45 {Z : State} {a0 : Array Value} (hw : ∀ d ∈ tables_1, d.before a0 Z = true) : (Jvm.Cond.methodLink "com/example/cohabit/cohabit/Numbers" (17 : Nat) ({ cls := "com/example/cohabit/cohabit/Numbers", name := "digitsFrom", desc := "(Ljava/lang/String;I)I" } : Jvm.MethodName)).before a0 Z = true := hw _ (List.mem_of_getElem? (i := 45) rfl)
theorem pd_15 : parseMethodDescriptor "(Ljava/lang/String;I)I" = some ⟨[(.object "java/lang/String"), .int], (some .int)⟩ := by decide +kernel
theorem W46 {Z : State} {a0 : Array Value} (hw : ∀ d ∈ tables_1, d.before a0 Z = true) : (Jvm.Cond.static ({ cls := "com/example/cohabit/cohabit/Numbers", name := "digitsFrom", desc := "(Ljava/lang/String;I)I" } : Jvm.MethodName)).before a0 Z = true := hw _ (List.mem_of_getElem? (i := 46) rfl)
theorem W47 {Z : State} {a0 : Array Value} (hw : ∀ d ∈ tables_1, d.before a0 Z = true) : (Jvm.Cond.code ({ cls := "com/example/cohabit/cohabit/Numbers", name := "digitsFrom", desc := "(Ljava/lang/String;I)I" } : Jvm.MethodName) prog_24_method_3_code (3 : Nat) (Option.some Jvm.ClassFile.FieldType.int)).before a0 Z = true := hw _ (List.mem_of_getElem? (i := 47) rfl)
theorem W32 {Z : State} {a0 : Array Value} (hw : ∀ d ∈ tables_1, d.before a0 Z = true) : (Jvm.Cond.initialized "com/example/cohabit/cohabit/Numbers").before a0 Z = true := hw _ (List.mem_of_getElem? (i := 32) rfl)
theorem d22_170 : decode prog_24_method_2_code 170 = .ok (.istore_n 1, 1) := by decide +kernel
theorem d22_171 : decode prog_24_method_2_code 171 = .ok (.iload_n 1, 1) := by decide +kernel
theorem d22_172 : decode prog_24_method_2_code 172 = .ok (.iload 4, 2) := by decide +kernel
theorem d22_174 : decode prog_24_method_2_code 174 = .ok (.if_icmp .ne 5, 3) := by decide +kernel
theorem d22_177 : decode prog_24_method_2_code 177 = .ok (.iconst 0, 1) := by decide +kernel
theorem d22_178 : decode prog_24_method_2_code 178 = .ok (.ireturn, 1) := by decide +kernel
theorem d22_127 : decode prog_24_method_2_code 127 = .ok (.iinc 1 1, 3) := by decide +kernel
theorem d22_130 : decode prog_24_method_2_code 130 = .ok (.iload_n 1, 1) := by decide +kernel
theorem d22_131 : decode prog_24_method_2_code 131 = .ok (.aload_n 0, 1) := by decide +kernel
theorem d22_132 : decode prog_24_method_2_code 132 = .ok (.invokevirtual 7, 3) := by decide +kernel
theorem d22_135 : decode prog_24_method_2_code 135 = .ok (.if_icmp .ge 26, 3) := by decide +kernel
theorem d22_138 : decode prog_24_method_2_code 138 = .ok (.aload_n 0, 1) := by decide +kernel
theorem d22_139 : decode prog_24_method_2_code 139 = .ok (.iload_n 1, 1) := by decide +kernel
theorem d22_140 : decode prog_24_method_2_code 140 = .ok (.invokevirtual 13, 3) := by decide +kernel
theorem d22_143 : decode prog_24_method_2_code 143 = .ok (.bipush 43, 2) := by decide +kernel
theorem d22_145 : decode prog_24_method_2_code 145 = .ok (.if_icmp .eq 13, 3) := by decide +kernel
theorem d22_158 : decode prog_24_method_2_code 158 = .ok (.iinc 1 1, 3) := by decide +kernel
theorem d22_148 : decode prog_24_method_2_code 148 = .ok (.aload_n 0, 1) := by decide +kernel
theorem d22_149 : decode prog_24_method_2_code 149 = .ok (.iload_n 1, 1) := by decide +kernel
theorem d22_150 : decode prog_24_method_2_code 150 = .ok (.invokevirtual 13, 3) := by decide +kernel
theorem d22_153 : decode prog_24_method_2_code 153 = .ok (.bipush 45, 2) := by decide +kernel
theorem d22_155 : decode prog_24_method_2_code 155 = .ok (.if_icmp .ne 6, 3) := by decide +kernel
theorem d22_99 : decode prog_24_method_2_code 99 = .ok (.iload_n 1, 1) := by decide +kernel
theorem d22_100 : decode prog_24_method_2_code 100 = .ok (.aload_n 0, 1) := by decide +kernel
theorem d22_101 : decode prog_24_method_2_code 101 = .ok (.invokevirtual 7, 3) := by decide +kernel
theorem d22_104 : decode prog_24_method_2_code 104 = .ok (.if_icmp .ge 75, 3) := by decide +kernel
theorem d22_107 : decode prog_24_method_2_code 107 = .ok (.aload_n 0, 1) := by decide +kernel
theorem d22_108 : decode prog_24_method_2_code 108 = .ok (.iload_n 1, 1) := by decide +kernel
theorem d22_109 : decode prog_24_method_2_code 109 = .ok (.invokevirtual 13, 3) := by decide +kernel
theorem d22_112 : decode prog_24_method_2_code 112 = .ok (.bipush 101, 2) := by decide +kernel
theorem d22_114 : decode prog_24_method_2_code 114 = .ok (.if_icmp .eq 13, 3) := by decide +kernel
theorem d22_117 : decode prog_24_method_2_code 117 = .ok (.aload_n 0, 1) := by decide +kernel
theorem d22_118 : decode prog_24_method_2_code 118 = .ok (.iload_n 1, 1) := by decide +kernel
theorem d22_119 : decode prog_24_method_2_code 119 = .ok (.invokevirtual 13, 3) := by decide +kernel
theorem d22_122 : decode prog_24_method_2_code 122 = .ok (.bipush 69, 2) := by decide +kernel
theorem d22_124 : decode prog_24_method_2_code 124 = .ok (.if_icmp .ne 55, 3) := by decide +kernel
theorem d22_93 : decode prog_24_method_2_code 93 = .ok (.iload_n 3, 1) := by decide +kernel
theorem d22_94 : decode prog_24_method_2_code 94 = .ok (.ifCond .ne 5, 3) := by decide +kernel
theorem d22_97 : decode prog_24_method_2_code 97 = .ok (.iconst 0, 1) := by decide +kernel
theorem d22_98 : decode prog_24_method_2_code 98 = .ok (.ireturn, 1) := by decide +kernel
theorem d22_52 : decode prog_24_method_2_code 52 = .ok (.iload_n 1, 1) := by decide +kernel
theorem d22_53 : decode prog_24_method_2_code 53 = .ok (.aload_n 0, 1) := by decide +kernel
theorem d22_54 : decode prog_24_method_2_code 54 = .ok (.invokevirtual 7, 3) := by decide +kernel
theorem d22_57 : decode prog_24_method_2_code 57 = .ok (.if_icmp .ge 36, 3) := by decide +kernel
theorem d22_60 : decode prog_24_method_2_code 60 = .ok (.aload_n 0, 1) := by decide +kernel
theorem d22_61 : decode prog_24_method_2_code 61 = .ok (.iload_n 1, 1) := by decide +kernel
theorem d22_62 : decode prog_24_method_2_code 62 = .ok (.invokevirtual 13, 3) := by decide +kernel
theorem d22_65 : decode prog_24_method_2_code 65 = .ok (.bipush 46, 2) := by decide +kernel
theorem d22_67 : decode prog_24_method_2_code 67 = .ok (.if_icmp .ne 26, 3) := by decide +kernel
theorem d22_70 : decode prog_24_method_2_code 70 = .ok (.aload_n 0, 1) := by decide +kernel
theorem d22_71 : decode prog_24_method_2_code 71 = .ok (.iload_n 1, 1) := by decide +kernel
theorem d22_72 : decode prog_24_method_2_code 72 = .ok (.iconst 1, 1) := by decide +kernel
theorem d22_73 : decode prog_24_method_2_code 73 = .ok (.iadd, 1) := by decide +kernel
theorem d22_74 : decode prog_24_method_2_code 74 = .ok (.invokestatic 17, 3) := by decide +kernel
theorem d22_77 : decode prog_24_method_2_code 77 = .ok (.istore_n 1, 1) := by decide +kernel
theorem d22_78 : decode prog_24_method_2_code 78 = .ok (.iload_n 3, 1) := by decide +kernel
theorem d22_79 : decode prog_24_method_2_code 79 = .ok (.iload_n 1, 1) := by decide +kernel
theorem d22_80 : decode prog_24_method_2_code 80 = .ok (.iload_n 2, 1) := by decide +kernel
theorem d22_81 : decode prog_24_method_2_code 81 = .ok (.iconst 1, 1) := by decide +kernel
theorem d22_82 : decode prog_24_method_2_code 82 = .ok (.iadd, 1) := by decide +kernel
theorem d22_83 : decode prog_24_method_2_code 83 = .ok (.if_icmp .le 7, 3) := by decide +kernel
theorem d22_90 : decode prog_24_method_2_code 90 = .ok (.iconst 0, 1) := by decide +kernel
theorem d22_91 : decode prog_24_method_2_code 91 = .ok (.ior, 1) := by decide +kernel
theorem d22_92 : decode prog_24_method_2_code 92 = .ok (.istore_n 3, 1) := by decide +kernel
theorem d22_86 : decode prog_24_method_2_code 86 = .ok (.iconst 1, 1) := by decide +kernel
theorem d22_87 : decode prog_24_method_2_code 87 = .ok (.goto 4, 3) := by decide +kernel
theorem d22_33 : decode prog_24_method_2_code 33 = .ok (.aload_n 0, 1) := by decide +kernel
theorem d22_34 : decode prog_24_method_2_code 34 = .ok (.iload_n 1, 1) := by decide +kernel
theorem d22_35 : decode prog_24_method_2_code 35 = .ok (.invokestatic 17, 3) := by decide +kernel
theorem d22_38 : decode prog_24_method_2_code 38 = .ok (.istore_n 2, 1) := by decide +kernel
theorem d22_39 : decode prog_24_method_2_code 39 = .ok (.iload_n 2, 1) := by decide +kernel
theorem d22_40 : decode prog_24_method_2_code 40 = .ok (.iload_n 1, 1) := by decide +kernel
theorem d22_41 : decode prog_24_method_2_code 41 = .ok (.if_icmp .le 7, 3) := by decide +kernel
theorem d22_48 : decode prog_24_method_2_code 48 = .ok (.iconst 0, 1) := by decide +kernel
theorem d22_49 : decode prog_24_method_2_code 49 = .ok (.istore_n 3, 1) := by decide +kernel
theorem d22_50 : decode prog_24_method_2_code 50 = .ok (.iload_n 2, 1) := by decide +kernel
theorem d22_51 : decode prog_24_method_2_code 51 = .ok (.istore_n 1, 1) := by decide +kernel
theorem d22_44 : decode prog_24_method_2_code 44 = .ok (.iconst 1, 1) := by decide +kernel
theorem d22_45 : decode prog_24_method_2_code 45 = .ok (.goto 4, 3) := by decide +kernel
theorem d22_0 : decode prog_24_method_2_code 0 = .ok (.iconst 0, 1) := by decide +kernel
theorem d22_1 : decode prog_24_method_2_code 1 = .ok (.istore_n 1, 1) := by decide +kernel
theorem d22_2 : decode prog_24_method_2_code 2 = .ok (.iload_n 1, 1) := by decide +kernel
theorem d22_3 : decode prog_24_method_2_code 3 = .ok (.aload_n 0, 1) := by decide +kernel
theorem d22_4 : decode prog_24_method_2_code 4 = .ok (.invokevirtual 7, 3) := by decide +kernel
theorem d22_7 : decode prog_24_method_2_code 7 = .ok (.if_icmp .ge 26, 3) := by decide +kernel
theorem d22_10 : decode prog_24_method_2_code 10 = .ok (.aload_n 0, 1) := by decide +kernel
theorem d22_11 : decode prog_24_method_2_code 11 = .ok (.iload_n 1, 1) := by decide +kernel
theorem d22_12 : decode prog_24_method_2_code 12 = .ok (.invokevirtual 13, 3) := by decide +kernel
theorem d22_15 : decode prog_24_method_2_code 15 = .ok (.bipush 43, 2) := by decide +kernel
theorem d22_17 : decode prog_24_method_2_code 17 = .ok (.if_icmp .eq 13, 3) := by decide +kernel
theorem d22_30 : decode prog_24_method_2_code 30 = .ok (.iinc 1 1, 3) := by decide +kernel
theorem d22_20 : decode prog_24_method_2_code 20 = .ok (.aload_n 0, 1) := by decide +kernel
theorem d22_21 : decode prog_24_method_2_code 21 = .ok (.iload_n 1, 1) := by decide +kernel
theorem d22_22 : decode prog_24_method_2_code 22 = .ok (.invokevirtual 13, 3) := by decide +kernel
theorem d22_25 : decode prog_24_method_2_code 25 = .ok (.bipush 45, 2) := by decide +kernel
theorem d22_27 : decode prog_24_method_2_code 27 = .ok (.if_icmp .ne 6, 3) := by decide +kernel
theorem d23_0 : decode method_5_code 0 = .ok (.iload_n 0, 1) := by decide +kernel
theorem d23_1 : decode method_5_code 1 = .ok (.bipush 48, 2) := by decide +kernel
theorem d23_3 : decode method_5_code 3 = .ok (.if_icmp .lt 13, 3) := by decide +kernel
theorem d23_16 : decode method_5_code 16 = .ok (.iconst 0, 1) := by decide +kernel
theorem d23_17 : decode method_5_code 17 = .ok (.ireturn, 1) := by decide +kernel
theorem d23_6 : decode method_5_code 6 = .ok (.iload_n 0, 1) := by decide +kernel
theorem d23_7 : decode method_5_code 7 = .ok (.bipush 57, 2) := by decide +kernel
theorem d23_9 : decode method_5_code 9 = .ok (.if_icmp .gt 7, 3) := by decide +kernel
theorem d23_12 : decode method_5_code 12 = .ok (.iconst 1, 1) := by decide +kernel
theorem d23_13 : decode method_5_code 13 = .ok (.goto 4, 3) := by decide +kernel
theorem d24_0 : decode method_6_code 0 = .ok (.iload_n 0, 1) := by decide +kernel
theorem d24_1 : decode method_6_code 1 = .ok (.bipush 43, 2) := by decide +kernel
theorem d24_3 : decode method_6_code 3 = .ok (.if_icmp .eq 9, 3) := by decide +kernel
theorem d24_12 : decode method_6_code 12 = .ok (.iconst 1, 1) := by decide +kernel
theorem d24_13 : decode method_6_code 13 = .ok (.goto 4, 3) := by decide +kernel
theorem d24_17 : decode method_6_code 17 = .ok (.ireturn, 1) := by decide +kernel
theorem d24_6 : decode method_6_code 6 = .ok (.iload_n 0, 1) := by decide +kernel
theorem d24_7 : decode method_6_code 7 = .ok (.bipush 45, 2) := by decide +kernel
theorem d24_9 : decode method_6_code 9 = .ok (.if_icmp .ne 7, 3) := by decide +kernel
theorem d24_16 : decode method_6_code 16 = .ok (.iconst 0, 1) := by decide +kernel
theorem d25_0 : decode method_7_code 0 = .ok (.iload_n 0, 1) := by decide +kernel
theorem d25_1 : decode method_7_code 1 = .ok (.bipush 101, 2) := by decide +kernel
theorem d25_3 : decode method_7_code 3 = .ok (.if_icmp .eq 9, 3) := by decide +kernel
theorem d25_12 : decode method_7_code 12 = .ok (.iconst 1, 1) := by decide +kernel
theorem d25_13 : decode method_7_code 13 = .ok (.goto 4, 3) := by decide +kernel
theorem d25_17 : decode method_7_code 17 = .ok (.ireturn, 1) := by decide +kernel
theorem d25_6 : decode method_7_code 6 = .ok (.iload_n 0, 1) := by decide +kernel
theorem d25_7 : decode method_7_code 7 = .ok (.bipush 69, 2) := by decide +kernel
theorem d25_9 : decode method_7_code 9 = .ok (.if_icmp .ne 7, 3) := by decide +kernel
theorem d25_16 : decode method_7_code 16 = .ok (.iconst 0, 1) := by decide +kernel
theorem d26_0 : decode method_8_code 0 = .ok (.iload_n 0, 1) := by decide +kernel
theorem d26_1 : decode method_8_code 1 = .ok (.ifCond .ne 32, 3) := by decide +kernel
theorem d26_4 : decode method_8_code 4 = .ok (.iload_n 1, 1) := by decide +kernel
theorem d26_5 : decode method_8_code 5 = .ok (.invokestatic 33, 3) := by decide +kernel
theorem W80 {Z : State} {a0 : Array Value} (hw : ∀ d ∈ tables_1, d.before a0 Z = true) : (Jvm.Cond.methodLink "com/example/cohabit/cohabit/NumbersIsDecimalPinLaw" (33 : Nat) ({ cls := "com/example/cohabit/cohabit/NumbersIsDecimalPinLaw", name := "digit", desc := "(C)Z" } : Jvm.MethodName)).before a0 Z = true := hw _ (List.mem_of_getElem? (i := 80) rfl)
theorem pd_2843295a : parseMethodDescriptor "(C)Z" = some ⟨[.char], (some .boolean)⟩ := by decide +kernel
theorem W81 {Z : State} {a0 : Array Value} (hw : ∀ d ∈ tables_1, d.before a0 Z = true) : (Jvm.Cond.static ({ cls := "com/example/cohabit/cohabit/NumbersIsDecimalPinLaw", name := "digit", desc := "(C)Z" } : Jvm.MethodName)).before a0 Z = true := hw _ (List.mem_of_getElem? (i := 81) rfl)
theorem W82 {Z : State} {a0 : Array Value} (hw : ∀ d ∈ tables_1, d.before a0 Z = true) : (Jvm.Cond.code ({ cls := "com/example/cohabit/cohabit/NumbersIsDecimalPinLaw", name := "digit", desc := "(C)Z" } : Jvm.MethodName) method_5_code (1 : Nat) (Option.some Jvm.ClassFile.FieldType.boolean)).before a0 Z = true := hw _ (List.mem_of_getElem? (i := 82) rfl)
theorem W3 {Z : State} {a0 : Array Value} (hw : ∀ d ∈ tables_1, d.before a0 Z = true) : (Jvm.Cond.initialized "com/example/cohabit/cohabit/NumbersIsDecimalPinLaw").before a0 Z = true := hw _ (List.mem_of_getElem? (i := 3) rfl)
theorem d26_8 : decode method_8_code 8 = .ok (.ifCond .eq 5, 3) := by decide +kernel
theorem d26_13 : decode method_8_code 13 = .ok (.iload_n 1, 1) := by decide +kernel
theorem d26_14 : decode method_8_code 14 = .ok (.invokestatic 37, 3) := by decide +kernel
theorem W83 {Z : State} {a0 : Array Value} (hw : ∀ d ∈ tables_1, d.before a0 Z = true) : (Jvm.Cond.methodLink "com/example/cohabit/cohabit/NumbersIsDecimalPinLaw" (37 : Nat) ({ cls := "com/example/cohabit/cohabit/NumbersIsDecimalPinLaw", name := "sign", desc := "(C)Z" } : Jvm.MethodName)).before a0 Z = true := hw _ (List.mem_of_getElem? (i := 83) rfl)
theorem W84 {Z : State} {a0 : Array Value} (hw : ∀ d ∈ tables_1, d.before a0 Z = true) : (Jvm.Cond.static ({ cls := "com/example/cohabit/cohabit/NumbersIsDecimalPinLaw", name := "sign", desc := "(C)Z" } : Jvm.MethodName)).before a0 Z = true := hw _ (List.mem_of_getElem? (i := 84) rfl)
theorem W85 {Z : State} {a0 : Array Value} (hw : ∀ d ∈ tables_1, d.before a0 Z = true) : (Jvm.Cond.code ({ cls := "com/example/cohabit/cohabit/NumbersIsDecimalPinLaw", name := "sign", desc := "(C)Z" } : Jvm.MethodName) method_6_code (1 : Nat) (Option.some Jvm.ClassFile.FieldType.boolean)).before a0 Z = true := hw _ (List.mem_of_getElem? (i := 85) rfl)
theorem d26_17 : decode method_8_code 17 = .ok (.ifCond .eq 5, 3) := by decide +kernel
theorem d26_22 : decode method_8_code 22 = .ok (.iload_n 1, 1) := by decide +kernel
theorem d26_23 : decode method_8_code 23 = .ok (.bipush 46, 2) := by decide +kernel
theorem d26_25 : decode method_8_code 25 = .ok (.if_icmp .ne 5, 3) := by decide +kernel
theorem d26_28 : decode method_8_code 28 = .ok (.iconst 3, 1) := by decide +kernel
theorem d26_29 : decode method_8_code 29 = .ok (.ireturn, 1) := by decide +kernel
theorem d26_30 : decode method_8_code 30 = .ok (.bipush 8, 2) := by decide +kernel
theorem d26_32 : decode method_8_code 32 = .ok (.ireturn, 1) := by decide +kernel
theorem d26_20 : decode method_8_code 20 = .ok (.iconst 1, 1) := by decide +kernel
theorem d26_21 : decode method_8_code 21 = .ok (.ireturn, 1) := by decide +kernel
theorem d26_11 : decode method_8_code 11 = .ok (.iconst 2, 1) := by decide +kernel
theorem d26_12 : decode method_8_code 12 = .ok (.ireturn, 1) := by decide +kernel
theorem d26_33 : decode method_8_code 33 = .ok (.iload_n 0, 1) := by decide +kernel
theorem d26_34 : decode method_8_code 34 = .ok (.iconst 1, 1) := by decide +kernel
theorem d26_35 : decode method_8_code 35 = .ok (.if_icmp .ne 23, 3) := by decide +kernel
theorem d26_38 : decode method_8_code 38 = .ok (.iload_n 1, 1) := by decide +kernel
theorem d26_39 : decode method_8_code 39 = .ok (.invokestatic 33, 3) := by decide +kernel
theorem d26_42 : decode method_8_code 42 = .ok (.ifCond .eq 5, 3) := by decide +kernel
theorem d26_47 : decode method_8_code 47 = .ok (.iload_n 1, 1) := by decide +kernel
theorem d26_48 : decode method_8_code 48 = .ok (.bipush 46, 2) := by decide +kernel
theorem d26_50 : decode method_8_code 50 = .ok (.if_icmp .ne 5, 3) := by decide +kernel
theorem d26_53 : decode method_8_code 53 = .ok (.iconst 3, 1) := by decide +kernel
theorem d26_54 : decode method_8_code 54 = .ok (.ireturn, 1) := by decide +kernel
theorem d26_55 : decode method_8_code 55 = .ok (.bipush 8, 2) := by decide +kernel
theorem d26_57 : decode method_8_code 57 = .ok (.ireturn, 1) := by decide +kernel
theorem d26_45 : decode method_8_code 45 = .ok (.iconst 2, 1) := by decide +kernel
theorem d26_46 : decode method_8_code 46 = .ok (.ireturn, 1) := by decide +kernel
theorem d26_58 : decode method_8_code 58 = .ok (.iload_n 0, 1) := by decide +kernel
theorem d26_59 : decode method_8_code 59 = .ok (.iconst 2, 1) := by decide +kernel
theorem d26_60 : decode method_8_code 60 = .ok (.if_icmp .ne 32, 3) := by decide +kernel
theorem d26_63 : decode method_8_code 63 = .ok (.iload_n 1, 1) := by decide +kernel
theorem d26_64 : decode method_8_code 64 = .ok (.invokestatic 33, 3) := by decide +kernel
theorem d26_67 : decode method_8_code 67 = .ok (.ifCond .eq 5, 3) := by decide +kernel
theorem d26_72 : decode method_8_code 72 = .ok (.iload_n 1, 1) := by decide +kernel
theorem d26_73 : decode method_8_code 73 = .ok (.bipush 46, 2) := by decide +kernel
theorem d26_75 : decode method_8_code 75 = .ok (.if_icmp .ne 5, 3) := by decide +kernel
theorem d26_78 : decode method_8_code 78 = .ok (.iconst 4, 1) := by decide +kernel
theorem d26_79 : decode method_8_code 79 = .ok (.ireturn, 1) := by decide +kernel
theorem d26_80 : decode method_8_code 80 = .ok (.iload_n 1, 1) := by decide +kernel
theorem d26_81 : decode method_8_code 81 = .ok (.invokestatic 40, 3) := by decide +kernel
theorem W113 {Z : State} {a0 : Array Value} (hw : ∀ d ∈ tables_1, d.before a0 Z = true) : (Jvm.Cond.methodLink "com/example/cohabit/cohabit/NumbersIsDecimalPinLaw" (40 : Nat) ({ cls := "com/example/cohabit/cohabit/NumbersIsDecimalPinLaw", name := "expo", desc := "(C)Z" } : Jvm.MethodName)).before a0 Z = true := hw _ (List.mem_of_getElem? (i := 113) rfl)
theorem W114 {Z : State} {a0 : Array Value} (hw : ∀ d ∈ tables_1, d.before a0 Z = true) : (Jvm.Cond.static ({ cls := "com/example/cohabit/cohabit/NumbersIsDecimalPinLaw", name := "expo", desc := "(C)Z" } : Jvm.MethodName)).before a0 Z = true := hw _ (List.mem_of_getElem? (i := 114) rfl)
theorem W115 {Z : State} {a0 : Array Value} (hw : ∀ d ∈ tables_1, d.before a0 Z = true) : (Jvm.Cond.code ({ cls := "com/example/cohabit/cohabit/NumbersIsDecimalPinLaw", name := "expo", desc := "(C)Z" } : Jvm.MethodName) method_7_code (1 : Nat) (Option.some Jvm.ClassFile.FieldType.boolean)).before a0 Z = true := hw _ (List.mem_of_getElem? (i := 115) rfl)
theorem d26_84 : decode method_8_code 84 = .ok (.ifCond .eq 5, 3) := by decide +kernel
theorem d26_89 : decode method_8_code 89 = .ok (.bipush 8, 2) := by decide +kernel
theorem d26_91 : decode method_8_code 91 = .ok (.ireturn, 1) := by decide +kernel
theorem d26_87 : decode method_8_code 87 = .ok (.iconst 5, 1) := by decide +kernel
theorem d26_88 : decode method_8_code 88 = .ok (.ireturn, 1) := by decide +kernel
theorem d26_70 : decode method_8_code 70 = .ok (.iconst 2, 1) := by decide +kernel
theorem d26_71 : decode method_8_code 71 = .ok (.ireturn, 1) := by decide +kernel
theorem d26_92 : decode method_8_code 92 = .ok (.iload_n 0, 1) := by decide +kernel
theorem d26_93 : decode method_8_code 93 = .ok (.iconst 3, 1) := by decide +kernel
theorem d26_94 : decode method_8_code 94 = .ok (.if_icmp .ne 15, 3) := by decide +kernel
theorem d26_97 : decode method_8_code 97 = .ok (.iload_n 1, 1) := by decide +kernel
theorem d26_98 : decode method_8_code 98 = .ok (.invokestatic 33, 3) := by decide +kernel
theorem d26_101 : decode method_8_code 101 = .ok (.ifCond .eq 5, 3) := by decide +kernel
theorem d26_106 : decode method_8_code 106 = .ok (.bipush 8, 2) := by decide +kernel
theorem d26_108 : decode method_8_code 108 = .ok (.ireturn, 1) := by decide +kernel
theorem d26_104 : decode method_8_code 104 = .ok (.iconst 4, 1) := by decide +kernel
theorem d26_105 : decode method_8_code 105 = .ok (.ireturn, 1) := by decide +kernel
theorem d26_109 : decode method_8_code 109 = .ok (.iload_n 0, 1) := by decide +kernel
theorem d26_110 : decode method_8_code 110 = .ok (.iconst 4, 1) := by decide +kernel
theorem d26_111 : decode method_8_code 111 = .ok (.if_icmp .ne 24, 3) := by decide +kernel
theorem d26_114 : decode method_8_code 114 = .ok (.iload_n 1, 1) := by decide +kernel
theorem d26_115 : decode method_8_code 115 = .ok (.invokestatic 33, 3) := by decide +kernel
theorem d26_118 : decode method_8_code 118 = .ok (.ifCond .eq 5, 3) := by decide +kernel
theorem d26_123 : decode method_8_code 123 = .ok (.iload_n 1, 1) := by decide +kernel
theorem d26_124 : decode method_8_code 124 = .ok (.invokestatic 40, 3) := by decide +kernel
theorem d26_127 : decode method_8_code 127 = .ok (.ifCond .eq 5, 3) := by decide +kernel
theorem d26_132 : decode method_8_code 132 = .ok (.bipush 8, 2) := by decide +kernel
theorem d26_134 : decode method_8_code 134 = .ok (.ireturn, 1) := by decide +kernel
theorem d26_130 : decode method_8_code 130 = .ok (.iconst 5, 1) := by decide +kernel
theorem d26_131 : decode method_8_code 131 = .ok (.ireturn, 1) := by decide +kernel
theorem d26_121 : decode method_8_code 121 = .ok (.iconst 4, 1) := by decide +kernel
theorem d26_122 : decode method_8_code 122 = .ok (.ireturn, 1) := by decide +kernel
theorem d26_135 : decode method_8_code 135 = .ok (.iload_n 0, 1) := by decide +kernel
theorem d26_136 : decode method_8_code 136 = .ok (.iconst 5, 1) := by decide +kernel
theorem d26_137 : decode method_8_code 137 = .ok (.if_icmp .ne 26, 3) := by decide +kernel
theorem d26_140 : decode method_8_code 140 = .ok (.iload_n 1, 1) := by decide +kernel
theorem d26_141 : decode method_8_code 141 = .ok (.invokestatic 37, 3) := by decide +kernel
theorem d26_144 : decode method_8_code 144 = .ok (.ifCond .eq 6, 3) := by decide +kernel
theorem d26_150 : decode method_8_code 150 = .ok (.iload_n 1, 1) := by decide +kernel
theorem d26_151 : decode method_8_code 151 = .ok (.invokestatic 33, 3) := by decide +kernel
theorem d26_154 : decode method_8_code 154 = .ok (.ifCond .eq 6, 3) := by decide +kernel
theorem d26_160 : decode method_8_code 160 = .ok (.bipush 8, 2) := by decide +kernel
theorem d26_162 : decode method_8_code 162 = .ok (.ireturn, 1) := by decide +kernel
theorem d26_157 : decode method_8_code 157 = .ok (.bipush 7, 2) := by decide +kernel
theorem d26_159 : decode method_8_code 159 = .ok (.ireturn, 1) := by decide +kernel
theorem d26_147 : decode method_8_code 147 = .ok (.bipush 6, 2) := by decide +kernel
theorem d26_149 : decode method_8_code 149 = .ok (.ireturn, 1) := by decide +kernel
theorem d26_163 : decode method_8_code 163 = .ok (.iload_n 0, 1) := by decide +kernel
theorem d26_164 : decode method_8_code 164 = .ok (.bipush 6, 2) := by decide +kernel
theorem d26_166 : decode method_8_code 166 = .ok (.if_icmp .ne 16, 3) := by decide +kernel
theorem d26_169 : decode method_8_code 169 = .ok (.iload_n 1, 1) := by decide +kernel
theorem d26_170 : decode method_8_code 170 = .ok (.invokestatic 33, 3) := by decide +kernel
theorem d26_173 : decode method_8_code 173 = .ok (.ifCond .eq 6, 3) := by decide +kernel
theorem d26_179 : decode method_8_code 179 = .ok (.bipush 8, 2) := by decide +kernel
theorem d26_181 : decode method_8_code 181 = .ok (.ireturn, 1) := by decide +kernel
theorem d26_176 : decode method_8_code 176 = .ok (.bipush 7, 2) := by decide +kernel
theorem d26_178 : decode method_8_code 178 = .ok (.ireturn, 1) := by decide +kernel
theorem d26_182 : decode method_8_code 182 = .ok (.iload_n 0, 1) := by decide +kernel
theorem d26_183 : decode method_8_code 183 = .ok (.bipush 7, 2) := by decide +kernel
theorem d26_185 : decode method_8_code 185 = .ok (.if_icmp .ne 16, 3) := by decide +kernel
theorem d26_188 : decode method_8_code 188 = .ok (.iload_n 1, 1) := by decide +kernel
theorem d26_189 : decode method_8_code 189 = .ok (.invokestatic 33, 3) := by decide +kernel
theorem d26_192 : decode method_8_code 192 = .ok (.ifCond .eq 6, 3) := by decide +kernel
theorem d26_198 : decode method_8_code 198 = .ok (.bipush 8, 2) := by decide +kernel
theorem d26_200 : decode method_8_code 200 = .ok (.ireturn, 1) := by decide +kernel
theorem d26_195 : decode method_8_code 195 = .ok (.bipush 7, 2) := by decide +kernel
theorem d26_197 : decode method_8_code 197 = .ok (.ireturn, 1) := by decide +kernel
theorem d26_201 : decode method_8_code 201 = .ok (.bipush 8, 2) := by decide +kernel
theorem d26_203 : decode method_8_code 203 = .ok (.ireturn, 1) := by decide +kernel
theorem d27_0 : decode method_3_code 0 = .ok (.iload_n 0, 1) := by decide +kernel
theorem d27_1 : decode method_3_code 1 = .ok (.bipush 15, 2) := by decide +kernel
theorem d27_3 : decode method_3_code 3 = .ok (.iand, 1) := by decide +kernel
theorem d27_4 : decode method_3_code 4 = .ok (.istore_n 1, 1) := by decide +kernel
theorem d27_5 : decode method_3_code 5 = .ok (.iload_n 1, 1) := by decide +kernel
theorem d27_6 : decode method_3_code 6 = .ok (.iconst 4, 1) := by decide +kernel
theorem d27_7 : decode method_3_code 7 = .ok (.if_icmp .ge 17, 3) := by decide +kernel
theorem d27_10 : decode method_3_code 10 = .ok (.bipush 48, 2) := by decide +kernel
theorem d27_12 : decode method_3_code 12 = .ok (.iload_n 0, 1) := by decide +kernel
theorem d27_13 : decode method_3_code 13 = .ok (.iconst 4, 1) := by decide +kernel
theorem d27_14 : decode method_3_code 14 = .ok (.iushr, 1) := by decide +kernel
theorem d27_15 : decode method_3_code 15 = .ok (.bipush 15, 2) := by decide +kernel
theorem d27_17 : decode method_3_code 17 = .ok (.iand, 1) := by decide +kernel
theorem d27_18 : decode method_3_code 18 = .ok (.bipush 10, 2) := by decide +kernel
theorem d27_20 : decode method_3_code 20 = .ok (.irem, 1) := by decide +kernel
theorem d27_21 : decode method_3_code 21 = .ok (.iadd, 1) := by decide +kernel
theorem d27_22 : decode method_3_code 22 = .ok (.i2c, 1) := by decide +kernel
theorem d27_23 : decode method_3_code 23 = .ok (.ireturn, 1) := by decide +kernel
theorem d27_24 : decode method_3_code 24 = .ok (.iload_n 1, 1) := by decide +kernel
theorem d27_25 : decode method_3_code 25 = .ok (.iconst 4, 1) := by decide +kernel
theorem d27_26 : decode method_3_code 26 = .ok (.if_icmp .ne 6, 3) := by decide +kernel
theorem d27_29 : decode method_3_code 29 = .ok (.bipush 43, 2) := by decide +kernel
theorem d27_31 : decode method_3_code 31 = .ok (.ireturn, 1) := by decide +kernel
theorem d27_32 : decode method_3_code 32 = .ok (.iload_n 1, 1) := by decide +kernel
theorem d27_33 : decode method_3_code 33 = .ok (.iconst 5, 1) := by decide +kernel
theorem d27_34 : decode method_3_code 34 = .ok (.if_icmp .ne 6, 3) := by decide +kernel
theorem d27_37 : decode method_3_code 37 = .ok (.bipush 45, 2) := by decide +kernel
theorem d27_39 : decode method_3_code 39 = .ok (.ireturn, 1) := by decide +kernel
theorem d27_40 : decode method_3_code 40 = .ok (.iload_n 1, 1) := by decide +kernel
theorem d27_41 : decode method_3_code 41 = .ok (.bipush 6, 2) := by decide +kernel
theorem d27_43 : decode method_3_code 43 = .ok (.if_icmp .ne 6, 3) := by decide +kernel
theorem d27_46 : decode method_3_code 46 = .ok (.bipush 46, 2) := by decide +kernel
theorem d27_48 : decode method_3_code 48 = .ok (.ireturn, 1) := by decide +kernel
theorem d27_49 : decode method_3_code 49 = .ok (.iload_n 1, 1) := by decide +kernel
theorem d27_50 : decode method_3_code 50 = .ok (.bipush 7, 2) := by decide +kernel
theorem d27_52 : decode method_3_code 52 = .ok (.if_icmp .ne 6, 3) := by decide +kernel
theorem d27_55 : decode method_3_code 55 = .ok (.bipush 101, 2) := by decide +kernel
theorem d27_57 : decode method_3_code 57 = .ok (.ireturn, 1) := by decide +kernel
theorem d27_58 : decode method_3_code 58 = .ok (.iload_n 1, 1) := by decide +kernel
theorem d27_59 : decode method_3_code 59 = .ok (.bipush 8, 2) := by decide +kernel
theorem d27_61 : decode method_3_code 61 = .ok (.if_icmp .ne 6, 3) := by decide +kernel
theorem d27_64 : decode method_3_code 64 = .ok (.bipush 69, 2) := by decide +kernel
theorem d27_66 : decode method_3_code 66 = .ok (.ireturn, 1) := by decide +kernel
theorem d27_67 : decode method_3_code 67 = .ok (.iload_n 0, 1) := by decide +kernel
theorem d27_68 : decode method_3_code 68 = .ok (.bipush 16, 2) := by decide +kernel
theorem d27_70 : decode method_3_code 70 = .ok (.iushr, 1) := by decide +kernel
theorem d27_71 : decode method_3_code 71 = .ok (.i2c, 1) := by decide +kernel
theorem d27_72 : decode method_3_code 72 = .ok (.ireturn, 1) := by decide +kernel
theorem W30 {Z : State} {a0 : Array Value} (hw : ∀ d ∈ tables_1, d.before a0 Z = true) : (Jvm.Cond.methodLink "com/example/cohabit/cohabit/NumbersIsDecimalPinLaw" (22 : Nat) ({ cls := "com/example/cohabit/cohabit/Numbers", name := "isDecimal", desc := "(Ljava/lang/String;)Z" } : Jvm.MethodName)).before a0 Z = true := hw _ (List.mem_of_getElem? (i := 30) rfl)
theorem pd_14 : parseMethodDescriptor "(Ljava/lang/String;)Z" = some ⟨[(.object "java/lang/String")], (some .boolean)⟩ := by decide +kernel
theorem W31 {Z : State} {a0 : Array Value} (hw : ∀ d ∈ tables_1, d.before a0 Z = true) : (Jvm.Cond.static ({ cls := "com/example/cohabit/cohabit/Numbers", name := "isDecimal", desc := "(Ljava/lang/String;)Z" } : Jvm.MethodName)).before a0 Z = true := hw _ (List.mem_of_getElem? (i := 31) rfl)
theorem W33 {Z : State} {a0 : Array Value} (hw : ∀ d ∈ tables_1, d.before a0 Z = true) : (Jvm.Cond.code ({ cls := "com/example/cohabit/cohabit/Numbers", name := "isDecimal", desc := "(Ljava/lang/String;)Z" } : Jvm.MethodName) prog_24_method_2_code (5 : Nat) (Option.some Jvm.ClassFile.FieldType.boolean)).before a0 Z = true := hw _ (List.mem_of_getElem? (i := 33) rfl)
theorem W0 {Z : State} {a0 : Array Value} (hw : ∀ d ∈ tables_1, d.before a0 Z = true) : (Jvm.Cond.constant "com/example/cohabit/cohabit/NumbersIsDecimalPinLaw" (7 : Nat) (2147483647 : Int32)).before a0 Z = true := hw _ (List.mem_of_getElem? (i := 0) rfl)
theorem W1 {Z : State} {a0 : Array Value} (hw : ∀ d ∈ tables_1, d.before a0 Z = true) : (Jvm.Cond.methodLink "com/example/cohabit/cohabit/NumbersIsDecimalPinLaw" (8 : Nat) ({ cls := "com/example/cohabit/cohabit/NumbersIsDecimalPinLaw", name := "ch", desc := "(I)C" } : Jvm.MethodName)).before a0 Z = true := hw _ (List.mem_of_getElem? (i := 1) rfl)
theorem W2 {Z : State} {a0 : Array Value} (hw : ∀ d ∈ tables_1, d.before a0 Z = true) : (Jvm.Cond.static ({ cls := "com/example/cohabit/cohabit/NumbersIsDecimalPinLaw", name := "ch", desc := "(I)C" } : Jvm.MethodName)).before a0 Z = true := hw _ (List.mem_of_getElem? (i := 2) rfl)
theorem W4 {Z : State} {a0 : Array Value} (hw : ∀ d ∈ tables_1, d.before a0 Z = true) : (Jvm.Cond.code ({ cls := "com/example/cohabit/cohabit/NumbersIsDecimalPinLaw", name := "ch", desc := "(I)C" } : Jvm.MethodName) method_3_code (2 : Nat) (Option.some Jvm.ClassFile.FieldType.char)).before a0 Z = true := hw _ (List.mem_of_getElem? (i := 4) rfl)
theorem W5 {Z : State} {a0 : Array Value} (hw : ∀ d ∈ tables_1, d.before a0 Z = true) : (Jvm.Cond.methodLink "com/example/cohabit/cohabit/NumbersIsDecimalPinLaw" (14 : Nat) ({ cls := "com/example/cohabit/cohabit/NumbersIsDecimalPinLaw", name := "make", desc := "(ICCCCCCCC)Ljava/lang/String;" } : Jvm.MethodName)).before a0 Z = true := hw _ (List.mem_of_getElem? (i := 5) rfl)
theorem pd_9 : parseMethodDescriptor "(ICCCCCCCC)Ljava/lang/String;" = some ⟨[.int, .char, .char, .char, .char, .char, .char, .char, .char], (some (.object "java/lang/String"))⟩ := by decide +kernel
theorem W6 {Z : State} {a0 : Array Value} (hw : ∀ d ∈ tables_1, d.before a0 Z = true) : (Jvm.Cond.static ({ cls := "com/example/cohabit/cohabit/NumbersIsDecimalPinLaw", name := "make", desc := "(ICCCCCCCC)Ljava/lang/String;" } : Jvm.MethodName)).before a0 Z = true := hw _ (List.mem_of_getElem? (i := 6) rfl)
theorem W7 {Z : State} {a0 : Array Value} (hw : ∀ d ∈ tables_1, d.before a0 Z = true) : (Jvm.Cond.code ({ cls := "com/example/cohabit/cohabit/NumbersIsDecimalPinLaw", name := "make", desc := "(ICCCCCCCC)Ljava/lang/String;" } : Jvm.MethodName) method_4_code (9 : Nat) (Option.some (Jvm.ClassFile.FieldType.object "java/lang/String"))).before a0 Z = true := hw _ (List.mem_of_getElem? (i := 7) rfl)
theorem W77 {Z : State} {a0 : Array Value} (hw : ∀ d ∈ tables_1, d.before a0 Z = true) : (Jvm.Cond.methodLink "com/example/cohabit/cohabit/NumbersIsDecimalPinLaw" (18 : Nat) ({ cls := "com/example/cohabit/cohabit/NumbersIsDecimalPinLaw", name := "step", desc := "(IC)I" } : Jvm.MethodName)).before a0 Z = true := hw _ (List.mem_of_getElem? (i := 77) rfl)
theorem pd_2849432949 : parseMethodDescriptor "(IC)I" = some ⟨[.int, .char], (some .int)⟩ := by decide +kernel
theorem W78 {Z : State} {a0 : Array Value} (hw : ∀ d ∈ tables_1, d.before a0 Z = true) : (Jvm.Cond.static ({ cls := "com/example/cohabit/cohabit/NumbersIsDecimalPinLaw", name := "step", desc := "(IC)I" } : Jvm.MethodName)).before a0 Z = true := hw _ (List.mem_of_getElem? (i := 78) rfl)
theorem W79 {Z : State} {a0 : Array Value} (hw : ∀ d ∈ tables_1, d.before a0 Z = true) : (Jvm.Cond.code ({ cls := "com/example/cohabit/cohabit/NumbersIsDecimalPinLaw", name := "step", desc := "(IC)I" } : Jvm.MethodName) method_8_code (2 : Nat) (Option.some Jvm.ClassFile.FieldType.int)).before a0 Z = true := hw _ (List.mem_of_getElem? (i := 79) rfl)
def Glob (Z : State) (a0 : Array Value) (EL : List (String × Nat)) : Prop :=
  (∀ d ∈ tables_1, d.before a0 Z = true) ∧ EW Z a0 EL ∧ EL = consts_1 ∧ (∃ z : Int32, Sta Z Z.heap "java/lang/String" "COMPACT_STRINGS" "Z" (.int z) ∧ ¬ z = 0) ∧ (∃ v : Value, Sta Z Z.heap "jdk/internal/util/Preconditions" "SIOOBE_FORMATTER" "Ljava/util/function/BiFunction;" v ∧ v.isRef = true) ∧ (Sta Z Z.heap "java/lang/StringUTF16" "$assertionsDisabled" "Z" (.int 1)) ∧ (Sta Z Z.heap "java/lang/StringUTF16" "HI_BYTE_SHIFT" "I" (.int 0)) ∧ (Sta Z Z.heap "java/lang/StringUTF16" "LO_BYTE_SHIFT" "I" (.int 8))
theorem Glob.hw {Z : State} {a0 : Array Value} {EL : List (String × Nat)} (G : Glob Z a0 EL) : ∀ d ∈ tables_1, d.before a0 Z = true := G.1
theorem Glob.ew {Z : State} {a0 : Array Value} {EL : List (String × Nat)} (G : Glob Z a0 EL) : EW Z a0 EL := G.2.1
theorem Glob.el {Z : State} {a0 : Array Value} {EL : List (String × Nat)} (G : Glob Z a0 EL) : EL = consts_1 := G.2.2.1
theorem Glob.cs {Z : State} {a0 : Array Value} {EL : List (String × Nat)} (G : Glob Z a0 EL) : ∃ z : Int32, Sta Z Z.heap "java/lang/String" "COMPACT_STRINGS" "Z" (.int z) ∧ ¬ z = 0 := G.2.2.2.1
theorem Glob.fm {Z : State} {a0 : Array Value} {EL : List (String × Nat)} (G : Glob Z a0 EL) : ∃ v : Value, Sta Z Z.heap "jdk/internal/util/Preconditions" "SIOOBE_FORMATTER" "Ljava/util/function/BiFunction;" v ∧ v.isRef = true := G.2.2.2.2.1
theorem Glob.u1 {Z : State} {a0 : Array Value} {EL : List (String × Nat)} (G : Glob Z a0 EL) : Sta Z Z.heap "java/lang/StringUTF16" "$assertionsDisabled" "Z" (.int 1) := G.2.2.2.2.2.1
theorem Glob.u2 {Z : State} {a0 : Array Value} {EL : List (String × Nat)} (G : Glob Z a0 EL) : Sta Z Z.heap "java/lang/StringUTF16" "HI_BYTE_SHIFT" "I" (.int 0) := G.2.2.2.2.2.2.1
theorem Glob.u3 {Z : State} {a0 : Array Value} {EL : List (String × Nat)} (G : Glob Z a0 EL) : Sta Z Z.heap "java/lang/StringUTF16" "LO_BYTE_SHIFT" "I" (.int 8) := G.2.2.2.2.2.2.2
theorem Glob.wS {Z : State} {a0 : Array Value} {EL : List (String × Nat)} (G : Glob Z a0 EL) : ∀ a ∈ Bundle.stringAtoms, a.before a0 Z = true := fun d hd => G.hw d ((by decide +kernel : ∀ d ∈ Bundle.stringAtoms, d ∈ tables_1) d hd)
set_option maxRecDepth 65536 in
set_option maxHeartbeats 40000000 in
theorem rm_nbl (l : Launch) (Z : State) (a0 : Array Value) (EL : List (String × Nat)) (G : Glob Z a0 EL) (n : Nat) (h : Heap) (O : Ext Z.heap h) (hn : n ≤ 8) :
    Met l Z EL true (⟨"java/lang/StringUTF16", "newBytesLength", "(I)I"⟩ : MethodName) jdk_52_method_3_code 1 (some .int) [] ({ frames := 0, cells := 0, slots := 0, locals := 0 } : Room) #[(.int (Int32.ofNat n))] h [] (fun r h' => r = some (.int (Int32.ofNat (2 * n))) ∧ h = h') := by
  have hw := G.hw
  obtain ⟨zc, Sc, hzc⟩ := G.cs
  obtain ⟨vf, Sf, hvf⟩ := G.fm
  obtain Sa := G.u1
  obtain Sh := G.u2
  obtain Sl := G.u3
  refine Met.of (plainFor_of_name pn_675554463136_5) G.ew O ?_
  intro p e s m below meth c T0 C0 S0
  refine Endw.eq (g' := mkF m 0 #[.val (.int (Int32.ofNat n))] []) (by first | rfl | (simp [entryFrame, mkF, argsToLocals, own_cI, own_cR, own_cN, own_cJ, own_cD, maxLocals]; done)) ?_
  refine Endw.st (T' := T0) (g' := (mkF m 58 #[.val (.int (Int32.ofNat n))] [(.int ((Int32.ofNat n) <<< ((1 : Int32) &&& 31)))])) (fun tt_ kk_ => XS.iloadN C0.here C0.hx rfl (C0.dec d0_0) rfl (XS.ifYes C0.here C0.hx rfl (pc0 := 1) rfl (C0.dec d0_1) rfl (XT.i0_ge_t (own_nn (by omega))) (by decide) rfl (XS.iloadN C0.here C0.hx rfl (C0.dec d0_12) rfl (own_ldcI C0 (W64 hw) rfl d0_13 (XS.icmpYes C0.here C0.hx rfl (pc0 := 15) rfl (C0.dec d0_15) rfl (XT.ii_lt_t (own_lt30 (by omega))) (by decide) rfl (XS.iloadN C0.here C0.hx rfl (C0.dec d0_55) rfl (XS.iconst C0.here C0.hx rfl (C0.dec d0_56) (XS.ishl C0.here C0.hx rfl (C0.dec d0_57) rfl kk_)))))))) ?_
  rw [show ((Int32.ofNat n) <<< ((1 : Int32) &&& 31)) = (Int32.ofNat (2 * n)) from own_shl1 (by omega)]
  exact C0.retI (t := .int) rfl (by simp) rfl d0_58 (by decide) (by decide) ⟨rfl, rfl⟩
set_option maxRecDepth 65536 in
set_option maxHeartbeats 40000000 in
theorem rm_nbf (l : Launch) (Z : State) (a0 : Array Value) (EL : List (String × Nat)) (G : Glob Z a0 EL) (n : Nat) (h : Heap) (O : Ext Z.heap h) (hn : n ≤ 8) :
    Met l Z EL true (⟨"java/lang/StringUTF16", "newBytesFor", "(I)[B"⟩ : MethodName) jdk_52_method_2_code 1 (some (.array .byte)) [] ({ frames := 1, cells := 1, slots := 16, locals := 12 } : Room) #[(.int (Int32.ofNat n))] h [] (fun r h' => ∃ (x : Addr) (kx : ClassId), r = some (.ref x) ∧ Keep h h' [] ∧ h.size ≤ x ∧ Z.heap.size ≤ x ∧ Arv Z h' x kx .byte (Int32.ofNat (2 * n)) [] (.int 0)) := by
  have hw := G.hw
  obtain ⟨zc, Sc, hzc⟩ := G.cs
  obtain ⟨vf, Sf, hvf⟩ := G.fm
  obtain Sa := G.u1
  obtain Sh := G.u2
  obtain Sl := G.u3
  refine Met.of (plainFor_of_name pn_675554463136_5) G.ew O ?_
  intro p e s m below meth c T0 C0 S0
  refine Endw.eq (g' := mkF m 0 #[.val (.int (Int32.ofNat n))] []) (by first | rfl | (simp [entryFrame, mkF, argsToLocals, own_cI, own_cR, own_cN, own_cJ, own_cD, maxLocals]; done)) ?_
  refine Endw.st (T' := T0) (g' := (mkF m 1 #[.val (.int (Int32.ofNat n))] [(.int (Int32.ofNat n))])) (fun tt_ kk_ => XS.iloadN C0.here C0.hx rfl (C0.dec d1_0) rfl kk_) ?_
  refine C0.static (y := (⟨"java/lang/StringUTF16", "newBytesLength", "(I)I"⟩ : MethodName)) (W := 0) (argsL := [(.int (Int32.ofNat n))]) (rest := []) (W61 hw) (W62 hw) (W63 hw) (W50 hw) (by decide) (rm_nbl l Z a0 EL G n h C0.old hn) (fun _ => rfl) rfl all0 (by decide) (by decide) (by decide) (by decide) (lenOf pd_28492949 rfl) rfl (Nat.le_of_ble_eq_true rfl) rfl d1_1 (pc' := 4) rfl ?_
  intro vm1 T1 h1 v1 C1 A1 M1 q1
  obtain ⟨rfl, rfl⟩ := q1
  show Endw p e below T1 (mkF m 4 #[.val (.int (Int32.ofNat n))] [(.int (Int32.ofNat (2 * n)))]) _
  refine C1.newA (aty := .byte) (z := (Int32.ofNat (2 * n))) (cap := 16) (vs := []) (W23 hw) d1_4 (pc' := 6) rfl (own_nn (by omega)) (by rw [own_nc (by omega)]; omega) (by decide) (by decide) (by decide) rfl ?_
  intro T2 h2 a2 kA2 C2 K2 A2 ge2 zg2 V2 S2
  show Endw p e below T2 (mkF m 6 #[.val (.int (Int32.ofNat n))] [(.ref a2)]) _
  exact C2.retA (t := (.array .byte)) rfl rfl rfl rfl d1_6 (by decide) (by decide) ⟨a2, kA2, rfl, (Keep.trans (Keep.refl h []) K2 all0), ge2, zg2, V2⟩
set_option maxRecDepth 65536 in
set_option maxHeartbeats 40000000 in
theorem rm_put (l : Launch) (Z : State) (a0 : Array Value) (EL : List (String × Nat)) (G : Glob Z a0 EL) (d : Addr) (kd : ClassId) (N j : Nat) (x : Int32) (xs : List Int32) (h : Heap) (O : Ext Z.heap h) (D : Arv Z h d kd .byte (Int32.ofNat N) (own_vals xs) (.int 0)) (hv : xs.length = 2 * j) (hlt : 2 * j + 1 < N) (hN : N ≤ 4000) (zd : Z.heap.size ≤ d) :
    Met l Z EL true (⟨"java/lang/StringUTF16", "putChar", "([BII)V"⟩ : MethodName) jdk_52_method_4_code 3 none [] ({ frames := 0, cells := 0, slots := 0, locals := 0 } : Room) #[(.ref d), (.int (Int32.ofNat j)), (.int x)] h [d] (fun r h' => r = none ∧ Keep h h' [d] ∧ Arv Z h' d kd .byte (Int32.ofNat N) (own_vals (xs ++ [own_lo x, own_hi x])) (.int 0)) := by
  have hw := G.hw
  obtain ⟨zc, Sc, hzc⟩ := G.cs
  obtain ⟨vf, Sf, hvf⟩ := G.fm
  obtain Sa := G.u1
  obtain Sh := G.u2
  obtain Sl := G.u3
  refine Met.of (plainFor_of_name pn_675554463136_5) G.ew O ?_
  intro p e s m below meth c T0 C0 S0
  refine Endw.eq (g' := mkF m 0 #[.val (.ref d), .val (.int (Int32.ofNat j)), .val (.int x)] []) (by first | rfl | (simp [entryFrame, mkF, argsToLocals, own_cI, own_cR, own_cN, own_cJ, own_cD, maxLocals]; done)) ?_
  refine C0.getS (W68 hw) Sa d2_0 (pc' := 3) rfl ?_
  intro T1 C1
  show Endw p e below T1 (mkF m 3 #[.val (.ref d), .val (.int (Int32.ofNat j)), .val (.int x)] [(.int (1 : Int32))]) _
  refine Endw.st (T' := T1) (g' := (mkF m 31 #[.val (.ref d), .val (.int (Int32.ofNat j)), .val (.int x)] [(.int ((Int32.ofNat j) <<< ((1 : Int32) &&& 31)))])) (fun tt_ kk_ => XS.ifYes C1.here C1.hx rfl (pc0 := 3) rfl (C1.dec d2_3) rfl (XT.i0_ne_t (by decide)) (by decide) rfl (XS.iloadN C1.here C1.hx rfl (C1.dec d2_28) rfl (XS.iconst C1.here C1.hx rfl (C1.dec d2_29) (XS.ishl C1.here C1.hx rfl (C1.dec d2_30) rfl kk_)))) ?_
  rw [show ((Int32.ofNat j) <<< ((1 : Int32) &&& 31)) = (Int32.ofNat (2 * j)) from own_shl1 (by omega)]
  refine Endw.st (T' := T1) (g' := (mkF m 37 #[.val (.ref d), .val (.int ((Int32.ofNat (2 * j)) + (1 : Int32))), .val (.int x)] [(.int (Int32.ofNat (2 * j))), (.ref d)])) (fun tt_ kk_ => XS.istoreN C1.here C1.hx rfl (C1.dec d2_31) rfl (l' := #[.val (.ref d), .val (.int (Int32.ofNat (2 * j))), .val (.int x)]) rfl (XS.aloadN C1.here C1.hx rfl (C1.dec d2_32) rfl rfl (XS.iloadN C1.here C1.hx rfl (C1.dec d2_33) rfl (XS.iinc C1.here C1.hx rfl (C1.dec d2_34) rfl (l' := #[.val (.ref d), .val (.int ((Int32.ofNat (2 * j)) + (1 : Int32))), .val (.int x)]) rfl kk_)))) ?_
  rw [show ((Int32.ofNat (2 * j)) + (1 : Int32)) = (Int32.ofNat (2 * j + 1)) from own_inc _]
  refine Endw.st (T' := T1) (g' := (mkF m 38 #[.val (.ref d), .val (.int (Int32.ofNat (2 * j + 1))), .val (.int x)] [(.int x), (.int (Int32.ofNat (2 * j))), (.ref d)])) (fun tt_ kk_ => XS.iloadN C1.here C1.hx rfl (C1.dec d2_37) rfl kk_) ?_
  refine C1.getS (W69 hw) Sh d2_38 (pc' := 41) rfl ?_
  intro T2 C2
  show Endw p e below T2 (mkF m 41 #[.val (.ref d), .val (.int (Int32.ofNat (2 * j + 1))), .val (.int x)] [(.int (0 : Int32)), (.int x), (.int (Int32.ofNat (2 * j))), (.ref d)]) _
  refine Endw.st (T' := T2) (g' := (mkF m 42 #[.val (.ref d), .val (.int (Int32.ofNat (2 * j + 1))), .val (.int x)] [(.int (x >>> ((0 : Int32) &&& 31))), (.int (Int32.ofNat (2 * j))), (.ref d)])) (fun tt_ kk_ => XS.ishr C2.here C2.hx rfl (C2.dec d2_41) rfl kk_) ?_
  rw [own_shr0]
  refine Endw.st (T' := T2) (g' := (mkF m 43 #[.val (.ref d), .val (.int (Int32.ofNat (2 * j + 1))), .val (.int x)] [(.int (x.toInt8.toInt32)), (.int (Int32.ofNat (2 * j))), (.ref d)])) (fun tt_ kk_ => XS.i2b C2.here C2.hx rfl (C2.dec d2_42) rfl kk_) ?_
  refine C2.bastoreEnd (i := (2 * j)) (vs := (own_vals xs)) (x' := (x.toInt8.toInt32)) D (by rw [own_valsLen, hv]) (by omega) (by omega) own_nar_byte zd (S0 d (by simp)) d2_43 (pc' := 44) rfl ?_
  intro T3 h3 C3 K3 A3 V3
  show Endw p e below T3 (mkF m 44 #[.val (.ref d), .val (.int (Int32.ofNat (2 * j + 1))), .val (.int x)] []) _
  refine Endw.st (T' := T3) (g' := (mkF m 47 #[.val (.ref d), .val (.int (Int32.ofNat (2 * j + 1))), .val (.int x)] [(.int x), (.int (Int32.ofNat (2 * j + 1))), (.ref d)])) (fun tt_ kk_ => XS.aloadN C3.here C3.hx rfl (C3.dec d2_44) rfl rfl (XS.iloadN C3.here C3.hx rfl (C3.dec d2_45) rfl (XS.iloadN C3.here C3.hx rfl (C3.dec d2_46) rfl kk_))) ?_
  refine C3.getS (W70 hw) Sl d2_47 (pc' := 50) rfl ?_
  intro T4 C4
  show Endw p e below T4 (mkF m 50 #[.val (.ref d), .val (.int (Int32.ofNat (2 * j + 1))), .val (.int x)] [(.int (8 : Int32)), (.int x), (.int (Int32.ofNat (2 * j + 1))), (.ref d)]) _
  refine Endw.st (T' := T4) (g' := (mkF m 52 #[.val (.ref d), .val (.int (Int32.ofNat (2 * j + 1))), .val (.int x)] [(.int ((x >>> ((8 : Int32) &&& 31)).toInt8.toInt32)), (.int (Int32.ofNat (2 * j + 1))), (.ref d)])) (fun tt_ kk_ => XS.ishr C4.here C4.hx rfl (C4.dec d2_50) rfl (XS.i2b C4.here C4.hx rfl (C4.dec d2_51) rfl kk_)) ?_
  have f6 := (A3.safe D.lt (S0 d (by simp)))
  refine C4.bastoreEnd (i := (2 * j + 1)) (vs := ((own_vals xs) ++ [.int (x.toInt8.toInt32)])) (x' := ((x >>> ((8 : Int32) &&& 31)).toInt8.toInt32)) V3 (by rw [List.length_append, own_valsLen, hv]; rfl) (by omega) (by omega) own_nar_byte zd f6 d2_52 (pc' := 53) rfl ?_
  intro T5 h5 C5 K5 A5 V5
  show Endw p e below T5 (mkF m 53 #[.val (.ref d), .val (.int (Int32.ofNat (2 * j + 1))), .val (.int x)] []) _
  exact C5.retV d2_53 (by decide) (by decide) ⟨rfl, (Keep.trans (Keep.trans (Keep.refl h [d]) K3 (allS (Or.inl (by simp)) all0)) K5 (allS (Or.inl (by simp)) all0)), by rw [own_vals2]; exact V5⟩
set_option maxRecDepth 65536 in
set_option maxHeartbeats 40000000 in
theorem rm_get (l : Launch) (Z : State) (a0 : Array Value) (EL : List (String × Nat)) (G : Glob Z a0 EL) (d : Addr) (kd : ClassId) (cs : List Int32) (j : Nat) (x : Int32) (h : Heap) (O : Ext Z.heap h) (D : Arv Z h d kd .byte (Int32.ofNat (2 * cs.length)) (own_wide cs) (.int 0)) (hj : j < cs.length) (hx : cs.getD j 0 = x) (hc : C16 x) (h8 : cs.length ≤ 8) :
    Met l Z EL true (⟨"java/lang/StringUTF16", "getChar", "([BI)C"⟩ : MethodName) jdk_52_method_5_code 2 (some .char) [] ({ frames := 0, cells := 0, slots := 0, locals := 0 } : Room) #[(.ref d), (.int (Int32.ofNat j))] h [] (fun r h' => r = some (.int x) ∧ h = h') := by
  have hw := G.hw
  obtain ⟨zc, Sc, hzc⟩ := G.cs
  obtain ⟨vf, Sf, hvf⟩ := G.fm
  obtain Sa := G.u1
  obtain Sh := G.u2
  obtain Sl := G.u3
  refine Met.of (plainFor_of_name pn_675554463136_5) G.ew O ?_
  intro p e s m below meth c T0 C0 S0
  refine Endw.eq (g' := mkF m 0 #[.val (.ref d), .val (.int (Int32.ofNat j))] []) (by first | rfl | (simp [entryFrame, mkF, argsToLocals, own_cI, own_cR, own_cN, own_cJ, own_cD, maxLocals]; done)) ?_
  refine C0.getS (W68 hw) Sa d3_0 (pc' := 3) rfl ?_
  intro T1 C1
  show Endw p e below T1 (mkF m 3 #[.val (.ref d), .val (.int (Int32.ofNat j))] [(.int (1 : Int32))]) _
  refine Endw.st (T' := T1) (g' := (mkF m 31 #[.val (.ref d), .val (.int (Int32.ofNat j))] [(.int ((Int32.ofNat j) <<< ((1 : Int32) &&& 31)))])) (fun tt_ kk_ => XS.ifYes C1.here C1.hx rfl (pc0 := 3) rfl (C1.dec d3_3) rfl (XT.i0_ne_t (by decide)) (by decide) rfl (XS.iloadN C1.here C1.hx rfl (C1.dec d3_28) rfl (XS.iconst C1.here C1.hx rfl (C1.dec d3_29) (XS.ishl C1.here C1.hx rfl (C1.dec d3_30) rfl kk_)))) ?_
  rw [show ((Int32.ofNat j) <<< ((1 : Int32) &&& 31)) = (Int32.ofNat (2 * j)) from own_shl1 (by omega)]
  refine Endw.st (T' := T1) (g' := (mkF m 37 #[.val (.ref d), .val (.int ((Int32.ofNat (2 * j)) + (1 : Int32)))] [(.int (Int32.ofNat (2 * j))), (.ref d)])) (fun tt_ kk_ => XS.istoreN C1.here C1.hx rfl (C1.dec d3_31) rfl (l' := #[.val (.ref d), .val (.int (Int32.ofNat (2 * j)))]) rfl (XS.aloadN C1.here C1.hx rfl (C1.dec d3_32) rfl rfl (XS.iloadN C1.here C1.hx rfl (C1.dec d3_33) rfl (XS.iinc C1.here C1.hx rfl (C1.dec d3_34) rfl (l' := #[.val (.ref d), .val (.int ((Int32.ofNat (2 * j)) + (1 : Int32)))]) rfl kk_)))) ?_
  rw [show ((Int32.ofNat (2 * j)) + (1 : Int32)) = (Int32.ofNat (2 * j + 1)) from own_inc _]
  refine C1.baloadN (j := (2 * j)) D (by omega) (by omega) (v := (.int (own_lo x))) (by rw [own_wide, own_mapD, wideI_lo cs hj, hx]) d3_37 (pc' := 38) rfl ?_
  show Endw p e below T1 (mkF m 38 #[.val (.ref d), .val (.int (Int32.ofNat (2 * j + 1)))] [(.int (own_lo x))]) _
  refine Endw.st (T' := T1) (g' := (mkF m 42 #[.val (.ref d), .val (.int (Int32.ofNat (2 * j + 1)))] [(.int ((own_lo x) &&& (255 : Int32)))])) (fun tt_ kk_ => XS.sipush C1.here C1.hx rfl (C1.dec d3_38) (XS.iand C1.here C1.hx rfl (C1.dec d3_41) rfl kk_)) ?_
  refine C1.getS (W69 hw) Sh d3_42 (pc' := 45) rfl ?_
  intro T2 C2
  show Endw p e below T2 (mkF m 45 #[.val (.ref d), .val (.int (Int32.ofNat (2 * j + 1)))] [(.int (0 : Int32)), (.int ((own_lo x) &&& (255 : Int32)))]) _
  refine Endw.st (T' := T2) (g' := (mkF m 46 #[.val (.ref d), .val (.int (Int32.ofNat (2 * j + 1)))] [(.int (((own_lo x) &&& (255 : Int32)) <<< ((0 : Int32) &&& 31)))])) (fun tt_ kk_ => XS.ishl C2.here C2.hx rfl (C2.dec d3_45) rfl kk_) ?_
  rw [own_shl0]
  refine Endw.st (T' := T2) (g' := (mkF m 48 #[.val (.ref d), .val (.int (Int32.ofNat (2 * j + 1)))] [(.int (Int32.ofNat (2 * j + 1))), (.ref d), (.int ((own_lo x) &&& (255 : Int32)))])) (fun tt_ kk_ => XS.aloadN C2.here C2.hx rfl (C2.dec d3_46) rfl rfl (XS.iloadN C2.here C2.hx rfl (C2.dec d3_47) rfl kk_)) ?_
  refine C2.baloadN (j := (2 * j + 1)) D (by omega) (by omega) (v := (.int (own_hi x))) (by rw [own_wide, own_mapD, wideI_hi cs hj, hx]) d3_48 (pc' := 49) rfl ?_
  show Endw p e below T2 (mkF m 49 #[.val (.ref d), .val (.int (Int32.ofNat (2 * j + 1)))] [(.int (own_hi x)), (.int ((own_lo x) &&& (255 : Int32)))]) _
  refine Endw.st (T' := T2) (g' := (mkF m 53 #[.val (.ref d), .val (.int (Int32.ofNat (2 * j + 1)))] [(.int ((own_hi x) &&& (255 : Int32))), (.int ((own_lo x) &&& (255 : Int32)))])) (fun tt_ kk_ => XS.sipush C2.here C2.hx rfl (C2.dec d3_49) (XS.iand C2.here C2.hx rfl (C2.dec d3_52) rfl kk_)) ?_
  refine C2.getS (W70 hw) Sl d3_53 (pc' := 56) rfl ?_
  intro T3 C3
  show Endw p e below T3 (mkF m 56 #[.val (.ref d), .val (.int (Int32.ofNat (2 * j + 1)))] [(.int (8 : Int32)), (.int ((own_hi x) &&& (255 : Int32))), (.int ((own_lo x) &&& (255 : Int32)))]) _
  refine Endw.st (T' := T3) (g' := (mkF m 59 #[.val (.ref d), .val (.int (Int32.ofNat (2 * j + 1)))] [(.int ((((own_lo x) &&& (255 : Int32)) ||| (((own_hi x) &&& (255 : Int32)) <<< ((8 : Int32) &&& 31))).toUInt32.toUInt16.toUInt32.toInt32))])) (fun tt_ kk_ => XS.ishl C3.here C3.hx rfl (C3.dec d3_56) rfl (XS.ior C3.here C3.hx rfl (C3.dec d3_57) rfl (XS.i2c C3.here C3.hx rfl (C3.dec d3_58) rfl kk_))) ?_
  rw [show ((((own_lo x) &&& (255 : Int32)) ||| (((own_hi x) &&& (255 : Int32)) <<< ((8 : Int32) &&& 31))).toUInt32.toUInt16.toUInt32.toInt32) = x from own_pair hc]
  exact C3.retI (t := .char) rfl (by simp) (own_narC hc) d3_59 (by decide) (by decide) ⟨rfl, rfl⟩
set_option maxRecDepth 65536 in
set_option maxHeartbeats 40000000 in
theorem rm_cmp5 (l : Launch) (Z : State) (a0 : Array Value) (EL : List (String × Nat)) (G : Glob Z a0 EL) (b d : Addr) (kb kd : ClassId) (cs : List Int32) (h : Heap) (O : Ext Z.heap h) (V : Arv Z h b kb .char (Int32.ofNat cs.length) (own_vals cs) (.int 0)) (D : Arv Z h d kd .byte (Int32.ofNat cs.length) [] (.int 0)) (h8 : cs.length ≤ 8) (zd : Z.heap.size ≤ d) (hbd : b ≠ d) :
    Met l Z EL true (⟨"java/lang/StringUTF16", "compress", "([CI[BII)I"⟩ : MethodName) jdk_52_method_21_code 7 (some .int) [] ({ frames := 0, cells := 0, slots := 0, locals := 0 } : Room) #[(.ref b), (.int (0 : Int32)), (.ref d), (.int (0 : Int32)), (.int (Int32.ofNat cs.length))] h [d] (fun r h' => ∃ j : Nat, r = some (.int (Int32.ofNat j)) ∧ Keep h h' [d] ∧ ((j = cs.length ∧ Arv Z h' d kd .byte (Int32.ofNat cs.length) (bys cs) (.int 0) ∧ ∀ c ∈ cs, ¬ (255 : Int32) < c) ∨ (j < cs.length ∧ (255 : Int32) < cs.getD j 0))) := by
  have hw := G.hw
  obtain ⟨zc, Sc, hzc⟩ := G.cs
  obtain ⟨vf, Sf, hvf⟩ := G.fm
  obtain Sa := G.u1
  obtain Sh := G.u2
  obtain Sl := G.u3
  refine Met.of (plainFor_of_name pn_675554463136_5) G.ew O ?_
  intro p e s m below meth c T0 C0 S0
  refine Endw.eq (g' := mkF m 0 #[.val (.ref b), .val (.int (0 : Int32)), .val (.ref d), .val (.int (0 : Int32)), .val (.int (Int32.ofNat cs.length)), .unset, .unset] []) (by first | rfl | (simp [entryFrame, mkF, argsToLocals, own_cI, own_cR, own_cN, own_cJ, own_cD, maxLocals]; done)) ?_
  have J3 : ∀ (tt : Nat) (j : Nat) (l6 : Slot) (vm : Vm) (T : State) (hh : Heap), (cs.length = j + tt) → (l6 = .unset ∨ ∃ u6 : Int32, l6 = .val (.int u6)) → (∀ c ∈ cs.take j, ¬ (255 : Int32) < c) → (Keep h hh [d]) → (CHr Z EL s.vm h vm hh) → (Arv Z hh d kd .byte (Int32.ofNat cs.length) (bys (cs.take j)) (.int 0)) → Core p l e ({ frames := 0, cells := 0, slots := 0, locals := 0 } : Room) s m #[(.ref b), (.int (0 : Int32)), (.ref d), (.int (0 : Int32)), (.int (Int32.ofNat cs.length))] below meth c jdk_52_method_21_code 7 (some .int) "compress" "java/lang/StringUTF16" Z a0 EL true vm T hh 0 0 → Endw p e below T (mkF m 3 #[.val (.ref b), .val (.int (Int32.ofNat j)), .val (.ref d), .val (.int (Int32.ofNat j)), .val (.int (Int32.ofNat cs.length)), .val (.int (Int32.ofNat j)), l6] []) (Fin s Z EL true (fun r h' => ∃ j : Nat, r = some (.int (Int32.ofNat j)) ∧ Keep h h' [d] ∧ ((j = cs.length ∧ Arv Z h' d kd .byte (Int32.ofNat cs.length) (bys cs) (.int 0) ∧ ∀ c ∈ cs, ¬ (255 : Int32) < c) ∨ (j < cs.length ∧ (255 : Int32) < cs.getD j 0))) (({ frames := 0, cells := 0, slots := 0, locals := 0 } : Room)).cells (({ frames := 0, cells := 0, slots := 0, locals := 0 } : Room)).slots) := by
    intro tt
    induction tt with
    | zero =>
      intro j l6 vm T hh hj hl6 hs K A D1 C
      have ej : cs.take j = cs := by rw [show j = cs.length by omega]; exact List.take_length
      rw [ej] at D1 hs
      refine Endw.st (T' := T) (g' := (mkF m 46 #[.val (.ref b), .val (.int (Int32.ofNat j)), .val (.ref d), .val (.int (Int32.ofNat j)), .val (.int (Int32.ofNat cs.length)), .val (.int (Int32.ofNat j)), l6] [(.int (Int32.ofNat cs.length))])) (fun tt_ kk_ => XS.iload C.here C.hx rfl (C.dec d4_3) rfl (XS.iload C.here C.hx rfl (C.dec d4_5) rfl (XS.icmpYes C.here C.hx rfl (pc0 := 7) rfl (C.dec d4_7) rfl (XT.ii_ge_t (fun q => absurd ((own_lt (by omega) (by omega)).mp q) (by omega))) (by decide) rfl (XS.iload C.here C.hx rfl (C.dec d4_44) rfl kk_)))) ?_
      exact C.retI (t := .int) rfl (by simp) rfl d4_46 (by decide) (by decide) ⟨cs.length, rfl, (Keep.trans (Keep.refl h [d]) K (allS (Or.inl (by simp)) all0)), Or.inl ⟨rfl, D1, hs⟩⟩
    | succ tt ih =>
      intro j l6 vm T hh hj hl6 hs K A D1 C
      rcases hl6 with rfl | ⟨u6, rfl⟩
      · show Endw p e below T (mkF m 3 #[.val (.ref b), .val (.int (Int32.ofNat j)), .val (.ref d), .val (.int (Int32.ofNat j)), .val (.int (Int32.ofNat cs.length)), .val (.int (Int32.ofNat j)), .unset] []) _
        refine Endw.st (T' := T) (g' := (mkF m 12 #[.val (.ref b), .val (.int (Int32.ofNat j)), .val (.ref d), .val (.int (Int32.ofNat j)), .val (.int (Int32.ofNat cs.length)), .val (.int (Int32.ofNat j)), .unset] [(.int (Int32.ofNat j)), (.ref b)])) (fun tt_ kk_ => XS.iload C.here C.hx rfl (C.dec d4_3) rfl (XS.iload C.here C.hx rfl (C.dec d4_5) rfl (XS.icmpNo C.here C.hx rfl (C.dec d4_7) rfl (XT.ii_ge_f ((own_lt (by omega) (by omega)).mpr (by omega))) (XS.aloadN C.here C.hx rfl (C.dec d4_10) rfl rfl (XS.iloadN C.here C.hx rfl (C.dec d4_11) rfl kk_))))) ?_
        have f1 := (V.keep K (ninS hbd nin0))
        refine C.caloadN (j := j) f1 (by omega) (by omega) (v := (.int (cs.getD j 0))) (own_mapD cs j) d4_12 (pc' := 13) rfl ?_
        show Endw p e below T (mkF m 13 #[.val (.ref b), .val (.int (Int32.ofNat j)), .val (.ref d), .val (.int (Int32.ofNat j)), .val (.int (Int32.ofNat cs.length)), .val (.int (Int32.ofNat j)), .unset] [(.int (cs.getD j 0))]) _
        refine Endw.st (T' := T) (g' := (mkF m 20 #[.val (.ref b), .val (.int (Int32.ofNat j)), .val (.ref d), .val (.int (Int32.ofNat j)), .val (.int (Int32.ofNat cs.length)), .val (.int (Int32.ofNat j)), .val (.int (cs.getD j 0))] [(.int (255 : Int32)), (.int (cs.getD j 0))])) (fun tt_ kk_ => XS.istore C.here C.hx rfl (C.dec d4_13) rfl (l' := #[.val (.ref b), .val (.int (Int32.ofNat j)), .val (.ref d), .val (.int (Int32.ofNat j)), .val (.int (Int32.ofNat cs.length)), .val (.int (Int32.ofNat j)), .val (.int (cs.getD j 0))]) rfl (XS.iload C.here C.hx rfl (C.dec d4_15) rfl (XS.sipush C.here C.hx rfl (C.dec d4_17) kk_))) ?_
        by_cases c2 : (255 : Int32) < (cs.getD j 0)
        · refine Endw.st (T' := T) (g' := (mkF m 25 #[.val (.ref b), .val (.int (Int32.ofNat j)), .val (.ref d), .val (.int (Int32.ofNat j)), .val (.int (Int32.ofNat cs.length)), .val (.int (Int32.ofNat j)), .val (.int (cs.getD j 0))] [(.int (Int32.ofNat j))])) (fun tt_ kk_ => XS.icmpNo C.here C.hx rfl (C.dec d4_20) rfl (XT.ii_le_f c2) (XS.iload C.here C.hx rfl (C.dec d4_23) rfl kk_)) ?_
          exact C.retI (t := .int) rfl (by simp) rfl d4_25 (by decide) (by decide) ⟨j, rfl, (Keep.trans (Keep.refl h [d]) K (allS (Or.inl (by simp)) all0)), Or.inr ⟨by omega, c2⟩⟩
        · refine Endw.st (T' := T) (g' := (mkF m 31 #[.val (.ref b), .val (.int (Int32.ofNat j)), .val (.ref d), .val (.int (Int32.ofNat j)), .val (.int (Int32.ofNat cs.length)), .val (.int (Int32.ofNat j)), .val (.int (cs.getD j 0))] [(.int ((cs.getD j 0).toInt8.toInt32)), (.int (Int32.ofNat j)), (.ref d)])) (fun tt_ kk_ => XS.icmpYes C.here C.hx rfl (pc0 := 20) rfl (C.dec d4_20) rfl (XT.ii_le_t c2) (by decide) rfl (XS.aloadN C.here C.hx rfl (C.dec d4_26) rfl rfl (XS.iloadN C.here C.hx rfl (C.dec d4_27) rfl (XS.iload C.here C.hx rfl (C.dec d4_28) rfl (XS.i2b C.here C.hx rfl (C.dec d4_30) rfl kk_))))) ?_
          have f4 := (A.safe D.lt (S0 d (by simp)))
          refine C.bastoreEnd (i := j) (vs := (bys (cs.take j))) (x' := ((cs.getD j 0).toInt8.toInt32)) D1 (by rw [bys_len, List.length_take]; omega) (by omega) (by omega) own_nar_byte zd f4 d4_31 (pc' := 32) rfl ?_
          intro T3 h3 C3 K3 A3 V3
          show Endw p e below T3 (mkF m 32 #[.val (.ref b), .val (.int (Int32.ofNat j)), .val (.ref d), .val (.int (Int32.ofNat j)), .val (.int (Int32.ofNat cs.length)), .val (.int (Int32.ofNat j)), .val (.int (cs.getD j 0))] []) _
          refine Endw.st (T' := T3) (g' := (mkF m 35 #[.val (.ref b), .val (.int ((Int32.ofNat j) + (1 : Int32))), .val (.ref d), .val (.int (Int32.ofNat j)), .val (.int (Int32.ofNat cs.length)), .val (.int (Int32.ofNat j)), .val (.int (cs.getD j 0))] [])) (fun tt_ kk_ => XS.iinc C3.here C3.hx rfl (C3.dec d4_32) rfl (l' := #[.val (.ref b), .val (.int ((Int32.ofNat j) + (1 : Int32))), .val (.ref d), .val (.int (Int32.ofNat j)), .val (.int (Int32.ofNat cs.length)), .val (.int (Int32.ofNat j)), .val (.int (cs.getD j 0))]) rfl kk_) ?_
          rw [show ((Int32.ofNat j) + (1 : Int32)) = (Int32.ofNat (j + 1)) from own_inc _]
          refine Endw.st (T' := T3) (g' := (mkF m 38 #[.val (.ref b), .val (.int (Int32.ofNat (j + 1))), .val (.ref d), .val (.int ((Int32.ofNat j) + (1 : Int32))), .val (.int (Int32.ofNat cs.length)), .val (.int (Int32.ofNat j)), .val (.int (cs.getD j 0))] [])) (fun tt_ kk_ => XS.iinc C3.here C3.hx rfl (C3.dec d4_35) rfl (l' := #[.val (.ref b), .val (.int (Int32.ofNat (j + 1))), .val (.ref d), .val (.int ((Int32.ofNat j) + (1 : Int32))), .val (.int (Int32.ofNat cs.length)), .val (.int (Int32.ofNat j)), .val (.int (cs.getD j 0))]) rfl kk_) ?_
          rw [show ((Int32.ofNat j) + (1 : Int32)) = (Int32.ofNat (j + 1)) from own_inc _]
          refine Endw.st (T' := T3) (g' := (mkF m 41 #[.val (.ref b), .val (.int (Int32.ofNat (j + 1))), .val (.ref d), .val (.int (Int32.ofNat (j + 1))), .val (.int (Int32.ofNat cs.length)), .val (.int ((Int32.ofNat j) + (1 : Int32))), .val (.int (cs.getD j 0))] [])) (fun tt_ kk_ => XS.iinc C3.here C3.hx rfl (C3.dec d4_38) rfl (l' := #[.val (.ref b), .val (.int (Int32.ofNat (j + 1))), .val (.ref d), .val (.int (Int32.ofNat (j + 1))), .val (.int (Int32.ofNat cs.length)), .val (.int ((Int32.ofNat j) + (1 : Int32))), .val (.int (cs.getD j 0))]) rfl kk_) ?_
          rw [show ((Int32.ofNat j) + (1 : Int32)) = (Int32.ofNat (j + 1)) from own_inc _]
          refine Endw.st (T' := T3) (g' := (mkF m 3 #[.val (.ref b), .val (.int (Int32.ofNat (j + 1))), .val (.ref d), .val (.int (Int32.ofNat (j + 1))), .val (.int (Int32.ofNat cs.length)), .val (.int (Int32.ofNat (j + 1))), .val (.int (cs.getD j 0))] [])) (fun tt_ kk_ => XS.goto C3.here C3.hx rfl (pc0 := 41) rfl (C3.dec d4_41) (by decide) rfl kk_) ?_
          exact ih (j + 1) (.val (.int (cs.getD j 0))) vm T3 h3 (by omega) (Or.inr ⟨_, rfl⟩) (own_takeAll (by omega) hs c2) (Keep.trans (Keep.trans (Keep.refl h [d]) K (allS (Or.inl (by simp)) all0)) K3 (allS (Or.inl (by simp)) all0)) (CHr.trans A A3) (by rw [own_take1 cs (by omega), own_bys1]; exact V3) C3
      · show Endw p e below T (mkF m 3 #[.val (.ref b), .val (.int (Int32.ofNat j)), .val (.ref d), .val (.int (Int32.ofNat j)), .val (.int (Int32.ofNat cs.length)), .val (.int (Int32.ofNat j)), .val (.int u6)] []) _
        refine Endw.st (T' := T) (g' := (mkF m 12 #[.val (.ref b), .val (.int (Int32.ofNat j)), .val (.ref d), .val (.int (Int32.ofNat j)), .val (.int (Int32.ofNat cs.length)), .val (.int (Int32.ofNat j)), .val (.int u6)] [(.int (Int32.ofNat j)), (.ref b)])) (fun tt_ kk_ => XS.iload C.here C.hx rfl (C.dec d4_3) rfl (XS.iload C.here C.hx rfl (C.dec d4_5) rfl (XS.icmpNo C.here C.hx rfl (C.dec d4_7) rfl (XT.ii_ge_f ((own_lt (by omega) (by omega)).mpr (by omega))) (XS.aloadN C.here C.hx rfl (C.dec d4_10) rfl rfl (XS.iloadN C.here C.hx rfl (C.dec d4_11) rfl kk_))))) ?_
        have f5 := (V.keep K (ninS hbd nin0))
        refine C.caloadN (j := j) f5 (by omega) (by omega) (v := (.int (cs.getD j 0))) (own_mapD cs j) d4_12 (pc' := 13) rfl ?_
        show Endw p e below T (mkF m 13 #[.val (.ref b), .val (.int (Int32.ofNat j)), .val (.ref d), .val (.int (Int32.ofNat j)), .val (.int (Int32.ofNat cs.length)), .val (.int (Int32.ofNat j)), .val (.int u6)] [(.int (cs.getD j 0))]) _
        refine Endw.st (T' := T) (g' := (mkF m 20 #[.val (.ref b), .val (.int (Int32.ofNat j)), .val (.ref d), .val (.int (Int32.ofNat j)), .val (.int (Int32.ofNat cs.length)), .val (.int (Int32.ofNat j)), .val (.int (cs.getD j 0))] [(.int (255 : Int32)), (.int (cs.getD j 0))])) (fun tt_ kk_ => XS.istore C.here C.hx rfl (C.dec d4_13) rfl (l' := #[.val (.ref b), .val (.int (Int32.ofNat j)), .val (.ref d), .val (.int (Int32.ofNat j)), .val (.int (Int32.ofNat cs.length)), .val (.int (Int32.ofNat j)), .val (.int (cs.getD j 0))]) rfl (XS.iload C.here C.hx rfl (C.dec d4_15) rfl (XS.sipush C.here C.hx rfl (C.dec d4_17) kk_))) ?_
        by_cases c6 : (255 : Int32) < (cs.getD j 0)
        · refine Endw.st (T' := T) (g' := (mkF m 25 #[.val (.ref b), .val (.int (Int32.ofNat j)), .val (.ref d), .val (.int (Int32.ofNat j)), .val (.int (Int32.ofNat cs.length)), .val (.int (Int32.ofNat j)), .val (.int (cs.getD j 0))] [(.int (Int32.ofNat j))])) (fun tt_ kk_ => XS.icmpNo C.here C.hx rfl (C.dec d4_20) rfl (XT.ii_le_f c6) (XS.iload C.here C.hx rfl (C.dec d4_23) rfl kk_)) ?_
          exact C.retI (t := .int) rfl (by simp) rfl d4_25 (by decide) (by decide) ⟨j, rfl, (Keep.trans (Keep.refl h [d]) K (allS (Or.inl (by simp)) all0)), Or.inr ⟨by omega, c6⟩⟩
        · refine Endw.st (T' := T) (g' := (mkF m 31 #[.val (.ref b), .val (.int (Int32.ofNat j)), .val (.ref d), .val (.int (Int32.ofNat j)), .val (.int (Int32.ofNat cs.length)), .val (.int (Int32.ofNat j)), .val (.int (cs.getD j 0))] [(.int ((cs.getD j 0).toInt8.toInt32)), (.int (Int32.ofNat j)), (.ref d)])) (fun tt_ kk_ => XS.icmpYes C.here C.hx rfl (pc0 := 20) rfl (C.dec d4_20) rfl (XT.ii_le_t c6) (by decide) rfl (XS.aloadN C.here C.hx rfl (C.dec d4_26) rfl rfl (XS.iloadN C.here C.hx rfl (C.dec d4_27) rfl (XS.iload C.here C.hx rfl (C.dec d4_28) rfl (XS.i2b C.here C.hx rfl (C.dec d4_30) rfl kk_))))) ?_
          have f8 := (A.safe D.lt (S0 d (by simp)))
          refine C.bastoreEnd (i := j) (vs := (bys (cs.take j))) (x' := ((cs.getD j 0).toInt8.toInt32)) D1 (by rw [bys_len, List.length_take]; omega) (by omega) (by omega) own_nar_byte zd f8 d4_31 (pc' := 32) rfl ?_
          intro T7 h7 C7 K7 A7 V7
          show Endw p e below T7 (mkF m 32 #[.val (.ref b), .val (.int (Int32.ofNat j)), .val (.ref d), .val (.int (Int32.ofNat j)), .val (.int (Int32.ofNat cs.length)), .val (.int (Int32.ofNat j)), .val (.int (cs.getD j 0))] []) _
          refine Endw.st (T' := T7) (g' := (mkF m 35 #[.val (.ref b), .val (.int ((Int32.ofNat j) + (1 : Int32))), .val (.ref d), .val (.int (Int32.ofNat j)), .val (.int (Int32.ofNat cs.length)), .val (.int (Int32.ofNat j)), .val (.int (cs.getD j 0))] [])) (fun tt_ kk_ => XS.iinc C7.here C7.hx rfl (C7.dec d4_32) rfl (l' := #[.val (.ref b), .val (.int ((Int32.ofNat j) + (1 : Int32))), .val (.ref d), .val (.int (Int32.ofNat j)), .val (.int (Int32.ofNat cs.length)), .val (.int (Int32.ofNat j)), .val (.int (cs.getD j 0))]) rfl kk_) ?_
          rw [show ((Int32.ofNat j) + (1 : Int32)) = (Int32.ofNat (j + 1)) from own_inc _]
          refine Endw.st (T' := T7) (g' := (mkF m 38 #[.val (.ref b), .val (.int (Int32.ofNat (j + 1))), .val (.ref d), .val (.int ((Int32.ofNat j) + (1 : Int32))), .val (.int (Int32.ofNat cs.length)), .val (.int (Int32.ofNat j)), .val (.int (cs.getD j 0))] [])) (fun tt_ kk_ => XS.iinc C7.here C7.hx rfl (C7.dec d4_35) rfl (l' := #[.val (.ref b), .val (.int (Int32.ofNat (j + 1))), .val (.ref d), .val (.int ((Int32.ofNat j) + (1 : Int32))), .val (.int (Int32.ofNat cs.length)), .val (.int (Int32.ofNat j)), .val (.int (cs.getD j 0))]) rfl kk_) ?_
          rw [show ((Int32.ofNat j) + (1 : Int32)) = (Int32.ofNat (j + 1)) from own_inc _]
          refine Endw.st (T' := T7) (g' := (mkF m 41 #[.val (.ref b), .val (.int (Int32.ofNat (j + 1))), .val (.ref d), .val (.int (Int32.ofNat (j + 1))), .val (.int (Int32.ofNat cs.length)), .val (.int ((Int32.ofNat j) + (1 : Int32))), .val (.int (cs.getD j 0))] [])) (fun tt_ kk_ => XS.iinc C7.here C7.hx rfl (C7.dec d4_38) rfl (l' := #[.val (.ref b), .val (.int (Int32.ofNat (j + 1))), .val (.ref d), .val (.int (Int32.ofNat (j + 1))), .val (.int (Int32.ofNat cs.length)), .val (.int ((Int32.ofNat j) + (1 : Int32))), .val (.int (cs.getD j 0))]) rfl kk_) ?_
          rw [show ((Int32.ofNat j) + (1 : Int32)) = (Int32.ofNat (j + 1)) from own_inc _]
          refine Endw.st (T' := T7) (g' := (mkF m 3 #[.val (.ref b), .val (.int (Int32.ofNat (j + 1))), .val (.ref d), .val (.int (Int32.ofNat (j + 1))), .val (.int (Int32.ofNat cs.length)), .val (.int (Int32.ofNat (j + 1))), .val (.int (cs.getD j 0))] [])) (fun tt_ kk_ => XS.goto C7.here C7.hx rfl (pc0 := 41) rfl (C7.dec d4_41) (by decide) rfl kk_) ?_
          exact ih (j + 1) (.val (.int (cs.getD j 0))) vm T7 h7 (by omega) (Or.inr ⟨_, rfl⟩) (own_takeAll (by omega) hs c6) (Keep.trans (Keep.trans (Keep.refl h [d]) K (allS (Or.inl (by simp)) all0)) K7 (allS (Or.inl (by simp)) all0)) (CHr.trans A A7) (by rw [own_take1 cs (by omega), own_bys1]; exact V7) C7
  refine Endw.st (T' := T0) (g' := (mkF m 3 #[.val (.ref b), .val (.int (0 : Int32)), .val (.ref d), .val (.int (0 : Int32)), .val (.int (Int32.ofNat cs.length)), .val (.int (0 : Int32)), .unset] [])) (fun tt_ kk_ => XS.iconst C0.here C0.hx rfl (C0.dec d4_0) (XS.istore C0.here C0.hx rfl (C0.dec d4_1) rfl (l' := #[.val (.ref b), .val (.int (0 : Int32)), .val (.ref d), .val (.int (0 : Int32)), .val (.int (Int32.ofNat cs.length)), .val (.int (0 : Int32)), .unset]) rfl kk_)) ?_
  exact J3 cs.length 0 .unset s.vm T0 h (Nat.zero_add _).symm (Or.inl rfl) (fun c q => by simp at q) (Keep.refl _ _) (CHr.refl C0.chv) D C0
set_option maxRecDepth 65536 in
set_option maxHeartbeats 40000000 in
theorem rm_toBytes (l : Launch) (Z : State) (a0 : Array Value) (EL : List (String × Nat)) (G : Glob Z a0 EL) (b : Addr) (kb : ClassId) (cs : List Int32) (h : Heap) (O : Ext Z.heap h) (V : Arv Z h b kb .char (Int32.ofNat cs.length) (own_vals cs) (.int 0)) (h8 : cs.length ≤ 8) :
    Met l Z EL true (⟨"java/lang/StringUTF16", "toBytes", "([CII)[B"⟩ : MethodName) jdk_52_method_14_code 5 (some (.array .byte)) [] ({ frames := 2, cells := 1, slots := 16, locals := 24 } : Room) #[(.ref b), (.int (0 : Int32)), (.int (Int32.ofNat cs.length))] h [] (fun r h' => ∃ (x : Addr) (kx : ClassId), r = some (.ref x) ∧ Keep h h' [] ∧ h.size ≤ x ∧ Z.heap.size ≤ x ∧ Arv Z h' x kx .byte (Int32.ofNat (2 * cs.length)) (own_wide cs) (.int 0)) := by
  have hw := G.hw
  obtain ⟨zc, Sc, hzc⟩ := G.cs
  obtain ⟨vf, Sf, hvf⟩ := G.fm
  obtain Sa := G.u1
  obtain Sh := G.u2
  obtain Sl := G.u3
  refine Met.of (plainFor_of_name pn_675554463136_5) G.ew O ?_
  intro p e s m below meth c T0 C0 S0
  refine Endw.eq (g' := mkF m 0 #[.val (.ref b), .val (.int (0 : Int32)), .val (.int (Int32.ofNat cs.length)), .unset, .unset] []) (by first | rfl | (simp [entryFrame, mkF, argsToLocals, own_cI, own_cR, own_cN, own_cJ, own_cD, maxLocals]; done)) ?_
  have J8 : ∀ (tt : Nat) (j : Nat) (x : Addr) (kx : ClassId) (vm : Vm) (T : State) (hh : Heap), (cs.length = j + tt) → (h.size ≤ x) → (Z.heap.size ≤ x) → (Keep h hh []) → (CHr Z EL s.vm h vm hh) → (Safe Z EL vm hh x) → (Arv Z hh x kx .byte (Int32.ofNat (2 * cs.length)) (own_vals (wideI (cs.take j))) (.int 0)) → Core p l e ({ frames := 2, cells := 1, slots := 16, locals := 24 } : Room) s m #[(.ref b), (.int (0 : Int32)), (.int (Int32.ofNat cs.length))] below meth c jdk_52_method_14_code 5 (some (.array .byte)) "toBytes" "java/lang/StringUTF16" Z a0 EL true vm T hh 1 16 → Endw p e below T (mkF m 8 #[.val (.ref b), .val (.int (Int32.ofNat j)), .val (.int (Int32.ofNat cs.length)), .val (.ref x), .val (.int (Int32.ofNat j))] []) (Fin s Z EL true (fun r h' => ∃ (x : Addr) (kx : ClassId), r = some (.ref x) ∧ Keep h h' [] ∧ h.size ≤ x ∧ Z.heap.size ≤ x ∧ Arv Z h' x kx .byte (Int32.ofNat (2 * cs.length)) (own_wide cs) (.int 0)) (({ frames := 2, cells := 1, slots := 16, locals := 24 } : Room)).cells (({ frames := 2, cells := 1, slots := 16, locals := 24 } : Room)).slots) := by
    intro tt
    induction tt with
    | zero =>
      intro j x kx vm T hh hj ge zx K A Sx D1 C
      have ej : cs.take j = cs := by rw [show j = cs.length by omega]; exact List.take_length
      rw [ej] at D1
      refine Endw.st (T' := T) (g' := (mkF m 33 #[.val (.ref b), .val (.int (Int32.ofNat j)), .val (.int (Int32.ofNat cs.length)), .val (.ref x), .val (.int (Int32.ofNat j))] [(.ref x)])) (fun tt_ kk_ => XS.iload C.here C.hx rfl (C.dec d5_8) rfl (XS.iloadN C.here C.hx rfl (C.dec d5_10) rfl (XS.icmpYes C.here C.hx rfl (pc0 := 11) rfl (C.dec d5_11) rfl (XT.ii_ge_t (fun q => absurd ((own_lt (by omega) (by omega)).mp q) (by omega))) (by decide) rfl (XS.aloadN C.here C.hx rfl (C.dec d5_32) rfl rfl kk_)))) ?_
      exact C.retA (t := (.array .byte)) rfl rfl rfl rfl d5_33 (by decide) (by decide) ⟨x, kx, rfl, (Keep.trans (Keep.refl h []) K all0), ge, zx, D1⟩
    | succ tt ih =>
      intro j x kx vm T hh hj ge zx K A Sx D1 C
      refine Endw.st (T' := T) (g' := (mkF m 19 #[.val (.ref b), .val (.int (Int32.ofNat j)), .val (.int (Int32.ofNat cs.length)), .val (.ref x), .val (.int (Int32.ofNat j))] [(.int (Int32.ofNat j)), (.ref b), (.int (Int32.ofNat j)), (.ref x)])) (fun tt_ kk_ => XS.iload C.here C.hx rfl (C.dec d5_8) rfl (XS.iloadN C.here C.hx rfl (C.dec d5_10) rfl (XS.icmpNo C.here C.hx rfl (C.dec d5_11) rfl (XT.ii_ge_f ((own_lt (by omega) (by omega)).mpr (by omega))) (XS.aloadN C.here C.hx rfl (C.dec d5_14) rfl rfl (XS.iload C.here C.hx rfl (C.dec d5_15) rfl (XS.aloadN C.here C.hx rfl (C.dec d5_17) rfl rfl (XS.iloadN C.here C.hx rfl (C.dec d5_18) rfl kk_))))))) ?_
      have f1 := (V.keep K nin0)
      refine C.caloadN (j := j) f1 (by omega) (by omega) (v := (.int (cs.getD j 0))) (own_mapD cs j) d5_19 (pc' := 20) rfl ?_
      show Endw p e below T (mkF m 20 #[.val (.ref b), .val (.int (Int32.ofNat j)), .val (.int (Int32.ofNat cs.length)), .val (.ref x), .val (.int (Int32.ofNat j))] [(.int (cs.getD j 0)), (.int (Int32.ofNat j)), (.ref x)]) _
      refine C.static (y := (⟨"java/lang/StringUTF16", "putChar", "([BII)V"⟩ : MethodName)) (W := 0) (argsL := [(.ref x), (.int (Int32.ofNat j)), (.int (cs.getD j 0))]) (rest := []) (W65 hw) (W66 hw) (W67 hw) (W50 hw) (by decide) (rm_put l Z a0 EL G x kx (2 * cs.length) j (cs.getD j 0) (wideI (cs.take j)) hh C.old D1 (by rw [wideI_len, List.length_take]; omega) (by omega) (by omega) zx) (fun _ => rfl) rfl (allS ⟨D1.lt, Sx⟩ all0) (by decide) (by decide) (by decide) (by decide) (lenOf pd_285b4249492956 rfl) rfl (Nat.le_of_ble_eq_true rfl) rfl d5_20 (pc' := 23) rfl ?_
      intro vm2 T2 h2 v2 C2 A2 M2 q2
      obtain ⟨rfl, K2, V2⟩ := q2
      show Endw p e below T2 (mkF m 23 #[.val (.ref b), .val (.int (Int32.ofNat j)), .val (.int (Int32.ofNat cs.length)), .val (.ref x), .val (.int (Int32.ofNat j))] []) _
      refine Endw.st (T' := T2) (g' := (mkF m 26 #[.val (.ref b), .val (.int ((Int32.ofNat j) + (1 : Int32))), .val (.int (Int32.ofNat cs.length)), .val (.ref x), .val (.int (Int32.ofNat j))] [])) (fun tt_ kk_ => XS.iinc C2.here C2.hx rfl (C2.dec d5_23) rfl (l' := #[.val (.ref b), .val (.int ((Int32.ofNat j) + (1 : Int32))), .val (.int (Int32.ofNat cs.length)), .val (.ref x), .val (.int (Int32.ofNat j))]) rfl kk_) ?_
      rw [show ((Int32.ofNat j) + (1 : Int32)) = (Int32.ofNat (j + 1)) from own_inc _]
      refine Endw.st (T' := T2) (g' := (mkF m 29 #[.val (.ref b), .val (.int (Int32.ofNat (j + 1))), .val (.int (Int32.ofNat cs.length)), .val (.ref x), .val (.int ((Int32.ofNat j) + (1 : Int32)))] [])) (fun tt_ kk_ => XS.iinc C2.here C2.hx rfl (C2.dec d5_26) rfl (l' := #[.val (.ref b), .val (.int (Int32.ofNat (j + 1))), .val (.int (Int32.ofNat cs.length)), .val (.ref x), .val (.int ((Int32.ofNat j) + (1 : Int32)))]) rfl kk_) ?_
      rw [show ((Int32.ofNat j) + (1 : Int32)) = (Int32.ofNat (j + 1)) from own_inc _]
      refine Endw.st (T' := T2) (g' := (mkF m 8 #[.val (.ref b), .val (.int (Int32.ofNat (j + 1))), .val (.int (Int32.ofNat cs.length)), .val (.ref x), .val (.int (Int32.ofNat (j + 1)))] [])) (fun tt_ kk_ => XS.goto C2.here C2.hx rfl (pc0 := 29) rfl (C2.dec d5_29) (by decide) rfl kk_) ?_
      have f3 := (A2.safe D1.lt Sx)
      exact ih (j + 1) x kx vm2 T2 h2 (by omega) ge zx (Keep.trans (Keep.trans (Keep.refl h []) K all0) K2 (allS (Or.inr ge) all0)) (CHr.trans A A2) f3 (by rw [own_take1 cs (by omega), wideI_app]; exact V2) C2
  refine Endw.st (T' := T0) (g' := (mkF m 1 #[.val (.ref b), .val (.int (0 : Int32)), .val (.int (Int32.ofNat cs.length)), .unset, .unset] [(.int (Int32.ofNat cs.length))])) (fun tt_ kk_ => XS.iloadN C0.here C0.hx rfl (C0.dec d5_0) rfl kk_) ?_
  refine C0.static (y := (⟨"java/lang/StringUTF16", "newBytesFor", "(I)[B"⟩ : MethodName)) (W := 0) (argsL := [(.int (Int32.ofNat cs.length))]) (rest := []) (W58 hw) (W59 hw) (W60 hw) (W50 hw) (by decide) (rm_nbf l Z a0 EL G cs.length h C0.old h8) (fun _ => rfl) rfl all0 (by decide) (by decide) (by decide) (by decide) (lenOf pd_2849295b42 rfl) rfl (Nat.le_of_ble_eq_true rfl) rfl d5_1 (pc' := 4) rfl ?_
  intro vm4 T4 h4 v4 C4 A4 M4 q4
  obtain ⟨x4, kx4, rfl, K4, ge4, zg4, V4⟩ := q4
  show Endw p e below T4 (mkF m 4 #[.val (.ref b), .val (.int (0 : Int32)), .val (.int (Int32.ofNat cs.length)), .unset, .unset] [(.ref x4)]) _
  refine Endw.st (T' := T4) (g' := (mkF m 8 #[.val (.ref b), .val (.int (0 : Int32)), .val (.int (Int32.ofNat cs.length)), .val (.ref x4), .val (.int (0 : Int32))] [])) (fun tt_ kk_ => XS.astoreN C4.here C4.hx rfl (C4.dec d5_4) rfl rfl (l' := #[.val (.ref b), .val (.int (0 : Int32)), .val (.int (Int32.ofNat cs.length)), .val (.ref x4), .unset]) rfl (XS.iconst C4.here C4.hx rfl (C4.dec d5_5) (XS.istore C4.here C4.hx rfl (C4.dec d5_6) rfl (l' := #[.val (.ref b), .val (.int (0 : Int32)), .val (.int (Int32.ofNat cs.length)), .val (.ref x4), .val (.int (0 : Int32))]) rfl kk_))) ?_
  exact J8 cs.length 0 x4 kx4 vm4 T4 h4 (Nat.zero_add _).symm ge4 zg4 (Keep.trans (Keep.refl h []) K4 all0) A4 (own_safe_new (M4 rfl) ge4) V4 C4
set_option maxRecDepth 65536 in
set_option maxHeartbeats 40000000 in
theorem rm_cmp3 (l : Launch) (Z : State) (a0 : Array Value) (EL : List (String × Nat)) (G : Glob Z a0 EL) (b : Addr) (kb : ClassId) (cs : List Int32) (h : Heap) (O : Ext Z.heap h) (V : Arv Z h b kb .char (Int32.ofNat cs.length) (own_vals cs) (.int 0)) (h8 : cs.length ≤ 8) (hc : ∀ c ∈ cs, C16 c) :
    Met l Z EL true (⟨"java/lang/StringUTF16", "compress", "([CII)[B"⟩ : MethodName) jdk_52_method_16_code 6 (some (.array .byte)) [] ({ frames := 3, cells := 2, slots := 24, locals := 40 } : Room) #[(.ref b), (.int (0 : Int32)), (.int (Int32.ofNat cs.length))] h [] (fun r h' => ∃ (x : Addr) (kx : ClassId), r = some (.ref x) ∧ Keep h h' [] ∧ h.size ≤ x ∧ Z.heap.size ≤ x ∧ ((Arv Z h' x kx .byte (Int32.ofNat cs.length) (bys cs) (.int 0) ∧ ∀ c ∈ cs, ¬ (255 : Int32) < c) ∨ Arv Z h' x kx .byte (Int32.ofNat (2 * cs.length)) (own_wide cs) (.int 0))) := by
  have hw := G.hw
  obtain ⟨zc, Sc, hzc⟩ := G.cs
  obtain ⟨vf, Sf, hvf⟩ := G.fm
  obtain Sa := G.u1
  obtain Sh := G.u2
  obtain Sl := G.u3
  refine Met.of (plainFor_of_name pn_675554463136_5) G.ew O ?_
  intro p e s m below meth c T0 C0 S0
  refine Endw.eq (g' := mkF m 0 #[.val (.ref b), .val (.int (0 : Int32)), .val (.int (Int32.ofNat cs.length)), .unset, .unset, .unset] []) (by first | rfl | (simp [entryFrame, mkF, argsToLocals, own_cI, own_cR, own_cN, own_cJ, own_cD, maxLocals]; done)) ?_
  refine Endw.st (T' := T0) (g' := (mkF m 1 #[.val (.ref b), .val (.int (0 : Int32)), .val (.int (Int32.ofNat cs.length)), .unset, .unset, .unset] [(.int (Int32.ofNat cs.length))])) (fun tt_ kk_ => XS.iloadN C0.here C0.hx rfl (C0.dec d6_0) rfl kk_) ?_
  refine C0.newA (aty := .byte) (z := (Int32.ofNat cs.length)) (cap := 8) (vs := []) (W23 hw) d6_1 (pc' := 3) rfl (own_nn (by omega)) (by rw [own_nc (by omega)]; omega) (by decide) (by decide) (by decide) rfl ?_
  intro T1 h1 a1 kA1 C1 K1 A1 ge1 zg1 V1 S1
  show Endw p e below T1 (mkF m 3 #[.val (.ref b), .val (.int (0 : Int32)), .val (.int (Int32.ofNat cs.length)), .unset, .unset, .unset] [(.ref a1)]) _
  refine Endw.st (T' := T1) (g' := (mkF m 9 #[.val (.ref b), .val (.int (0 : Int32)), .val (.int (Int32.ofNat cs.length)), .val (.ref a1), .unset, .unset] [(.int (Int32.ofNat cs.length)), (.int (0 : Int32)), (.ref a1), (.int (0 : Int32)), (.ref b)])) (fun tt_ kk_ => XS.astoreN C1.here C1.hx rfl (C1.dec d6_3) rfl rfl (l' := #[.val (.ref b), .val (.int (0 : Int32)), .val (.int (Int32.ofNat cs.length)), .val (.ref a1), .unset, .unset]) rfl (XS.aloadN C1.here C1.hx rfl (C1.dec d6_4) rfl rfl (XS.iloadN C1.here C1.hx rfl (C1.dec d6_5) rfl (XS.aloadN C1.here C1.hx rfl (C1.dec d6_6) rfl rfl (XS.iconst C1.here C1.hx rfl (C1.dec d6_7) (XS.iloadN C1.here C1.hx rfl (C1.dec d6_8) rfl kk_)))))) ?_
  have f2 := (V.keep K1 nin0)
  refine C1.static (y := (⟨"java/lang/StringUTF16", "compress", "([CI[BII)I"⟩ : MethodName)) (W := 0) (argsL := [(.ref b), (.int (0 : Int32)), (.ref a1), (.int (0 : Int32)), (.int (Int32.ofNat cs.length))]) (rest := []) (W52 hw) (W53 hw) (W54 hw) (W50 hw) (by decide) (rm_cmp5 l Z a0 EL G b a1 kb kA1 cs h1 C1.old f2 V1 h8 zg1 (Nat.ne_of_lt (Nat.lt_of_lt_of_le V.lt ge1))) (fun _ => rfl) rfl (allS ⟨V1.lt, S1⟩ all0) (by decide) (by decide) (by decide) (by decide) (lenOf pd_285b43495b4249492949 rfl) rfl (Nat.le_of_ble_eq_true rfl) rfl d6_9 (pc' := 12) rfl ?_
  intro vm3 T3 h3 v3 C3 A3 M3 q3
  obtain ⟨j, rfl, K3, q3⟩ := q3
  show Endw p e below T3 (mkF m 12 #[.val (.ref b), .val (.int (0 : Int32)), .val (.int (Int32.ofNat cs.length)), .val (.ref a1), .unset, .unset] [(.int (Int32.ofNat j))]) _
  rcases q3 with ⟨ej, V3, hs⟩ | ⟨lt, gt⟩
  · refine Endw.st (T' := T3) (g' := (mkF m 58 #[.val (.ref b), .val (.int (0 : Int32)), .val (.int (Int32.ofNat cs.length)), .val (.ref a1), .val (.int (Int32.ofNat j)), .unset] [(.ref a1)])) (fun tt_ kk_ => XS.istore C3.here C3.hx rfl (C3.dec d6_12) rfl (l' := #[.val (.ref b), .val (.int (0 : Int32)), .val (.int (Int32.ofNat cs.length)), .val (.ref a1), .val (.int (Int32.ofNat j)), .unset]) rfl (XS.iload C3.here C3.hx rfl (C3.dec d6_14) rfl (XS.iloadN C3.here C3.hx rfl (C3.dec d6_16) rfl (XS.icmpYes C3.here C3.hx rfl (pc0 := 17) rfl (C3.dec d6_17) rfl (XT.ii_eq_t (congrArg Int32.ofNat ej)) (by decide) rfl (XS.aloadN C3.here C3.hx rfl (C3.dec d6_57) rfl rfl kk_))))) ?_
    exact C3.retA (t := (.array .byte)) rfl rfl rfl rfl d6_58 (by decide) (by decide) ⟨a1, kA1, rfl, (Keep.trans (Keep.trans (Keep.refl h []) K1 all0) K3 (allS (Or.inr ge1) all0)), ge1, zg1, Or.inl ⟨V3, hs⟩⟩
  · refine Endw.st (T' := T3) (g' := (mkF m 23 #[.val (.ref b), .val (.int (0 : Int32)), .val (.int (Int32.ofNat cs.length)), .val (.ref a1), .val (.int (Int32.ofNat j)), .unset] [(.int (Int32.ofNat cs.length)), (.int (0 : Int32)), (.ref b)])) (fun tt_ kk_ => XS.istore C3.here C3.hx rfl (C3.dec d6_12) rfl (l' := #[.val (.ref b), .val (.int (0 : Int32)), .val (.int (Int32.ofNat cs.length)), .val (.ref a1), .val (.int (Int32.ofNat j)), .unset]) rfl (XS.iload C3.here C3.hx rfl (C3.dec d6_14) rfl (XS.iloadN C3.here C3.hx rfl (C3.dec d6_16) rfl (XS.icmpNo C3.here C3.hx rfl (C3.dec d6_17) rfl (XT.ii_eq_f (fun q => absurd ((own_ieq (by omega) (by omega)).mp q) (by omega))) (XS.aloadN C3.here C3.hx rfl (C3.dec d6_20) rfl rfl (XS.iloadN C3.here C3.hx rfl (C3.dec d6_21) rfl (XS.iloadN C3.here C3.hx rfl (C3.dec d6_22) rfl kk_))))))) ?_
    have f4 := (f2.keep K3 (ninS (Nat.ne_of_lt (Nat.lt_of_lt_of_le V.lt ge1)) nin0))
    refine C3.static (y := (⟨"java/lang/StringUTF16", "toBytes", "([CII)[B"⟩ : MethodName)) (W := 0) (argsL := [(.ref b), (.int (0 : Int32)), (.int (Int32.ofNat cs.length))]) (rest := []) (W55 hw) (W56 hw) (W57 hw) (W50 hw) (by decide) (rm_toBytes l Z a0 EL G b kb cs h3 C3.old f4 h8) (fun _ => rfl) rfl all0 (by decide) (by decide) (by decide) (by decide) (lenOf pd_285b434949295b42 rfl) rfl (Nat.le_of_ble_eq_true rfl) rfl d6_23 (pc' := 26) rfl ?_
    intro vm5 T5 h5 v5 C5 A5 M5 q5
    obtain ⟨x5, kx5, rfl, K5, ge5, zg5, V5⟩ := q5
    show Endw p e below T5 (mkF m 26 #[.val (.ref b), .val (.int (0 : Int32)), .val (.int (Int32.ofNat cs.length)), .val (.ref a1), .val (.int (Int32.ofNat j)), .unset] [(.ref x5)]) _
    refine Endw.st (T' := T5) (g' := (mkF m 32 #[.val (.ref b), .val (.int (0 : Int32)), .val (.int (Int32.ofNat cs.length)), .val (.ref a1), .val (.int (Int32.ofNat j)), .val (.ref x5)] [(.int (Int32.ofNat j)), (.ref x5)])) (fun tt_ kk_ => XS.astore C5.here C5.hx rfl (C5.dec d6_26) rfl rfl (l' := #[.val (.ref b), .val (.int (0 : Int32)), .val (.int (Int32.ofNat cs.length)), .val (.ref a1), .val (.int (Int32.ofNat j)), .val (.ref x5)]) rfl (XS.aload C5.here C5.hx rfl (C5.dec d6_28) rfl rfl (XS.iload C5.here C5.hx rfl (C5.dec d6_30) rfl kk_))) ?_
    refine C5.static (y := (⟨"java/lang/StringUTF16", "getChar", "([BI)C"⟩ : MethodName)) (W := 0) (argsL := [(.ref x5), (.int (Int32.ofNat j))]) (rest := []) (W71 hw) (W72 hw) (W73 hw) (W50 hw) (by decide) (rm_get l Z a0 EL G x5 kx5 cs j (cs.getD j 0) h5 C5.old V5 lt rfl (own_getAll lt hc) h8) (fun _ => rfl) rfl all0 (by decide) (by decide) (by decide) (by decide) (lenOf pd_285b42492943 rfl) rfl (Nat.le_of_ble_eq_true rfl) rfl d6_32 (pc' := 35) rfl ?_
    intro vm6 T6 h6 v6 C6 A6 M6 q6
    obtain ⟨rfl, rfl⟩ := q6
    show Endw p e below T6 (mkF m 35 #[.val (.ref b), .val (.int (0 : Int32)), .val (.int (Int32.ofNat cs.length)), .val (.ref a1), .val (.int (Int32.ofNat j)), .val (.ref x5)] [(.int (cs.getD j 0))]) _
    refine Endw.st (T' := T6) (g' := (mkF m 56 #[.val (.ref b), .val (.int (0 : Int32)), .val (.int (Int32.ofNat cs.length)), .val (.ref a1), .val (.int (Int32.ofNat j)), .val (.ref x5)] [(.ref x5)])) (fun tt_ kk_ => XS.sipush C6.here C6.hx rfl (C6.dec d6_35) (XS.icmpYes C6.here C6.hx rfl (pc0 := 38) rfl (C6.dec d6_38) rfl (XT.ii_gt_t gt) (by decide) rfl (XS.aload C6.here C6.hx rfl (C6.dec d6_54) rfl rfl kk_))) ?_
    exact C6.retA (t := (.array .byte)) rfl rfl rfl rfl d6_56 (by decide) (by decide) ⟨x5, kx5, rfl, (Keep.trans (Keep.trans (Keep.trans (Keep.refl h []) K1 all0) K3 (allS (Or.inr ge1) all0)) K5 all0), (Nat.le_trans (Nat.le_trans K1.1 K3.1) ge5), zg5, Or.inr V5⟩
set_option maxRecDepth 65536 in
set_option maxHeartbeats 40000000 in
theorem rm_cod0 (l : Launch) (Z : State) (a0 : Array Value) (EL : List (String × Nat)) (G : Glob Z a0 EL) (d : Addr) (kd : ClassId) (vs : List Value) (cs : List Int32) (h : Heap) (O : Ext Z.heap h) (D : Arv Z h d kd .byte (Int32.ofNat cs.length) vs (.int 0)) (h0 : 0 < cs.length) (h8 : cs.length ≤ 8) :
    Met l Z EL true (⟨"java/lang/StringUTF16", "coderFromArrayLen", "([BI)B"⟩ : MethodName) jdk_52_method_15_code 2 (some .byte) [] ({ frames := 0, cells := 0, slots := 0, locals := 0 } : Room) #[(.ref d), (.int (Int32.ofNat cs.length))] h [] (fun r h' => r = some (.int (0 : Int32)) ∧ h = h') := by
  have hw := G.hw
  obtain ⟨zc, Sc, hzc⟩ := G.cs
  obtain ⟨vf, Sf, hvf⟩ := G.fm
  obtain Sa := G.u1
  obtain Sh := G.u2
  obtain Sl := G.u3
  refine Met.of (plainFor_of_name pn_675554463136_5) G.ew O ?_
  intro p e s m below meth c T0 C0 S0
  refine Endw.eq (g' := mkF m 0 #[.val (.ref d), .val (.int (Int32.ofNat cs.length))] []) (by first | rfl | (simp [entryFrame, mkF, argsToLocals, own_cI, own_cR, own_cN, own_cJ, own_cD, maxLocals]; done)) ?_
  refine Endw.st (T' := T0) (g' := (mkF m 2 #[.val (.ref d), .val (.int (Int32.ofNat cs.length))] [(.ref d), (.int (Int32.ofNat cs.length))])) (fun tt_ kk_ => XS.iloadN C0.here C0.hx rfl (C0.dec d7_0) rfl (XS.aloadN C0.here C0.hx rfl (C0.dec d7_1) rfl rfl kk_)) ?_
  refine C0.len D d7_2 (pc' := 3) rfl ?_
  show Endw p e below T0 (mkF m 3 #[.val (.ref d), .val (.int (Int32.ofNat cs.length))] [(.int (Int32.ofNat cs.length)), (.int (Int32.ofNat cs.length))]) _
  refine Endw.st (T' := T0) (g' := (mkF m 8 #[.val (.ref d), .val (.int (Int32.ofNat cs.length))] [(.int (((((Int32.ofNat cs.length) - (Int32.ofNat cs.length)).toUInt32 >>> ((31 : Int32) &&& 31).toUInt32).toInt32).toInt8.toInt32))])) (fun tt_ kk_ => XS.isub C0.here C0.hx rfl (C0.dec d7_3) rfl (XS.bipush C0.here C0.hx rfl (C0.dec d7_4) (XS.iushr C0.here C0.hx rfl (C0.dec d7_6) rfl (XS.i2b C0.here C0.hx rfl (C0.dec d7_7) rfl kk_)))) ?_
  rw [show (((((Int32.ofNat cs.length) - (Int32.ofNat cs.length)).toUInt32 >>> ((31 : Int32) &&& 31).toUInt32).toInt32).toInt8.toInt32) = (0 : Int32) from own_cod0 _]
  exact C0.retI (t := .byte) rfl (by simp) rfl d7_8 (by decide) (by decide) ⟨rfl, rfl⟩
set_option maxRecDepth 65536 in
set_option maxHeartbeats 40000000 in
theorem rm_cod1 (l : Launch) (Z : State) (a0 : Array Value) (EL : List (String × Nat)) (G : Glob Z a0 EL) (d : Addr) (kd : ClassId) (vs : List Value) (cs : List Int32) (h : Heap) (O : Ext Z.heap h) (D : Arv Z h d kd .byte (Int32.ofNat (2 * cs.length)) vs (.int 0)) (h0 : 0 < cs.length) (h8 : cs.length ≤ 8) :
    Met l Z EL true (⟨"java/lang/StringUTF16", "coderFromArrayLen", "([BI)B"⟩ : MethodName) jdk_52_method_15_code 2 (some .byte) [] ({ frames := 0, cells := 0, slots := 0, locals := 0 } : Room) #[(.ref d), (.int (Int32.ofNat cs.length))] h [] (fun r h' => r = some (.int (1 : Int32)) ∧ h = h') := by
  have hw := G.hw
  obtain ⟨zc, Sc, hzc⟩ := G.cs
  obtain ⟨vf, Sf, hvf⟩ := G.fm
  obtain Sa := G.u1
  obtain Sh := G.u2
  obtain Sl := G.u3
  refine Met.of (plainFor_of_name pn_675554463136_5) G.ew O ?_
  intro p e s m below meth c T0 C0 S0
  refine Endw.eq (g' := mkF m 0 #[.val (.ref d), .val (.int (Int32.ofNat cs.length))] []) (by first | rfl | (simp [entryFrame, mkF, argsToLocals, own_cI, own_cR, own_cN, own_cJ, own_cD, maxLocals]; done)) ?_
  refine Endw.st (T' := T0) (g' := (mkF m 2 #[.val (.ref d), .val (.int (Int32.ofNat cs.length))] [(.ref d), (.int (Int32.ofNat cs.length))])) (fun tt_ kk_ => XS.iloadN C0.here C0.hx rfl (C0.dec d7_0) rfl (XS.aloadN C0.here C0.hx rfl (C0.dec d7_1) rfl rfl kk_)) ?_
  refine C0.len D d7_2 (pc' := 3) rfl ?_
  show Endw p e below T0 (mkF m 3 #[.val (.ref d), .val (.int (Int32.ofNat cs.length))] [(.int (Int32.ofNat (2 * cs.length))), (.int (Int32.ofNat cs.length))]) _
  refine Endw.st (T' := T0) (g' := (mkF m 8 #[.val (.ref d), .val (.int (Int32.ofNat cs.length))] [(.int (((((Int32.ofNat cs.length) - (Int32.ofNat (2 * cs.length))).toUInt32 >>> ((31 : Int32) &&& 31).toUInt32).toInt32).toInt8.toInt32))])) (fun tt_ kk_ => XS.isub C0.here C0.hx rfl (C0.dec d7_3) rfl (XS.bipush C0.here C0.hx rfl (C0.dec d7_4) (XS.iushr C0.here C0.hx rfl (C0.dec d7_6) rfl (XS.i2b C0.here C0.hx rfl (C0.dec d7_7) rfl kk_)))) ?_
  rw [show (((((Int32.ofNat cs.length) - (Int32.ofNat (2 * cs.length))).toUInt32 >>> ((31 : Int32) &&& 31).toUInt32).toInt32).toInt8.toInt32) = (1 : Int32) from own_cod1 h0 h8]
  exact C0.retI (t := .byte) rfl (by simp) rfl d7_8 (by decide) (by decide) ⟨rfl, rfl⟩
set_option maxRecDepth 65536 in
set_option maxHeartbeats 40000000 in
theorem rm_StrEmpty4 (l : Launch) (Z : State) (a0 : Array Value) (EL : List (String × Nat)) (G : Glob Z a0 EL) (a b : Addr) (kC : ClassId) (h : Heap) (O : Ext Z.heap h) (E0 : Exa Z h a "java/lang/String") (F0 : Fld Z h a "java/lang/String" "value" "[B" .null) (f0 : Fld Z h a "java/lang/String" "coder" "B" (.int (0 : Int32))) (V0 : Arv Z h b kC .char (0 : Int32) [] (.int 0)) (zg0 : Z.heap.size ≤ a) :
    Met l Z EL false (⟨"java/lang/String", "<init>", "([CIILjava/lang/Void;)V"⟩ : MethodName) jdk_42_method_149_code 6 none [] ({ frames := 1, cells := 4, slots := 8, locals := 12 } : Room) #[(.ref a), (.ref b), (.int (0 : Int32)), (.int (0 : Int32)), .null] h [a] (fun v h' => v = none ∧ Keep h h' [a] ∧ ∃ (t : Addr) (kb : ClassId), Str Z h' a t kb []) := by
  have hw := G.hw
  obtain ⟨zc, Sc, hzc⟩ := G.cs
  obtain ⟨vf, Sf, hvf⟩ := G.fm
  obtain Sa := G.u1
  obtain Sh := G.u2
  obtain Sl := G.u3
  refine Met.of (plainFor_of_name pn_537472696e67_3) G.ew O ?_
  intro p e s m below meth c T0 C0 S0
  refine Endw.eq (g' := mkF m 0 #[.val (.ref a), .val (.ref b), .val (.int (0 : Int32)), .val (.int (0 : Int32)), .val .null, .unset] []) (by first | rfl | (simp [entryFrame, mkF, argsToLocals, own_cI, own_cR, own_cN, own_cJ, own_cD, maxLocals]; done)) ?_
  refine Endw.st (T' := T0) (g' := (mkF m 1 #[.val (.ref a), .val (.ref b), .val (.int (0 : Int32)), .val (.int (0 : Int32)), .val .null, .unset] [(.ref a)])) (fun tt_ kk_ => XS.aloadN C0.here C0.hx rfl (C0.dec d8_0) rfl rfl kk_) ?_
  refine C0.initO (W19 hw) (W20 hw) (W21 hw) rfl d8_1 (pc' := 4) rfl (by decide) (W := 0) (Nat.le_of_ble_eq_true rfl) (by decide) ?_
  intro T1 C1
  show Endw p e below T1 (mkF m 4 #[.val (.ref a), .val (.ref b), .val (.int (0 : Int32)), .val (.int (0 : Int32)), .val .null, .unset] []) _
  refine Endw.st (T' := T1) (g' := (mkF m 9 #[.val (.ref a), .val (.ref b), .val (.int (0 : Int32)), .val (.int (0 : Int32)), .val .null, .unset] [(.ref a)])) (fun tt_ kk_ => XS.iloadN C1.here C1.hx rfl (C1.dec d8_4) rfl (XS.ifNo C1.here C1.hx rfl (C1.dec d8_5) rfl (XT.i0_ne_f (by decide)) (XS.aloadN C1.here C1.hx rfl (C1.dec d8_8) rfl rfl kk_))) ?_
  refine C1.ldcC (N := 0) (vs := (bys [])) (z := (0 : Int32)) (W22 hw) G.wS (by rw [G.el]; decide) ⟨by decide, by decide⟩ (by decide) (by decide) (by decide) (by decide) (by decide) (by decide) d8_9 (pc' := 11) rfl rfl ?_
  intro vm2 T2 h2 a2 b2 kA2 C2 K2 A2 E2 F2 f2 V2 r2
  have f3 := (A2.safe E0.lt (S0 a (by simp)))
  have Z2 : Str Z h2 a2 b2 kA2 [] := ⟨E2, F2, f2, V2, own_c0, by decide⟩
  show Endw p e below T2 (mkF m 11 #[.val (.ref a), .val (.ref b), .val (.int (0 : Int32)), .val (.int (0 : Int32)), .val .null, .unset] [(.ref a2), (.ref a)]) _
  refine C2.getF (W28 hw) f2 d8_11 (pc' := 14) rfl ?_
  intro T4 C4
  show Endw p e below T4 (mkF m 14 #[.val (.ref a), .val (.ref b), .val (.int (0 : Int32)), .val (.int (0 : Int32)), .val .null, .unset] [(.ref b2), (.ref a)]) _
  have f5 := (E0.keep K2)
  have f6 := (F0.keep K2 nin0)
  have f8 := (f0.keep K2 nin0)
  refine C4.putF (v := (.ref b2)) (W28 hw) f6 f5 (Or.inr ⟨(W24 hw), rfl, rfl⟩) (W9 hw) (ty := (.array .byte)) (by decide) rfl rfl zg0 f3 d8_14 (pc' := 17) rfl ?_
  intro T7 h7 C7 K7 A7 Wr7
  have f9 := f6.same Wr7
  have f10 := f8.other Wr7 (Or.inr (slot_ne (Or.inr (W25 hw)) (Or.inr (W24 hw)) (by decide) (t := .byte) (t' := (.array .byte)) (by decide) (by decide)))
  show Endw p e below T7 (mkF m 17 #[.val (.ref a), .val (.ref b), .val (.int (0 : Int32)), .val (.int (0 : Int32)), .val .null, .unset] []) _
  refine Endw.st (T' := T7) (g' := (mkF m 18 #[.val (.ref a), .val (.ref b), .val (.int (0 : Int32)), .val (.int (0 : Int32)), .val .null, .unset] [(.ref a)])) (fun tt_ kk_ => XS.aloadN C7.here C7.hx rfl (C7.dec d8_17) rfl rfl kk_) ?_
  refine C7.ldcC (N := 0) (vs := (bys [])) (z := (0 : Int32)) (W22 hw) G.wS (by rw [G.el]; decide) ⟨by decide, by decide⟩ (by decide) (by decide) (by decide) (by decide) (by decide) (by decide) d8_18 (pc' := 20) rfl rfl ?_
  intro vm11 T11 h11 a11 b11 kA11 C11 K11 A11 E11 F11 f11 V11 r11
  have f12 := (A11.safe (Nat.lt_of_lt_of_le E0.lt (Nat.le_trans K2.1 K7.1)) (A7.safe (Nat.lt_of_lt_of_le E0.lt K2.1) f3))
  have Z11 : Str Z h11 a11 b11 kA11 [] := ⟨E11, F11, f11, V11, own_c0, by decide⟩
  show Endw p e below T11 (mkF m 20 #[.val (.ref a), .val (.ref b), .val (.int (0 : Int32)), .val (.int (0 : Int32)), .val .null, .unset] [(.ref a11), (.ref a)]) _
  refine C11.getF (W29 hw) F11 d8_20 (pc' := 23) rfl ?_
  intro T13 C13
  show Endw p e below T13 (mkF m 23 #[.val (.ref a), .val (.ref b), .val (.int (0 : Int32)), .val (.int (0 : Int32)), .val .null, .unset] [(.int (0 : Int32)), (.ref a)]) _
  have f14 := ((f5.keep K7).keep K11)
  have f15 := (f10.keep K11 nin0)
  have f17 := (f9.keep K11 nin0)
  refine C13.putF (v := (.int (0 : Int32))) (W29 hw) f15 f14 (Or.inr ⟨(W25 hw), rfl, rfl⟩) (W9 hw) (ty := .byte) (by decide) rfl rfl zg0 f12 d8_23 (pc' := 26) rfl ?_
  intro T16 h16 C16 K16 A16 Wr16
  have f18 := f15.same Wr16
  have f19 := f17.other Wr16 (Or.inr (slot_ne (Or.inr (W24 hw)) (Or.inr (W25 hw)) (by decide) (t := (.array .byte)) (t' := .byte) (by decide) (by decide)))
  show Endw p e below T16 (mkF m 26 #[.val (.ref a), .val (.ref b), .val (.int (0 : Int32)), .val (.int (0 : Int32)), .val .null, .unset] []) _
  have f20 := (f14.keep K16)
  have f21 := (((V2.keep K7 (ninS (Ne.symm (r2 _ f3).2) nin0)).keep K11 nin0).keep K16 (ninS (Ne.symm (r2 _ f3).2) nin0))
  exact C16.retV d8_26 (by decide) (by decide) ⟨rfl, (Keep.trans (Keep.trans (Keep.trans (Keep.trans (Keep.refl h [a]) K2 all0) K7 (allS (Or.inl (by simp)) all0)) K11 all0) K16 (allS (Or.inl (by simp)) all0)), b2, kA2, f20, f18, f19, f21, own_c0, Nat.le_of_ble_eq_true rfl⟩
set_option maxRecDepth 65536 in
set_option maxHeartbeats 40000000 in
theorem rm_StrEmpty1 (l : Launch) (Z : State) (a0 : Array Value) (EL : List (String × Nat)) (G : Glob Z a0 EL) (a b : Addr) (kC : ClassId) (h : Heap) (O : Ext Z.heap h) (E0 : Exa Z h a "java/lang/String") (F0 : Fld Z h a "java/lang/String" "value" "[B" .null) (f0 : Fld Z h a "java/lang/String" "coder" "B" (.int (0 : Int32))) (V0 : Arv Z h b kC .char (0 : Int32) [] (.int 0)) (zg0 : Z.heap.size ≤ a) :
    Met l Z EL false (⟨"java/lang/String", "<init>", "([C)V"⟩ : MethodName) jdk_42_method_3_code 2 none [] ({ frames := 2, cells := 4, slots := 8, locals := 29 } : Room) #[(.ref a), (.ref b)] h [a] (fun v h' => v = none ∧ Keep h h' [a] ∧ ∃ (t : Addr) (kb : ClassId), Str Z h' a t kb []) := by
  have hw := G.hw
  obtain ⟨zc, Sc, hzc⟩ := G.cs
  obtain ⟨vf, Sf, hvf⟩ := G.fm
  obtain Sa := G.u1
  obtain Sh := G.u2
  obtain Sl := G.u3
  refine Met.of (plainFor_of_name pn_537472696e67_3) G.ew O ?_
  intro p e s m below meth c T0 C0 S0
  refine Endw.eq (g' := mkF m 0 #[.val (.ref a), .val (.ref b)] []) (by first | rfl | (simp [entryFrame, mkF, argsToLocals, own_cI, own_cR, own_cN, own_cJ, own_cD, maxLocals]; done)) ?_
  refine Endw.st (T' := T0) (g' := (mkF m 4 #[.val (.ref a), .val (.ref b)] [(.ref b), (.int (0 : Int32)), (.ref b), (.ref a)])) (fun tt_ kk_ => XS.aloadN C0.here C0.hx rfl (C0.dec d9_0) rfl rfl (XS.aloadN C0.here C0.hx rfl (C0.dec d9_1) rfl rfl (XS.iconst C0.here C0.hx rfl (C0.dec d9_2) (XS.aloadN C0.here C0.hx rfl (C0.dec d9_3) rfl rfl kk_)))) ?_
  refine C0.len V0 d9_4 (pc' := 5) rfl ?_
  show Endw p e below T0 (mkF m 5 #[.val (.ref a), .val (.ref b)] [(.int (0 : Int32)), (.int (0 : Int32)), (.ref b), (.ref a)]) _
  refine Endw.st (T' := T0) (g' := (mkF m 6 #[.val (.ref a), .val (.ref b)] [.null, (.int (0 : Int32)), (.int (0 : Int32)), (.ref b), (.ref a)])) (fun tt_ kk_ => XS.aconstNull C0.here C0.hx rfl (C0.dec d9_5) kk_) ?_
  refine C0.special (y := (⟨"java/lang/String", "<init>", "([CIILjava/lang/Void;)V"⟩ : MethodName)) (W := 0) (a := a) (argsL := [(.ref b), (.int (0 : Int32)), (.int (0 : Int32)), .null]) (rest := []) rfl (W15 hw) (W16 hw) (W18 hw) (W10 hw) (by decide) (rm_StrEmpty4 l Z a0 EL G a b kC h C0.old E0 F0 f0 V0 zg0) (fun z => nomatch z) rfl (allS ⟨E0.lt, (S0 a (by simp))⟩ all0) (by decide) (by decide) (by decide) (by decide) (lenOf pd_22 rfl) rfl (Nat.le_of_ble_eq_true rfl) rfl d9_6 (pc' := 9) rfl ?_
  intro vm1 T1 h1 v1 C1 A1 M1 q1
  obtain ⟨rfl, K1, t1, kb1, Z1⟩ := q1
  show Endw p e below T1 (mkF m 9 #[.val (.ref a), .val (.ref b)] []) _
  exact C1.retV d9_9 (by decide) (by decide) ⟨rfl, (Keep.trans (Keep.refl h [a]) K1 (allS (Or.inl (by simp)) all0)), t1, kb1, Z1⟩
set_option maxRecDepth 65536 in
set_option maxHeartbeats 40000000 in
theorem rm_New4 (l : Launch) (Z : State) (a0 : Array Value) (EL : List (String × Nat)) (G : Glob Z a0 EL) (a b : Addr) (kb : ClassId) (cs : List Int32) (h : Heap) (O : Ext Z.heap h) (E0 : Exa Z h a "java/lang/String") (F0 : Fld Z h a "java/lang/String" "value" "[B" .null) (f0 : Fld Z h a "java/lang/String" "coder" "B" (.int (0 : Int32))) (zg0 : Z.heap.size ≤ a) (V : Arv Z h b kb .char (Int32.ofNat cs.length) (own_vals cs) (.int 0)) (h0 : 0 < cs.length) (h8 : cs.length ≤ 8) (hc : ∀ c ∈ cs, C16 c) :
    Met l Z EL true (⟨"java/lang/String", "<init>", "([CIILjava/lang/Void;)V"⟩ : MethodName) jdk_42_method_149_code 6 none [] ({ frames := 4, cells := 2, slots := 24, locals := 57 } : Room) #[(.ref a), (.ref b), (.int (0 : Int32)), (.int (Int32.ofNat cs.length)), .null] h [a] (fun v h' => v = none ∧ Keep h h' [a] ∧ ∃ (t : Addr) (kb : ClassId), Txt Z h' a t kb cs) := by
  have hw := G.hw
  obtain ⟨zc, Sc, hzc⟩ := G.cs
  obtain ⟨vf, Sf, hvf⟩ := G.fm
  obtain Sa := G.u1
  obtain Sh := G.u2
  obtain Sl := G.u3
  refine Met.of (plainFor_of_name pn_537472696e67_3) G.ew O ?_
  intro p e s m below meth c T0 C0 S0
  refine Endw.eq (g' := mkF m 0 #[.val (.ref a), .val (.ref b), .val (.int (0 : Int32)), .val (.int (Int32.ofNat cs.length)), .val .null, .unset] []) (by first | rfl | (simp [entryFrame, mkF, argsToLocals, own_cI, own_cR, own_cN, own_cJ, own_cD, maxLocals]; done)) ?_
  refine Endw.st (T' := T0) (g' := (mkF m 1 #[.val (.ref a), .val (.ref b), .val (.int (0 : Int32)), .val (.int (Int32.ofNat cs.length)), .val .null, .unset] [(.ref a)])) (fun tt_ kk_ => XS.aloadN C0.here C0.hx rfl (C0.dec d8_0) rfl rfl kk_) ?_
  refine C0.initO (W19 hw) (W20 hw) (W21 hw) rfl d8_1 (pc' := 4) rfl (by decide) (W := 0) (Nat.le_of_ble_eq_true rfl) (by decide) ?_
  intro T1 C1
  show Endw p e below T1 (mkF m 4 #[.val (.ref a), .val (.ref b), .val (.int (0 : Int32)), .val (.int (Int32.ofNat cs.length)), .val .null, .unset] []) _
  refine Endw.st (T' := T1) (g' := (mkF m 27 #[.val (.ref a), .val (.ref b), .val (.int (0 : Int32)), .val (.int (Int32.ofNat cs.length)), .val .null, .unset] [])) (fun tt_ kk_ => XS.iloadN C1.here C1.hx rfl (C1.dec d8_4) rfl (XS.ifYes C1.here C1.hx rfl (pc0 := 5) rfl (C1.dec d8_5) rfl (XT.i0_ne_t (own_n0 h0 (by omega))) (by decide) rfl kk_)) ?_
  refine C1.getS (W44 hw) Sc d8_27 (pc' := 30) rfl ?_
  intro T2 C2
  show Endw p e below T2 (mkF m 30 #[.val (.ref a), .val (.ref b), .val (.int (0 : Int32)), .val (.int (Int32.ofNat cs.length)), .val .null, .unset] [(.int zc)]) _
  refine Endw.st (T' := T2) (g' := (mkF m 36 #[.val (.ref a), .val (.ref b), .val (.int (0 : Int32)), .val (.int (Int32.ofNat cs.length)), .val .null, .unset] [(.int (Int32.ofNat cs.length)), (.int (0 : Int32)), (.ref b)])) (fun tt_ kk_ => XS.ifNo C2.here C2.hx rfl (C2.dec d8_30) rfl (XT.i0_eq_f hzc) (XS.aloadN C2.here C2.hx rfl (C2.dec d8_33) rfl rfl (XS.iloadN C2.here C2.hx rfl (C2.dec d8_34) rfl (XS.iloadN C2.here C2.hx rfl (C2.dec d8_35) rfl kk_)))) ?_
  refine C2.static (y := (⟨"java/lang/StringUTF16", "compress", "([CII)[B"⟩ : MethodName)) (W := 0) (argsL := [(.ref b), (.int (0 : Int32)), (.int (Int32.ofNat cs.length))]) (rest := []) (W48 hw) (W49 hw) (W51 hw) (W50 hw) (by decide) (rm_cmp3 l Z a0 EL G b kb cs h C2.old V h8 hc) (fun _ => rfl) rfl all0 (by decide) (by decide) (by decide) (by decide) (lenOf pd_285b434949295b42 rfl) rfl (Nat.le_of_ble_eq_true rfl) rfl d8_36 (pc' := 39) rfl ?_
  intro vm3 T3 h3 v3 C3 A3 M3 q3
  obtain ⟨x3, kx3, rfl, K3, ge3, zg3, q3⟩ := q3
  show Endw p e below T3 (mkF m 39 #[.val (.ref a), .val (.ref b), .val (.int (0 : Int32)), .val (.int (Int32.ofNat cs.length)), .val .null, .unset] [(.ref x3)]) _
  rcases q3 with ⟨V3, hs⟩ | V3
  · refine Endw.st (T' := T3) (g' := (mkF m 45 #[.val (.ref a), .val (.ref b), .val (.int (0 : Int32)), .val (.int (Int32.ofNat cs.length)), .val .null, .val (.ref x3)] [(.int (Int32.ofNat cs.length)), (.ref x3), (.ref a)])) (fun tt_ kk_ => XS.astore C3.here C3.hx rfl (C3.dec d8_39) rfl rfl (l' := #[.val (.ref a), .val (.ref b), .val (.int (0 : Int32)), .val (.int (Int32.ofNat cs.length)), .val .null, .val (.ref x3)]) rfl (XS.aloadN C3.here C3.hx rfl (C3.dec d8_41) rfl rfl (XS.aload C3.here C3.hx rfl (C3.dec d8_42) rfl rfl (XS.iloadN C3.here C3.hx rfl (C3.dec d8_44) rfl kk_)))) ?_
    refine C3.static (y := (⟨"java/lang/StringUTF16", "coderFromArrayLen", "([BI)B"⟩ : MethodName)) (W := 1) (argsL := [(.ref x3), (.int (Int32.ofNat cs.length))]) (rest := [(.ref a)]) (W74 hw) (W75 hw) (W76 hw) (W50 hw) (by decide) (rm_cod0 l Z a0 EL G x3 kx3 (bys cs) cs h3 C3.old V3 h0 h8) (fun _ => rfl) rfl all0 (by decide) (by decide) (by decide) (by decide) (lenOf pd_285b42492942 rfl) rfl (Nat.le_of_ble_eq_true rfl) rfl d8_45 (pc' := 48) rfl ?_
    intro vm4 T4 h4 v4 C4 A4 M4 q4
    obtain ⟨rfl, rfl⟩ := q4
    show Endw p e below T4 (mkF m 48 #[.val (.ref a), .val (.ref b), .val (.int (0 : Int32)), .val (.int (Int32.ofNat cs.length)), .val .null, .val (.ref x3)] [(.int (0 : Int32)), (.ref a)]) _
    have f5 := (E0.keep K3)
    have f6 := (f0.keep K3 nin0)
    have f8 := (F0.keep K3 nin0)
    have f9 := (A4.safe (Nat.lt_of_lt_of_le E0.lt K3.1) (A3.safe E0.lt (S0 a (by simp))))
    refine C4.putF (v := (.int (0 : Int32))) (W29 hw) f6 f5 (Or.inr ⟨(W25 hw), rfl, rfl⟩) (W9 hw) (ty := .byte) (by decide) rfl rfl zg0 f9 d8_48 (pc' := 51) rfl ?_
    intro T7 h7 C7 K7 A7 Wr7
    have f10 := f6.same Wr7
    have f11 := f8.other Wr7 (Or.inr (slot_ne (Or.inr (W24 hw)) (Or.inr (W25 hw)) (by decide) (t := (.array .byte)) (t' := .byte) (by decide) (by decide)))
    show Endw p e below T7 (mkF m 51 #[.val (.ref a), .val (.ref b), .val (.int (0 : Int32)), .val (.int (Int32.ofNat cs.length)), .val .null, .val (.ref x3)] []) _
    refine Endw.st (T' := T7) (g' := (mkF m 54 #[.val (.ref a), .val (.ref b), .val (.int (0 : Int32)), .val (.int (Int32.ofNat cs.length)), .val .null, .val (.ref x3)] [(.ref x3), (.ref a)])) (fun tt_ kk_ => XS.aloadN C7.here C7.hx rfl (C7.dec d8_51) rfl rfl (XS.aload C7.here C7.hx rfl (C7.dec d8_52) rfl rfl kk_)) ?_
    have f12 := (f5.keep K7)
    have f14 := (A7.safe (Nat.lt_of_lt_of_le E0.lt K3.1) f9)
    refine C7.putF (v := (.ref x3)) (W28 hw) f11 f12 (Or.inr ⟨(W24 hw), rfl, rfl⟩) (W9 hw) (ty := (.array .byte)) (by decide) rfl rfl zg0 f14 d8_54 (pc' := 57) rfl ?_
    intro T13 h13 C13 K13 A13 Wr13
    have f15 := f11.same Wr13
    have f16 := f10.other Wr13 (Or.inr (slot_ne (Or.inr (W25 hw)) (Or.inr (W24 hw)) (by decide) (t := .byte) (t' := (.array .byte)) (by decide) (by decide)))
    show Endw p e below T13 (mkF m 57 #[.val (.ref a), .val (.ref b), .val (.int (0 : Int32)), .val (.int (Int32.ofNat cs.length)), .val .null, .val (.ref x3)] []) _
    have f17 := (f12.keep K13)
    have f18 := ((V3.keep K7 (ninS (Ne.symm (Nat.ne_of_lt (Nat.lt_of_lt_of_le E0.lt ge3))) nin0)).keep K13 (ninS (Ne.symm (Nat.ne_of_lt (Nat.lt_of_lt_of_le E0.lt ge3))) nin0))
    exact C13.retV d8_57 (by decide) (by decide) ⟨rfl, (Keep.trans (Keep.trans (Keep.trans (Keep.refl h [a]) K3 all0) K7 (allS (Or.inl (by simp)) all0)) K13 (allS (Or.inl (by simp)) all0)), x3, kx3, Or.inl ⟨⟨f17, f16, f15, f18, fun c q => own_b8of (hc c q) (hs c q), by omega⟩, h8⟩⟩
  · refine Endw.st (T' := T3) (g' := (mkF m 45 #[.val (.ref a), .val (.ref b), .val (.int (0 : Int32)), .val (.int (Int32.ofNat cs.length)), .val .null, .val (.ref x3)] [(.int (Int32.ofNat cs.length)), (.ref x3), (.ref a)])) (fun tt_ kk_ => XS.astore C3.here C3.hx rfl (C3.dec d8_39) rfl rfl (l' := #[.val (.ref a), .val (.ref b), .val (.int (0 : Int32)), .val (.int (Int32.ofNat cs.length)), .val .null, .val (.ref x3)]) rfl (XS.aloadN C3.here C3.hx rfl (C3.dec d8_41) rfl rfl (XS.aload C3.here C3.hx rfl (C3.dec d8_42) rfl rfl (XS.iloadN C3.here C3.hx rfl (C3.dec d8_44) rfl kk_)))) ?_
    refine C3.static (y := (⟨"java/lang/StringUTF16", "coderFromArrayLen", "([BI)B"⟩ : MethodName)) (W := 1) (argsL := [(.ref x3), (.int (Int32.ofNat cs.length))]) (rest := [(.ref a)]) (W74 hw) (W75 hw) (W76 hw) (W50 hw) (by decide) (rm_cod1 l Z a0 EL G x3 kx3 (own_wide cs) cs h3 C3.old V3 h0 h8) (fun _ => rfl) rfl all0 (by decide) (by decide) (by decide) (by decide) (lenOf pd_285b42492942 rfl) rfl (Nat.le_of_ble_eq_true rfl) rfl d8_45 (pc' := 48) rfl ?_
    intro vm19 T19 h19 v19 C19 A19 M19 q19
    obtain ⟨rfl, rfl⟩ := q19
    show Endw p e below T19 (mkF m 48 #[.val (.ref a), .val (.ref b), .val (.int (0 : Int32)), .val (.int (Int32.ofNat cs.length)), .val .null, .val (.ref x3)] [(.int (1 : Int32)), (.ref a)]) _
    have f20 := (E0.keep K3)
    have f21 := (f0.keep K3 nin0)
    have f23 := (F0.keep K3 nin0)
    have f24 := (A19.safe (Nat.lt_of_lt_of_le E0.lt K3.1) (A3.safe E0.lt (S0 a (by simp))))
    refine C19.putF (v := (.int (1 : Int32))) (W29 hw) f21 f20 (Or.inr ⟨(W25 hw), rfl, rfl⟩) (W9 hw) (ty := .byte) (by decide) rfl rfl zg0 f24 d8_48 (pc' := 51) rfl ?_
    intro T22 h22 C22 K22 A22 Wr22
    have f25 := f21.same Wr22
    have f26 := f23.other Wr22 (Or.inr (slot_ne (Or.inr (W24 hw)) (Or.inr (W25 hw)) (by decide) (t := (.array .byte)) (t' := .byte) (by decide) (by decide)))
    show Endw p e below T22 (mkF m 51 #[.val (.ref a), .val (.ref b), .val (.int (0 : Int32)), .val (.int (Int32.ofNat cs.length)), .val .null, .val (.ref x3)] []) _
    refine Endw.st (T' := T22) (g' := (mkF m 54 #[.val (.ref a), .val (.ref b), .val (.int (0 : Int32)), .val (.int (Int32.ofNat cs.length)), .val .null, .val (.ref x3)] [(.ref x3), (.ref a)])) (fun tt_ kk_ => XS.aloadN C22.here C22.hx rfl (C22.dec d8_51) rfl rfl (XS.aload C22.here C22.hx rfl (C22.dec d8_52) rfl rfl kk_)) ?_
    have f27 := (f20.keep K22)
    have f29 := (A22.safe (Nat.lt_of_lt_of_le E0.lt K3.1) f24)
    refine C22.putF (v := (.ref x3)) (W28 hw) f26 f27 (Or.inr ⟨(W24 hw), rfl, rfl⟩) (W9 hw) (ty := (.array .byte)) (by decide) rfl rfl zg0 f29 d8_54 (pc' := 57) rfl ?_
    intro T28 h28 C28 K28 A28 Wr28
    have f30 := f26.same Wr28
    have f31 := f25.other Wr28 (Or.inr (slot_ne (Or.inr (W25 hw)) (Or.inr (W24 hw)) (by decide) (t := .byte) (t' := (.array .byte)) (by decide) (by decide)))
    show Endw p e below T28 (mkF m 57 #[.val (.ref a), .val (.ref b), .val (.int (0 : Int32)), .val (.int (Int32.ofNat cs.length)), .val .null, .val (.ref x3)] []) _
    have f32 := (f27.keep K28)
    have f33 := ((V3.keep K22 (ninS (Ne.symm (Nat.ne_of_lt (Nat.lt_of_lt_of_le E0.lt ge3))) nin0)).keep K28 (ninS (Ne.symm (Nat.ne_of_lt (Nat.lt_of_lt_of_le E0.lt ge3))) nin0))
    exact C28.retV d8_57 (by decide) (by decide) ⟨rfl, (Keep.trans (Keep.trans (Keep.trans (Keep.refl h [a]) K3 all0) K22 (allS (Or.inl (by simp)) all0)) K28 (allS (Or.inl (by simp)) all0)), x3, kx3, Or.inr ⟨f32, f31, f30, f33, hc, h8⟩⟩
set_option maxRecDepth 65536 in
set_option maxHeartbeats 40000000 in
theorem rm_New1 (l : Launch) (Z : State) (a0 : Array Value) (EL : List (String × Nat)) (G : Glob Z a0 EL) (a b : Addr) (kb : ClassId) (cs : List Int32) (h : Heap) (O : Ext Z.heap h) (E0 : Exa Z h a "java/lang/String") (F0 : Fld Z h a "java/lang/String" "value" "[B" .null) (f0 : Fld Z h a "java/lang/String" "coder" "B" (.int (0 : Int32))) (zg0 : Z.heap.size ≤ a) (V : Arv Z h b kb .char (Int32.ofNat cs.length) (own_vals cs) (.int 0)) (h0 : 0 < cs.length) (h8 : cs.length ≤ 8) (hc : ∀ c ∈ cs, C16 c) :
    Met l Z EL true (⟨"java/lang/String", "<init>", "([C)V"⟩ : MethodName) jdk_42_method_3_code 2 none [] ({ frames := 5, cells := 2, slots := 24, locals := 74 } : Room) #[(.ref a), (.ref b)] h [a] (fun v h' => v = none ∧ Keep h h' [a] ∧ ∃ (t : Addr) (kb : ClassId), Txt Z h' a t kb cs) := by
  have hw := G.hw
  obtain ⟨zc, Sc, hzc⟩ := G.cs
  obtain ⟨vf, Sf, hvf⟩ := G.fm
  obtain Sa := G.u1
  obtain Sh := G.u2
  obtain Sl := G.u3
  refine Met.of (plainFor_of_name pn_537472696e67_3) G.ew O ?_
  intro p e s m below meth c T0 C0 S0
  refine Endw.eq (g' := mkF m 0 #[.val (.ref a), .val (.ref b)] []) (by first | rfl | (simp [entryFrame, mkF, argsToLocals, own_cI, own_cR, own_cN, own_cJ, own_cD, maxLocals]; done)) ?_
  refine Endw.st (T' := T0) (g' := (mkF m 4 #[.val (.ref a), .val (.ref b)] [(.ref b), (.int (0 : Int32)), (.ref b), (.ref a)])) (fun tt_ kk_ => XS.aloadN C0.here C0.hx rfl (C0.dec d9_0) rfl rfl (XS.aloadN C0.here C0.hx rfl (C0.dec d9_1) rfl rfl (XS.iconst C0.here C0.hx rfl (C0.dec d9_2) (XS.aloadN C0.here C0.hx rfl (C0.dec d9_3) rfl rfl kk_)))) ?_
  refine C0.len V d9_4 (pc' := 5) rfl ?_
  show Endw p e below T0 (mkF m 5 #[.val (.ref a), .val (.ref b)] [(.int (Int32.ofNat cs.length)), (.int (0 : Int32)), (.ref b), (.ref a)]) _
  refine Endw.st (T' := T0) (g' := (mkF m 6 #[.val (.ref a), .val (.ref b)] [.null, (.int (Int32.ofNat cs.length)), (.int (0 : Int32)), (.ref b), (.ref a)])) (fun tt_ kk_ => XS.aconstNull C0.here C0.hx rfl (C0.dec d9_5) kk_) ?_
  refine C0.special (y := (⟨"java/lang/String", "<init>", "([CIILjava/lang/Void;)V"⟩ : MethodName)) (W := 0) (a := a) (argsL := [(.ref b), (.int (0 : Int32)), (.int (Int32.ofNat cs.length)), .null]) (rest := []) rfl (W15 hw) (W16 hw) (W18 hw) (W10 hw) (by decide) (rm_New4 l Z a0 EL G a b kb cs h C0.old E0 F0 f0 zg0 V h0 h8 hc) (fun _ => rfl) rfl (allS ⟨E0.lt, (S0 a (by simp))⟩ all0) (by decide) (by decide) (by decide) (by decide) (lenOf pd_22 rfl) rfl (Nat.le_of_ble_eq_true rfl) rfl d9_6 (pc' := 9) rfl ?_
  intro vm1 T1 h1 v1 C1 A1 M1 q1
  obtain ⟨rfl, K1, t1, kb1, Y1⟩ := q1
  show Endw p e below T1 (mkF m 9 #[.val (.ref a), .val (.ref b)] []) _
  exact C1.retV d9_9 (by decide) (by decide) ⟨rfl, (Keep.trans (Keep.refl h [a]) K1 (allS (Or.inl (by simp)) all0)), t1, kb1, Y1⟩
set_option maxRecDepth 65536 in
set_option maxHeartbeats 40000000 in
theorem rm_make0 (l : Launch) (Z : State) (a0 : Array Value) (EL : List (String × Nat)) (G : Glob Z a0 EL) (x0 x1 x2 x3 x4 x5 x6 x7 : Int32) (h : Heap) (O : Ext Z.heap h)  :
    Met l Z EL false (⟨"com/example/cohabit/cohabit/NumbersIsDecimalPinLaw", "make", "(ICCCCCCCC)Ljava/lang/String;"⟩ : MethodName) method_4_code 9 (some (.object "java/lang/String")) [] ({ frames := 3, cells := 6, slots := 12, locals := 43 } : Room) #[(.int (0 : Int32)), (.int x0), (.int x1), (.int x2), (.int x3), (.int x4), (.int x5), (.int x6), (.int x7)] h [] (fun r h' => ∃ (a t : Addr) (kb : ClassId), r = some (.ref a) ∧ Keep h h' [] ∧ h.size ≤ a ∧ Txt Z h' a t kb []) := by
  have hw := G.hw
  obtain ⟨zc, Sc, hzc⟩ := G.cs
  obtain ⟨vf, Sf, hvf⟩ := G.fm
  obtain Sa := G.u1
  obtain Sh := G.u2
  obtain Sl := G.u3
  refine Met.of (plainFor_of_name pn_50696e4c6177_1) G.ew O ?_
  intro p e s m below meth c T0 C0 S0
  refine Endw.eq (g' := mkF m 0 #[.val (.int (0 : Int32)), .val (.int x0), .val (.int x1), .val (.int x2), .val (.int x3), .val (.int x4), .val (.int x5), .val (.int x6), .val (.int x7)] []) (by simp [entryFrame, mkF, argsToLocals, own_cI, own_cR, own_cN, own_cJ, own_cD, maxLocals]) ?_
  refine Endw.st (T' := T0) (g' := (mkF m 4 #[.val (.int (0 : Int32)), .val (.int x0), .val (.int x1), .val (.int x2), .val (.int x3), .val (.int x4), .val (.int x5), .val (.int x6), .val (.int x7)] [])) (fun tt_ kk_ => XS.iloadN C0.here C0.hx rfl (C0.dec d10_0) rfl (XS.ifNo C0.here C0.hx rfl (C0.dec d10_1) rfl (XT.i0_ne_f (by decide)) kk_)) ?_
  refine C0.new (W8 hw) (W9 hw) (W10 hw) d10_4 (pc' := 7) rfl (by decide) (by decide) ?_
  intro T1 h1 a1 C1 K1 A1 ge1 zg1 E1 D1 S1
  show Endw p e below T1 (mkF m 7 #[.val (.int (0 : Int32)), .val (.int x0), .val (.int x1), .val (.int x2), .val (.int x3), .val (.int x4), .val (.int x5), .val (.int x6), .val (.int x7)] [(.ref a1)]) _
  refine Endw.st (T' := T1) (g' := (mkF m 9 #[.val (.int (0 : Int32)), .val (.int x0), .val (.int x1), .val (.int x2), .val (.int x3), .val (.int x4), .val (.int x5), .val (.int x6), .val (.int x7)] [(.int (0 : Int32)), (.ref a1), (.ref a1)])) (fun tt_ kk_ => XS.dup C1.here C1.hx rfl (C1.dec d10_7) rfl rfl (XS.iconst C1.here C1.hx rfl (C1.dec d10_8) kk_)) ?_
  refine C1.newA (aty := .char) (z := (0 : Int32)) (cap := 0) (vs := []) (W11 hw) d10_9 (pc' := 11) rfl (by decide) (by decide) (by decide) (by decide) (by decide) rfl ?_
  intro T2 h2 a2 kA2 C2 K2 A2 ge2 zg2 V2 S2
  show Endw p e below T2 (mkF m 11 #[.val (.int (0 : Int32)), .val (.int x0), .val (.int x1), .val (.int x2), .val (.int x3), .val (.int x4), .val (.int x5), .val (.int x6), .val (.int x7)] [(.ref a2), (.ref a1), (.ref a1)]) _
  have f3 := (E1.keep K2)
  have f4 : Fld Z h1 a1 "java/lang/String" "value" "[B" .null := D1 (Or.inr (W24 hw)) (ty := (.array .byte)) (by decide)
  have f5 := (f4.keep K2 nin0)
  have f6 : Fld Z h1 a1 "java/lang/String" "coder" "B" (.int (0 : Int32)) := D1 (Or.inr (W25 hw)) (ty := .byte) (by decide)
  have f7 := (f6.keep K2 nin0)
  have f9 := (A2.safe E1.lt S1)
  refine C2.special (y := (⟨"java/lang/String", "<init>", "([C)V"⟩ : MethodName)) (W := 1) (a := a1) (argsL := [(.ref a2)]) (rest := [(.ref a1)]) rfl (W12 hw) (W13 hw) (W14 hw) (W10 hw) (by decide) (rm_StrEmpty1 l Z a0 EL G a1 a2 kA2 h2 C2.old f3 f5 f7 V2 zg1) (fun z => nomatch z) rfl (allS ⟨(Nat.lt_of_lt_of_le E1.lt K2.1), f9⟩ all0) (by decide) (by decide) (by decide) (by decide) (lenOf pd_285b432956 rfl) rfl (Nat.le_of_ble_eq_true rfl) rfl d10_11 (pc' := 14) rfl ?_
  intro vm8 T8 h8 v8 C8 A8 M8 q8
  obtain ⟨rfl, K8, t8, kb8, Z8⟩ := q8
  show Endw p e below T8 (mkF m 14 #[.val (.int (0 : Int32)), .val (.int x0), .val (.int x1), .val (.int x2), .val (.int x3), .val (.int x4), .val (.int x5), .val (.int x6), .val (.int x7)] [(.ref a1)]) _
  exact C8.retA (t := (.object "java/lang/String")) rfl rfl rfl rfl d10_14 (by decide) (by decide) ⟨a1, t8, kb8, rfl, (Keep.trans (Keep.trans (Keep.trans (Keep.refl h []) K1 all0) K2 all0) K8 (allS (Or.inr ge1) all0)), ge1, Or.inl ⟨Z8, by decide⟩⟩
set_option maxRecDepth 65536 in
set_option maxHeartbeats 40000000 in
theorem rm_make1 (l : Launch) (Z : State) (a0 : Array Value) (EL : List (String × Nat)) (G : Glob Z a0 EL) (x0 x1 x2 x3 x4 x5 x6 x7 : Int32) (h : Heap) (O : Ext Z.heap h) (p0 : C16 x0) :
    Met l Z EL true (⟨"com/example/cohabit/cohabit/NumbersIsDecimalPinLaw", "make", "(ICCCCCCCC)Ljava/lang/String;"⟩ : MethodName) method_4_code 9 (some (.object "java/lang/String")) [] ({ frames := 6, cells := 4, slots := 29, locals := 88 } : Room) #[(.int (1 : Int32)), (.int x0), (.int x1), (.int x2), (.int x3), (.int x4), (.int x5), (.int x6), (.int x7)] h [] (fun r h' => ∃ (a t : Addr) (kb : ClassId), r = some (.ref a) ∧ Keep h h' [] ∧ h.size ≤ a ∧ Txt Z h' a t kb [x0]) := by
  have hw := G.hw
  obtain ⟨zc, Sc, hzc⟩ := G.cs
  obtain ⟨vf, Sf, hvf⟩ := G.fm
  obtain Sa := G.u1
  obtain Sh := G.u2
  obtain Sl := G.u3
  refine Met.of (plainFor_of_name pn_50696e4c6177_1) G.ew O ?_
  intro p e s m below meth c T0 C0 S0
  refine Endw.eq (g' := mkF m 0 #[.val (.int (1 : Int32)), .val (.int x0), .val (.int x1), .val (.int x2), .val (.int x3), .val (.int x4), .val (.int x5), .val (.int x6), .val (.int x7)] []) (by simp [entryFrame, mkF, argsToLocals, own_cI, own_cR, own_cN, own_cJ, own_cD, maxLocals]) ?_
  refine Endw.st (T' := T0) (g' := (mkF m 20 #[.val (.int (1 : Int32)), .val (.int x0), .val (.int x1), .val (.int x2), .val (.int x3), .val (.int x4), .val (.int x5), .val (.int x6), .val (.int x7)] [])) (fun tt_ kk_ => XS.iloadN C0.here C0.hx rfl (C0.dec d10_0) rfl (XS.ifYes C0.here C0.hx rfl (pc0 := 1) rfl (C0.dec d10_1) rfl (XT.i0_ne_t (by decide)) (by decide) rfl (XS.iloadN C0.here C0.hx rfl (C0.dec d10_15) rfl (XS.iconst C0.here C0.hx rfl (C0.dec d10_16) (XS.icmpNo C0.here C0.hx rfl (C0.dec d10_17) rfl (XT.ii_ne_f (by decide)) kk_))))) ?_
  refine C0.new (W8 hw) (W9 hw) (W10 hw) d10_20 (pc' := 23) rfl (by decide) (by decide) ?_
  intro T1 h1 a1 C1 K1 A1 ge1 zg1 E1 D1 S1
  show Endw p e below T1 (mkF m 23 #[.val (.int (1 : Int32)), .val (.int x0), .val (.int x1), .val (.int x2), .val (.int x3), .val (.int x4), .val (.int x5), .val (.int x6), .val (.int x7)] [(.ref a1)]) _
  refine Endw.st (T' := T1) (g' := (mkF m 25 #[.val (.int (1 : Int32)), .val (.int x0), .val (.int x1), .val (.int x2), .val (.int x3), .val (.int x4), .val (.int x5), .val (.int x6), .val (.int x7)] [(.int (1 : Int32)), (.ref a1), (.ref a1)])) (fun tt_ kk_ => XS.dup C1.here C1.hx rfl (C1.dec d10_23) rfl rfl (XS.iconst C1.here C1.hx rfl (C1.dec d10_24) kk_)) ?_
  refine C1.newA (aty := .char) (z := (1 : Int32)) (cap := 1) (vs := [(.int 0)]) (W11 hw) d10_25 (pc' := 27) rfl (by decide) (by decide) (by decide) (by decide) (by decide) rfl ?_
  intro T2 h2 a2 kA2 C2 K2 A2 ge2 zg2 V2 S2
  show Endw p e below T2 (mkF m 27 #[.val (.int (1 : Int32)), .val (.int x0), .val (.int x1), .val (.int x2), .val (.int x3), .val (.int x4), .val (.int x5), .val (.int x6), .val (.int x7)] [(.ref a2), (.ref a1), (.ref a1)]) _
  refine Endw.st (T' := T2) (g' := (mkF m 30 #[.val (.int (1 : Int32)), .val (.int x0), .val (.int x1), .val (.int x2), .val (.int x3), .val (.int x4), .val (.int x5), .val (.int x6), .val (.int x7)] [(.int x0), (.int (0 : Int32)), (.ref a2), (.ref a2), (.ref a1), (.ref a1)])) (fun tt_ kk_ => XS.dup C2.here C2.hx rfl (C2.dec d10_27) rfl rfl (XS.iconst C2.here C2.hx rfl (C2.dec d10_28) (XS.iloadN C2.here C2.hx rfl (C2.dec d10_29) rfl kk_))) ?_
  refine C2.castore V2 ⟨by decide, by decide⟩ 0 (by decide) (Nat.le_of_ble_eq_true rfl) (x' := x0) (own_i2c16 p0) zg2 (vs' := [(.int x0)]) rfl d10_30 (pc' := 31) rfl ?_
  intro T3 h3 C3 K3 A3 V3
  show Endw p e below T3 (mkF m 31 #[.val (.int (1 : Int32)), .val (.int x0), .val (.int x1), .val (.int x2), .val (.int x3), .val (.int x4), .val (.int x5), .val (.int x6), .val (.int x7)] [(.ref a2), (.ref a1), (.ref a1)]) _
  have f4 := ((E1.keep K2).keep K3)
  have f5 : Fld Z h1 a1 "java/lang/String" "value" "[B" .null := D1 (Or.inr (W24 hw)) (ty := (.array .byte)) (by decide)
  have f6 := ((f5.keep K2 nin0).keep K3 (ninS (Nat.ne_of_lt (Nat.lt_of_lt_of_le E1.lt ge2)) nin0))
  have f7 : Fld Z h1 a1 "java/lang/String" "coder" "B" (.int (0 : Int32)) := D1 (Or.inr (W25 hw)) (ty := .byte) (by decide)
  have f8 := ((f7.keep K2 nin0).keep K3 (ninS (Nat.ne_of_lt (Nat.lt_of_lt_of_le E1.lt ge2)) nin0))
  have f10 := (A3.safe (Nat.lt_of_lt_of_le E1.lt K2.1) (A2.safe E1.lt S1))
  refine C3.special (y := (⟨"java/lang/String", "<init>", "([C)V"⟩ : MethodName)) (W := 1) (a := a1) (argsL := [(.ref a2)]) (rest := [(.ref a1)]) rfl (W12 hw) (W13 hw) (W14 hw) (W10 hw) (by decide) (rm_New1 l Z a0 EL G a1 a2 kA2 [x0] h3 C3.old f4 f6 f8 zg1 V3 (Nat.le_of_ble_eq_true rfl) (Nat.le_of_ble_eq_true rfl) (own_cS p0 own_c0)) (fun _ => rfl) rfl (allS ⟨(Nat.lt_of_lt_of_le E1.lt (Nat.le_trans K2.1 K3.1)), f10⟩ all0) (by decide) (by decide) (by decide) (by decide) (lenOf pd_285b432956 rfl) rfl (Nat.le_of_ble_eq_true rfl) rfl d10_31 (pc' := 34) rfl ?_
  intro vm9 T9 h9 v9 C9 A9 M9 q9
  obtain ⟨rfl, K9, t9, kb9, Y9⟩ := q9
  show Endw p e below T9 (mkF m 34 #[.val (.int (1 : Int32)), .val (.int x0), .val (.int x1), .val (.int x2), .val (.int x3), .val (.int x4), .val (.int x5), .val (.int x6), .val (.int x7)] [(.ref a1)]) _
  exact C9.retA (t := (.object "java/lang/String")) rfl rfl rfl rfl d10_34 (by decide) (by decide) ⟨a1, t9, kb9, rfl, (Keep.trans (Keep.trans (Keep.trans (Keep.trans (Keep.refl h []) K1 all0) K2 all0) K3 (allS (Or.inr (Nat.le_trans K1.1 ge2)) all0)) K9 (allS (Or.inr ge1) all0)), ge1, Y9⟩
set_option maxRecDepth 65536 in
set_option maxHeartbeats 40000000 in
theorem rm_make2 (l : Launch) (Z : State) (a0 : Array Value) (EL : List (String × Nat)) (G : Glob Z a0 EL) (x0 x1 x2 x3 x4 x5 x6 x7 : Int32) (h : Heap) (O : Ext Z.heap h) (p0 : C16 x0) (p1 : C16 x1) :
    Met l Z EL true (⟨"com/example/cohabit/cohabit/NumbersIsDecimalPinLaw", "make", "(ICCCCCCCC)Ljava/lang/String;"⟩ : MethodName) method_4_code 9 (some (.object "java/lang/String")) [] ({ frames := 6, cells := 4, slots := 30, locals := 88 } : Room) #[(.int (2 : Int32)), (.int x0), (.int x1), (.int x2), (.int x3), (.int x4), (.int x5), (.int x6), (.int x7)] h [] (fun r h' => ∃ (a t : Addr) (kb : ClassId), r = some (.ref a) ∧ Keep h h' [] ∧ h.size ≤ a ∧ Txt Z h' a t kb [x0, x1]) := by
  have hw := G.hw
  obtain ⟨zc, Sc, hzc⟩ := G.cs
  obtain ⟨vf, Sf, hvf⟩ := G.fm
  obtain Sa := G.u1
  obtain Sh := G.u2
  obtain Sl := G.u3
  refine Met.of (plainFor_of_name pn_50696e4c6177_1) G.ew O ?_
  intro p e s m below meth c T0 C0 S0
  refine Endw.eq (g' := mkF m 0 #[.val (.int (2 : Int32)), .val (.int x0), .val (.int x1), .val (.int x2), .val (.int x3), .val (.int x4), .val (.int x5), .val (.int x6), .val (.int x7)] []) (by simp [entryFrame, mkF, argsToLocals, own_cI, own_cR, own_cN, own_cJ, own_cD, maxLocals]) ?_
  refine Endw.st (T' := T0) (g' := (mkF m 40 #[.val (.int (2 : Int32)), .val (.int x0), .val (.int x1), .val (.int x2), .val (.int x3), .val (.int x4), .val (.int x5), .val (.int x6), .val (.int x7)] [])) (fun tt_ kk_ => XS.iloadN C0.here C0.hx rfl (C0.dec d10_0) rfl (XS.ifYes C0.here C0.hx rfl (pc0 := 1) rfl (C0.dec d10_1) rfl (XT.i0_ne_t (by decide)) (by decide) rfl (XS.iloadN C0.here C0.hx rfl (C0.dec d10_15) rfl (XS.iconst C0.here C0.hx rfl (C0.dec d10_16) (XS.icmpYes C0.here C0.hx rfl (pc0 := 17) rfl (C0.dec d10_17) rfl (XT.ii_ne_t (by decide)) (by decide) rfl (XS.iloadN C0.here C0.hx rfl (C0.dec d10_35) rfl (XS.iconst C0.here C0.hx rfl (C0.dec d10_36) (XS.icmpNo C0.here C0.hx rfl (C0.dec d10_37) rfl (XT.ii_ne_f (by decide)) kk_)))))))) ?_
  refine C0.new (W8 hw) (W9 hw) (W10 hw) d10_40 (pc' := 43) rfl (by decide) (by decide) ?_
  intro T1 h1 a1 C1 K1 A1 ge1 zg1 E1 D1 S1
  show Endw p e below T1 (mkF m 43 #[.val (.int (2 : Int32)), .val (.int x0), .val (.int x1), .val (.int x2), .val (.int x3), .val (.int x4), .val (.int x5), .val (.int x6), .val (.int x7)] [(.ref a1)]) _
  refine Endw.st (T' := T1) (g' := (mkF m 45 #[.val (.int (2 : Int32)), .val (.int x0), .val (.int x1), .val (.int x2), .val (.int x3), .val (.int x4), .val (.int x5), .val (.int x6), .val (.int x7)] [(.int (2 : Int32)), (.ref a1), (.ref a1)])) (fun tt_ kk_ => XS.dup C1.here C1.hx rfl (C1.dec d10_43) rfl rfl (XS.iconst C1.here C1.hx rfl (C1.dec d10_44) kk_)) ?_
  refine C1.newA (aty := .char) (z := (2 : Int32)) (cap := 2) (vs := [(.int 0), (.int 0)]) (W11 hw) d10_45 (pc' := 47) rfl (by decide) (by decide) (by decide) (by decide) (by decide) rfl ?_
  intro T2 h2 a2 kA2 C2 K2 A2 ge2 zg2 V2 S2
  show Endw p e below T2 (mkF m 47 #[.val (.int (2 : Int32)), .val (.int x0), .val (.int x1), .val (.int x2), .val (.int x3), .val (.int x4), .val (.int x5), .val (.int x6), .val (.int x7)] [(.ref a2), (.ref a1), (.ref a1)]) _
  refine Endw.st (T' := T2) (g' := (mkF m 50 #[.val (.int (2 : Int32)), .val (.int x0), .val (.int x1), .val (.int x2), .val (.int x3), .val (.int x4), .val (.int x5), .val (.int x6), .val (.int x7)] [(.int x0), (.int (0 : Int32)), (.ref a2), (.ref a2), (.ref a1), (.ref a1)])) (fun tt_ kk_ => XS.dup C2.here C2.hx rfl (C2.dec d10_47) rfl rfl (XS.iconst C2.here C2.hx rfl (C2.dec d10_48) (XS.iloadN C2.here C2.hx rfl (C2.dec d10_49) rfl kk_))) ?_
  refine C2.castore V2 ⟨by decide, by decide⟩ 0 (by decide) (Nat.le_of_ble_eq_true rfl) (x' := x0) (own_i2c16 p0) zg2 (vs' := [(.int x0), (.int 0)]) rfl d10_50 (pc' := 51) rfl ?_
  intro T3 h3 C3 K3 A3 V3
  show Endw p e below T3 (mkF m 51 #[.val (.int (2 : Int32)), .val (.int x0), .val (.int x1), .val (.int x2), .val (.int x3), .val (.int x4), .val (.int x5), .val (.int x6), .val (.int x7)] [(.ref a2), (.ref a1), (.ref a1)]) _
  refine Endw.st (T' := T3) (g' := (mkF m 54 #[.val (.int (2 : Int32)), .val (.int x0), .val (.int x1), .val (.int x2), .val (.int x3), .val (.int x4), .val (.int x5), .val (.int x6), .val (.int x7)] [(.int x1), (.int (1 : Int32)), (.ref a2), (.ref a2), (.ref a1), (.ref a1)])) (fun tt_ kk_ => XS.dup C3.here C3.hx rfl (C3.dec d10_51) rfl rfl (XS.iconst C3.here C3.hx rfl (C3.dec d10_52) (XS.iloadN C3.here C3.hx rfl (C3.dec d10_53) rfl kk_))) ?_
  refine C3.castore V3 ⟨by decide, by decide⟩ 1 (by decide) (Nat.le_of_ble_eq_true rfl) (x' := x1) (own_i2c16 p1) zg2 (vs' := [(.int x0), (.int x1)]) rfl d10_54 (pc' := 55) rfl ?_
  intro T4 h4 C4 K4 A4 V4
  replace K4 := Keep.trans K3 K4 (allS (Or.inl (by simp)) all0)
  replace A4 := CHr.trans A3 A4
  clear C3 V3 K3 A3 T3 h3
  show Endw p e below T4 (mkF m 55 #[.val (.int (2 : Int32)), .val (.int x0), .val (.int x1), .val (.int x2), .val (.int x3), .val (.int x4), .val (.int x5), .val (.int x6), .val (.int x7)] [(.ref a2), (.ref a1), (.ref a1)]) _
  have f5 := ((E1.keep K2).keep K4)
  have f6 : Fld Z h1 a1 "java/lang/String" "value" "[B" .null := D1 (Or.inr (W24 hw)) (ty := (.array .byte)) (by decide)
  have f7 := ((f6.keep K2 nin0).keep K4 (ninS (Nat.ne_of_lt (Nat.lt_of_lt_of_le E1.lt ge2)) nin0))
  have f8 : Fld Z h1 a1 "java/lang/String" "coder" "B" (.int (0 : Int32)) := D1 (Or.inr (W25 hw)) (ty := .byte) (by decide)
  have f9 := ((f8.keep K2 nin0).keep K4 (ninS (Nat.ne_of_lt (Nat.lt_of_lt_of_le E1.lt ge2)) nin0))
  have f11 := (A4.safe (Nat.lt_of_lt_of_le E1.lt K2.1) (A2.safe E1.lt S1))
  refine C4.special (y := (⟨"java/lang/String", "<init>", "([C)V"⟩ : MethodName)) (W := 1) (a := a1) (argsL := [(.ref a2)]) (rest := [(.ref a1)]) rfl (W12 hw) (W13 hw) (W14 hw) (W10 hw) (by decide) (rm_New1 l Z a0 EL G a1 a2 kA2 [x0, x1] h4 C4.old f5 f7 f9 zg1 V4 (Nat.le_of_ble_eq_true rfl) (Nat.le_of_ble_eq_true rfl) (own_cS p0 (own_cS p1 own_c0))) (fun _ => rfl) rfl (allS ⟨(Nat.lt_of_lt_of_le E1.lt (Nat.le_trans K2.1 K4.1)), f11⟩ all0) (by decide) (by decide) (by decide) (by decide) (lenOf pd_285b432956 rfl) rfl (Nat.le_of_ble_eq_true rfl) rfl d10_55 (pc' := 58) rfl ?_
  intro vm10 T10 h10 v10 C10 A10 M10 q10
  obtain ⟨rfl, K10, t10, kb10, Y10⟩ := q10
  show Endw p e below T10 (mkF m 58 #[.val (.int (2 : Int32)), .val (.int x0), .val (.int x1), .val (.int x2), .val (.int x3), .val (.int x4), .val (.int x5), .val (.int x6), .val (.int x7)] [(.ref a1)]) _
  exact C10.retA (t := (.object "java/lang/String")) rfl rfl rfl rfl d10_58 (by decide) (by decide) ⟨a1, t10, kb10, rfl, (Keep.trans (Keep.trans (Keep.trans (Keep.trans (Keep.refl h []) K1 all0) K2 all0) K4 (allS (Or.inr (Nat.le_trans K1.1 ge2)) all0)) K10 (allS (Or.inr ge1) all0)), ge1, Y10⟩
set_option maxRecDepth 65536 in
set_option maxHeartbeats 40000000 in
theorem rm_make3 (l : Launch) (Z : State) (a0 : Array Value) (EL : List (String × Nat)) (G : Glob Z a0 EL) (x0 x1 x2 x3 x4 x5 x6 x7 : Int32) (h : Heap) (O : Ext Z.heap h) (p0 : C16 x0) (p1 : C16 x1) (p2 : C16 x2) :
    Met l Z EL true (⟨"com/example/cohabit/cohabit/NumbersIsDecimalPinLaw", "make", "(ICCCCCCCC)Ljava/lang/String;"⟩ : MethodName) method_4_code 9 (some (.object "java/lang/String")) [] ({ frames := 6, cells := 4, slots := 31, locals := 88 } : Room) #[(.int (3 : Int32)), (.int x0), (.int x1), (.int x2), (.int x3), (.int x4), (.int x5), (.int x6), (.int x7)] h [] (fun r h' => ∃ (a t : Addr) (kb : ClassId), r = some (.ref a) ∧ Keep h h' [] ∧ h.size ≤ a ∧ Txt Z h' a t kb [x0, x1, x2]) := by
  have hw := G.hw
  obtain ⟨zc, Sc, hzc⟩ := G.cs
  obtain ⟨vf, Sf, hvf⟩ := G.fm
  obtain Sa := G.u1
  obtain Sh := G.u2
  obtain Sl := G.u3
  refine Met.of (plainFor_of_name pn_50696e4c6177_1) G.ew O ?_
  intro p e s m below meth c T0 C0 S0
  refine Endw.eq (g' := mkF m 0 #[.val (.int (3 : Int32)), .val (.int x0), .val (.int x1), .val (.int x2), .val (.int x3), .val (.int x4), .val (.int x5), .val (.int x6), .val (.int x7)] []) (by simp [entryFrame, mkF, argsToLocals, own_cI, own_cR, own_cN, own_cJ, own_cD, maxLocals]) ?_
  refine Endw.st (T' := T0) (g' := (mkF m 59 #[.val (.int (3 : Int32)), .val (.int x0), .val (.int x1), .val (.int x2), .val (.int x3), .val (.int x4), .val (.int x5), .val (.int x6), .val (.int x7)] [])) (fun tt_ kk_ => XS.iloadN C0.here C0.hx rfl (C0.dec d10_0) rfl (XS.ifYes C0.here C0.hx rfl (pc0 := 1) rfl (C0.dec d10_1) rfl (XT.i0_ne_t (by decide)) (by decide) rfl (XS.iloadN C0.here C0.hx rfl (C0.dec d10_15) rfl (XS.iconst C0.here C0.hx rfl (C0.dec d10_16) (XS.icmpYes C0.here C0.hx rfl (pc0 := 17) rfl (C0.dec d10_17) rfl (XT.ii_ne_t (by decide)) (by decide) rfl (XS.iloadN C0.here C0.hx rfl (C0.dec d10_35) rfl (XS.iconst C0.here C0.hx rfl (C0.dec d10_36) (XS.icmpYes C0.here C0.hx rfl (pc0 := 37) rfl (C0.dec d10_37) rfl (XT.ii_ne_t (by decide)) (by decide) rfl kk_)))))))) ?_
  refine Endw.st (T' := T0) (g' := (mkF m 64 #[.val (.int (3 : Int32)), .val (.int x0), .val (.int x1), .val (.int x2), .val (.int x3), .val (.int x4), .val (.int x5), .val (.int x6), .val (.int x7)] [])) (fun tt_ kk_ => XS.iloadN C0.here C0.hx rfl (C0.dec d10_59) rfl (XS.iconst C0.here C0.hx rfl (C0.dec d10_60) (XS.icmpNo C0.here C0.hx rfl (C0.dec d10_61) rfl (XT.ii_ne_f (by decide)) kk_))) ?_
  refine C0.new (W8 hw) (W9 hw) (W10 hw) d10_64 (pc' := 67) rfl (by decide) (by decide) ?_
  intro T1 h1 a1 C1 K1 A1 ge1 zg1 E1 D1 S1
  show Endw p e below T1 (mkF m 67 #[.val (.int (3 : Int32)), .val (.int x0), .val (.int x1), .val (.int x2), .val (.int x3), .val (.int x4), .val (.int x5), .val (.int x6), .val (.int x7)] [(.ref a1)]) _
  refine Endw.st (T' := T1) (g' := (mkF m 69 #[.val (.int (3 : Int32)), .val (.int x0), .val (.int x1), .val (.int x2), .val (.int x3), .val (.int x4), .val (.int x5), .val (.int x6), .val (.int x7)] [(.int (3 : Int32)), (.ref a1), (.ref a1)])) (fun tt_ kk_ => XS.dup C1.here C1.hx rfl (C1.dec d10_67) rfl rfl (XS.iconst C1.here C1.hx rfl (C1.dec d10_68) kk_)) ?_
  refine C1.newA (aty := .char) (z := (3 : Int32)) (cap := 3) (vs := [(.int 0), (.int 0), (.int 0)]) (W11 hw) d10_69 (pc' := 71) rfl (by decide) (by decide) (by decide) (by decide) (by decide) rfl ?_
  intro T2 h2 a2 kA2 C2 K2 A2 ge2 zg2 V2 S2
  show Endw p e below T2 (mkF m 71 #[.val (.int (3 : Int32)), .val (.int x0), .val (.int x1), .val (.int x2), .val (.int x3), .val (.int x4), .val (.int x5), .val (.int x6), .val (.int x7)] [(.ref a2), (.ref a1), (.ref a1)]) _
  refine Endw.st (T' := T2) (g' := (mkF m 74 #[.val (.int (3 : Int32)), .val (.int x0), .val (.int x1), .val (.int x2), .val (.int x3), .val (.int x4), .val (.int x5), .val (.int x6), .val (.int x7)] [(.int x0), (.int (0 : Int32)), (.ref a2), (.ref a2), (.ref a1), (.ref a1)])) (fun tt_ kk_ => XS.dup C2.here C2.hx rfl (C2.dec d10_71) rfl rfl (XS.iconst C2.here C2.hx rfl (C2.dec d10_72) (XS.iloadN C2.here C2.hx rfl (C2.dec d10_73) rfl kk_))) ?_
  refine C2.castore V2 ⟨by decide, by decide⟩ 0 (by decide) (Nat.le_of_ble_eq_true rfl) (x' := x0) (own_i2c16 p0) zg2 (vs' := [(.int x0), (.int 0), (.int 0)]) rfl d10_74 (pc' := 75) rfl ?_
  intro T3 h3 C3 K3 A3 V3
  show Endw p e below T3 (mkF m 75 #[.val (.int (3 : Int32)), .val (.int x0), .val (.int x1), .val (.int x2), .val (.int x3), .val (.int x4), .val (.int x5), .val (.int x6), .val (.int x7)] [(.ref a2), (.ref a1), (.ref a1)]) _
  refine Endw.st (T' := T3) (g' := (mkF m 78 #[.val (.int (3 : Int32)), .val (.int x0), .val (.int x1), .val (.int x2), .val (.int x3), .val (.int x4), .val (.int x5), .val (.int x6), .val (.int x7)] [(.int x1), (.int (1 : Int32)), (.ref a2), (.ref a2), (.ref a1), (.ref a1)])) (fun tt_ kk_ => XS.dup C3.here C3.hx rfl (C3.dec d10_75) rfl rfl (XS.iconst C3.here C3.hx rfl (C3.dec d10_76) (XS.iloadN C3.here C3.hx rfl (C3.dec d10_77) rfl kk_))) ?_
  refine C3.castore V3 ⟨by decide, by decide⟩ 1 (by decide) (Nat.le_of_ble_eq_true rfl) (x' := x1) (own_i2c16 p1) zg2 (vs' := [(.int x0), (.int x1), (.int 0)]) rfl d10_78 (pc' := 79) rfl ?_
  intro T4 h4 C4 K4 A4 V4
  replace K4 := Keep.trans K3 K4 (allS (Or.inl (by simp)) all0)
  replace A4 := CHr.trans A3 A4
  clear C3 V3 K3 A3 T3 h3
  show Endw p e below T4 (mkF m 79 #[.val (.int (3 : Int32)), .val (.int x0), .val (.int x1), .val (.int x2), .val (.int x3), .val (.int x4), .val (.int x5), .val (.int x6), .val (.int x7)] [(.ref a2), (.ref a1), (.ref a1)]) _
  refine Endw.st (T' := T4) (g' := (mkF m 82 #[.val (.int (3 : Int32)), .val (.int x0), .val (.int x1), .val (.int x2), .val (.int x3), .val (.int x4), .val (.int x5), .val (.int x6), .val (.int x7)] [(.int x2), (.int (2 : Int32)), (.ref a2), (.ref a2), (.ref a1), (.ref a1)])) (fun tt_ kk_ => XS.dup C4.here C4.hx rfl (C4.dec d10_79) rfl rfl (XS.iconst C4.here C4.hx rfl (C4.dec d10_80) (XS.iloadN C4.here C4.hx rfl (C4.dec d10_81) rfl kk_))) ?_
  refine C4.castore V4 ⟨by decide, by decide⟩ 2 (by decide) (Nat.le_of_ble_eq_true rfl) (x' := x2) (own_i2c16 p2) zg2 (vs' := [(.int x0), (.int x1), (.int x2)]) rfl d10_82 (pc' := 83) rfl ?_
  intro T5 h5 C5 K5 A5 V5
  replace K5 := Keep.trans K4 K5 (allS (Or.inl (by simp)) all0)
  replace A5 := CHr.trans A4 A5
  clear C4 V4 K4 A4 T4 h4
  show Endw p e below T5 (mkF m 83 #[.val (.int (3 : Int32)), .val (.int x0), .val (.int x1), .val (.int x2), .val (.int x3), .val (.int x4), .val (.int x5), .val (.int x6), .val (.int x7)] [(.ref a2), (.ref a1), (.ref a1)]) _
  have f6 := ((E1.keep K2).keep K5)
  have f7 : Fld Z h1 a1 "java/lang/String" "value" "[B" .null := D1 (Or.inr (W24 hw)) (ty := (.array .byte)) (by decide)
  have f8 := ((f7.keep K2 nin0).keep K5 (ninS (Nat.ne_of_lt (Nat.lt_of_lt_of_le E1.lt ge2)) nin0))
  have f9 : Fld Z h1 a1 "java/lang/String" "coder" "B" (.int (0 : Int32)) := D1 (Or.inr (W25 hw)) (ty := .byte) (by decide)
  have f10 := ((f9.keep K2 nin0).keep K5 (ninS (Nat.ne_of_lt (Nat.lt_of_lt_of_le E1.lt ge2)) nin0))
  have f12 := (A5.safe (Nat.lt_of_lt_of_le E1.lt K2.1) (A2.safe E1.lt S1))
  refine C5.special (y := (⟨"java/lang/String", "<init>", "([C)V"⟩ : MethodName)) (W := 1) (a := a1) (argsL := [(.ref a2)]) (rest := [(.ref a1)]) rfl (W12 hw) (W13 hw) (W14 hw) (W10 hw) (by decide) (rm_New1 l Z a0 EL G a1 a2 kA2 [x0, x1, x2] h5 C5.old f6 f8 f10 zg1 V5 (Nat.le_of_ble_eq_true rfl) (Nat.le_of_ble_eq_true rfl) (own_cS p0 (own_cS p1 (own_cS p2 own_c0)))) (fun _ => rfl) rfl (allS ⟨(Nat.lt_of_lt_of_le E1.lt (Nat.le_trans K2.1 K5.1)), f12⟩ all0) (by decide) (by decide) (by decide) (by decide) (lenOf pd_285b432956 rfl) rfl (Nat.le_of_ble_eq_true rfl) rfl d10_83 (pc' := 86) rfl ?_
  intro vm11 T11 h11 v11 C11 A11 M11 q11
  obtain ⟨rfl, K11, t11, kb11, Y11⟩ := q11
  show Endw p e below T11 (mkF m 86 #[.val (.int (3 : Int32)), .val (.int x0), .val (.int x1), .val (.int x2), .val (.int x3), .val (.int x4), .val (.int x5), .val (.int x6), .val (.int x7)] [(.ref a1)]) _
  exact C11.retA (t := (.object "java/lang/String")) rfl rfl rfl rfl d10_86 (by decide) (by decide) ⟨a1, t11, kb11, rfl, (Keep.trans (Keep.trans (Keep.trans (Keep.trans (Keep.refl h []) K1 all0) K2 all0) K5 (allS (Or.inr (Nat.le_trans K1.1 ge2)) all0)) K11 (allS (Or.inr ge1) all0)), ge1, Y11⟩
set_option maxRecDepth 65536 in
set_option maxHeartbeats 40000000 in
theorem rm_make4 (l : Launch) (Z : State) (a0 : Array Value) (EL : List (String × Nat)) (G : Glob Z a0 EL) (x0 x1 x2 x3 x4 x5 x6 x7 : Int32) (h : Heap) (O : Ext Z.heap h) (p0 : C16 x0) (p1 : C16 x1) (p2 : C16 x2) (p3 : C16 x3) :
    Met l Z EL true (⟨"com/example/cohabit/cohabit/NumbersIsDecimalPinLaw", "make", "(ICCCCCCCC)Ljava/lang/String;"⟩ : MethodName) method_4_code 9 (some (.object "java/lang/String")) [] ({ frames := 6, cells := 4, slots := 32, locals := 88 } : Room) #[(.int (4 : Int32)), (.int x0), (.int x1), (.int x2), (.int x3), (.int x4), (.int x5), (.int x6), (.int x7)] h [] (fun r h' => ∃ (a t : Addr) (kb : ClassId), r = some (.ref a) ∧ Keep h h' [] ∧ h.size ≤ a ∧ Txt Z h' a t kb [x0, x1, x2, x3]) := by
  have hw := G.hw
  obtain ⟨zc, Sc, hzc⟩ := G.cs
  obtain ⟨vf, Sf, hvf⟩ := G.fm
  obtain Sa := G.u1
  obtain Sh := G.u2
  obtain Sl := G.u3
  refine Met.of (plainFor_of_name pn_50696e4c6177_1) G.ew O ?_
  intro p e s m below meth c T0 C0 S0
  refine Endw.eq (g' := mkF m 0 #[.val (.int (4 : Int32)), .val (.int x0), .val (.int x1), .val (.int x2), .val (.int x3), .val (.int x4), .val (.int x5), .val (.int x6), .val (.int x7)] []) (by simp [entryFrame, mkF, argsToLocals, own_cI, own_cR, own_cN, own_cJ, own_cD, maxLocals]) ?_
  refine Endw.st (T' := T0) (g' := (mkF m 59 #[.val (.int (4 : Int32)), .val (.int x0), .val (.int x1), .val (.int x2), .val (.int x3), .val (.int x4), .val (.int x5), .val (.int x6), .val (.int x7)] [])) (fun tt_ kk_ => XS.iloadN C0.here C0.hx rfl (C0.dec d10_0) rfl (XS.ifYes C0.here C0.hx rfl (pc0 := 1) rfl (C0.dec d10_1) rfl (XT.i0_ne_t (by decide)) (by decide) rfl (XS.iloadN C0.here C0.hx rfl (C0.dec d10_15) rfl (XS.iconst C0.here C0.hx rfl (C0.dec d10_16) (XS.icmpYes C0.here C0.hx rfl (pc0 := 17) rfl (C0.dec d10_17) rfl (XT.ii_ne_t (by decide)) (by decide) rfl (XS.iloadN C0.here C0.hx rfl (C0.dec d10_35) rfl (XS.iconst C0.here C0.hx rfl (C0.dec d10_36) (XS.icmpYes C0.here C0.hx rfl (pc0 := 37) rfl (C0.dec d10_37) rfl (XT.ii_ne_t (by decide)) (by decide) rfl kk_)))))))) ?_
  refine Endw.st (T' := T0) (g' := (mkF m 92 #[.val (.int (4 : Int32)), .val (.int x0), .val (.int x1), .val (.int x2), .val (.int x3), .val (.int x4), .val (.int x5), .val (.int x6), .val (.int x7)] [])) (fun tt_ kk_ => XS.iloadN C0.here C0.hx rfl (C0.dec d10_59) rfl (XS.iconst C0.here C0.hx rfl (C0.dec d10_60) (XS.icmpYes C0.here C0.hx rfl (pc0 := 61) rfl (C0.dec d10_61) rfl (XT.ii_ne_t (by decide)) (by decide) rfl (XS.iloadN C0.here C0.hx rfl (C0.dec d10_87) rfl (XS.iconst C0.here C0.hx rfl (C0.dec d10_88) (XS.icmpNo C0.here C0.hx rfl (C0.dec d10_89) rfl (XT.ii_ne_f (by decide)) kk_)))))) ?_
  refine C0.new (W8 hw) (W9 hw) (W10 hw) d10_92 (pc' := 95) rfl (by decide) (by decide) ?_
  intro T1 h1 a1 C1 K1 A1 ge1 zg1 E1 D1 S1
  show Endw p e below T1 (mkF m 95 #[.val (.int (4 : Int32)), .val (.int x0), .val (.int x1), .val (.int x2), .val (.int x3), .val (.int x4), .val (.int x5), .val (.int x6), .val (.int x7)] [(.ref a1)]) _
  refine Endw.st (T' := T1) (g' := (mkF m 97 #[.val (.int (4 : Int32)), .val (.int x0), .val (.int x1), .val (.int x2), .val (.int x3), .val (.int x4), .val (.int x5), .val (.int x6), .val (.int x7)] [(.int (4 : Int32)), (.ref a1), (.ref a1)])) (fun tt_ kk_ => XS.dup C1.here C1.hx rfl (C1.dec d10_95) rfl rfl (XS.iconst C1.here C1.hx rfl (C1.dec d10_96) kk_)) ?_
  refine C1.newA (aty := .char) (z := (4 : Int32)) (cap := 4) (vs := [(.int 0), (.int 0), (.int 0), (.int 0)]) (W11 hw) d10_97 (pc' := 99) rfl (by decide) (by decide) (by decide) (by decide) (by decide) rfl ?_
  intro T2 h2 a2 kA2 C2 K2 A2 ge2 zg2 V2 S2
  show Endw p e below T2 (mkF m 99 #[.val (.int (4 : Int32)), .val (.int x0), .val (.int x1), .val (.int x2), .val (.int x3), .val (.int x4), .val (.int x5), .val (.int x6), .val (.int x7)] [(.ref a2), (.ref a1), (.ref a1)]) _
  refine Endw.st (T' := T2) (g' := (mkF m 102 #[.val (.int (4 : Int32)), .val (.int x0), .val (.int x1), .val (.int x2), .val (.int x3), .val (.int x4), .val (.int x5), .val (.int x6), .val (.int x7)] [(.int x0), (.int (0 : Int32)), (.ref a2), (.ref a2), (.ref a1), (.ref a1)])) (fun tt_ kk_ => XS.dup C2.here C2.hx rfl (C2.dec d10_99) rfl rfl (XS.iconst C2.here C2.hx rfl (C2.dec d10_100) (XS.iloadN C2.here C2.hx rfl (C2.dec d10_101) rfl kk_))) ?_
  refine C2.castore V2 ⟨by decide, by decide⟩ 0 (by decide) (Nat.le_of_ble_eq_true rfl) (x' := x0) (own_i2c16 p0) zg2 (vs' := [(.int x0), (.int 0), (.int 0), (.int 0)]) rfl d10_102 (pc' := 103) rfl ?_
  intro T3 h3 C3 K3 A3 V3
  show Endw p e below T3 (mkF m 103 #[.val (.int (4 : Int32)), .val (.int x0), .val (.int x1), .val (.int x2), .val (.int x3), .val (.int x4), .val (.int x5), .val (.int x6), .val (.int x7)] [(.ref a2), (.ref a1), (.ref a1)]) _
  refine Endw.st (T' := T3) (g' := (mkF m 106 #[.val (.int (4 : Int32)), .val (.int x0), .val (.int x1), .val (.int x2), .val (.int x3), .val (.int x4), .val (.int x5), .val (.int x6), .val (.int x7)] [(.int x1), (.int (1 : Int32)), (.ref a2), (.ref a2), (.ref a1), (.ref a1)])) (fun tt_ kk_ => XS.dup C3.here C3.hx rfl (C3.dec d10_103) rfl rfl (XS.iconst C3.here C3.hx rfl (C3.dec d10_104) (XS.iloadN C3.here C3.hx rfl (C3.dec d10_105) rfl kk_))) ?_
  refine C3.castore V3 ⟨by decide, by decide⟩ 1 (by decide) (Nat.le_of_ble_eq_true rfl) (x' := x1) (own_i2c16 p1) zg2 (vs' := [(.int x0), (.int x1), (.int 0), (.int 0)]) rfl d10_106 (pc' := 107) rfl ?_
  intro T4 h4 C4 K4 A4 V4
  replace K4 := Keep.trans K3 K4 (allS (Or.inl (by simp)) all0)
  replace A4 := CHr.trans A3 A4
  clear C3 V3 K3 A3 T3 h3
  show Endw p e below T4 (mkF m 107 #[.val (.int (4 : Int32)), .val (.int x0), .val (.int x1), .val (.int x2), .val (.int x3), .val (.int x4), .val (.int x5), .val (.int x6), .val (.int x7)] [(.ref a2), (.ref a1), (.ref a1)]) _
  refine Endw.st (T' := T4) (g' := (mkF m 110 #[.val (.int (4 : Int32)), .val (.int x0), .val (.int x1), .val (.int x2), .val (.int x3), .val (.int x4), .val (.int x5), .val (.int x6), .val (.int x7)] [(.int x2), (.int (2 : Int32)), (.ref a2), (.ref a2), (.ref a1), (.ref a1)])) (fun tt_ kk_ => XS.dup C4.here C4.hx rfl (C4.dec d10_107) rfl rfl (XS.iconst C4.here C4.hx rfl (C4.dec d10_108) (XS.iloadN C4.here C4.hx rfl (C4.dec d10_109) rfl kk_))) ?_
  refine C4.castore V4 ⟨by decide, by decide⟩ 2 (by decide) (Nat.le_of_ble_eq_true rfl) (x' := x2) (own_i2c16 p2) zg2 (vs' := [(.int x0), (.int x1), (.int x2), (.int 0)]) rfl d10_110 (pc' := 111) rfl ?_
  intro T5 h5 C5 K5 A5 V5
  replace K5 := Keep.trans K4 K5 (allS (Or.inl (by simp)) all0)
  replace A5 := CHr.trans A4 A5
  clear C4 V4 K4 A4 T4 h4
  show Endw p e below T5 (mkF m 111 #[.val (.int (4 : Int32)), .val (.int x0), .val (.int x1), .val (.int x2), .val (.int x3), .val (.int x4), .val (.int x5), .val (.int x6), .val (.int x7)] [(.ref a2), (.ref a1), (.ref a1)]) _
  refine Endw.st (T' := T5) (g' := (mkF m 115 #[.val (.int (4 : Int32)), .val (.int x0), .val (.int x1), .val (.int x2), .val (.int x3), .val (.int x4), .val (.int x5), .val (.int x6), .val (.int x7)] [(.int x3), (.int (3 : Int32)), (.ref a2), (.ref a2), (.ref a1), (.ref a1)])) (fun tt_ kk_ => XS.dup C5.here C5.hx rfl (C5.dec d10_111) rfl rfl (XS.iconst C5.here C5.hx rfl (C5.dec d10_112) (XS.iload C5.here C5.hx rfl (C5.dec d10_113) rfl kk_))) ?_
  refine C5.castore V5 ⟨by decide, by decide⟩ 3 (by decide) (Nat.le_of_ble_eq_true rfl) (x' := x3) (own_i2c16 p3) zg2 (vs' := [(.int x0), (.int x1), (.int x2), (.int x3)]) rfl d10_115 (pc' := 116) rfl ?_
  intro T6 h6 C6 K6 A6 V6
  replace K6 := Keep.trans K5 K6 (allS (Or.inl (by simp)) all0)
  replace A6 := CHr.trans A5 A6
  clear C5 V5 K5 A5 T5 h5
  show Endw p e below T6 (mkF m 116 #[.val (.int (4 : Int32)), .val (.int x0), .val (.int x1), .val (.int x2), .val (.int x3), .val (.int x4), .val (.int x5), .val (.int x6), .val (.int x7)] [(.ref a2), (.ref a1), (.ref a1)]) _
  have f7 := ((E1.keep K2).keep K6)
  have f8 : Fld Z h1 a1 "java/lang/String" "value" "[B" .null := D1 (Or.inr (W24 hw)) (ty := (.array .byte)) (by decide)
  have f9 := ((f8.keep K2 nin0).keep K6 (ninS (Nat.ne_of_lt (Nat.lt_of_lt_of_le E1.lt ge2)) nin0))
  have f10 : Fld Z h1 a1 "java/lang/String" "coder" "B" (.int (0 : Int32)) := D1 (Or.inr (W25 hw)) (ty := .byte) (by decide)
  have f11 := ((f10.keep K2 nin0).keep K6 (ninS (Nat.ne_of_lt (Nat.lt_of_lt_of_le E1.lt ge2)) nin0))
  have f13 := (A6.safe (Nat.lt_of_lt_of_le E1.lt K2.1) (A2.safe E1.lt S1))
  refine C6.special (y := (⟨"java/lang/String", "<init>", "([C)V"⟩ : MethodName)) (W := 1) (a := a1) (argsL := [(.ref a2)]) (rest := [(.ref a1)]) rfl (W12 hw) (W13 hw) (W14 hw) (W10 hw) (by decide) (rm_New1 l Z a0 EL G a1 a2 kA2 [x0, x1, x2, x3] h6 C6.old f7 f9 f11 zg1 V6 (Nat.le_of_ble_eq_true rfl) (Nat.le_of_ble_eq_true rfl) (own_cS p0 (own_cS p1 (own_cS p2 (own_cS p3 own_c0))))) (fun _ => rfl) rfl (allS ⟨(Nat.lt_of_lt_of_le E1.lt (Nat.le_trans K2.1 K6.1)), f13⟩ all0) (by decide) (by decide) (by decide) (by decide) (lenOf pd_285b432956 rfl) rfl (Nat.le_of_ble_eq_true rfl) rfl d10_116 (pc' := 119) rfl ?_
  intro vm12 T12 h12 v12 C12 A12 M12 q12
  obtain ⟨rfl, K12, t12, kb12, Y12⟩ := q12
  show Endw p e below T12 (mkF m 119 #[.val (.int (4 : Int32)), .val (.int x0), .val (.int x1), .val (.int x2), .val (.int x3), .val (.int x4), .val (.int x5), .val (.int x6), .val (.int x7)] [(.ref a1)]) _
  exact C12.retA (t := (.object "java/lang/String")) rfl rfl rfl rfl d10_119 (by decide) (by decide) ⟨a1, t12, kb12, rfl, (Keep.trans (Keep.trans (Keep.trans (Keep.trans (Keep.refl h []) K1 all0) K2 all0) K6 (allS (Or.inr (Nat.le_trans K1.1 ge2)) all0)) K12 (allS (Or.inr ge1) all0)), ge1, Y12⟩
set_option maxRecDepth 65536 in
set_option maxHeartbeats 40000000 in
theorem rm_make5 (l : Launch) (Z : State) (a0 : Array Value) (EL : List (String × Nat)) (G : Glob Z a0 EL) (x0 x1 x2 x3 x4 x5 x6 x7 : Int32) (h : Heap) (O : Ext Z.heap h) (p0 : C16 x0) (p1 : C16 x1) (p2 : C16 x2) (p3 : C16 x3) (p4 : C16 x4) :
    Met l Z EL true (⟨"com/example/cohabit/cohabit/NumbersIsDecimalPinLaw", "make", "(ICCCCCCCC)Ljava/lang/String;"⟩ : MethodName) method_4_code 9 (some (.object "java/lang/String")) [] ({ frames := 6, cells := 4, slots := 33, locals := 88 } : Room) #[(.int (5 : Int32)), (.int x0), (.int x1), (.int x2), (.int x3), (.int x4), (.int x5), (.int x6), (.int x7)] h [] (fun r h' => ∃ (a t : Addr) (kb : ClassId), r = some (.ref a) ∧ Keep h h' [] ∧ h.size ≤ a ∧ Txt Z h' a t kb [x0, x1, x2, x3, x4]) := by
  have hw := G.hw
  obtain ⟨zc, Sc, hzc⟩ := G.cs
  obtain ⟨vf, Sf, hvf⟩ := G.fm
  obtain Sa := G.u1
  obtain Sh := G.u2
  obtain Sl := G.u3
  refine Met.of (plainFor_of_name pn_50696e4c6177_1) G.ew O ?_
  intro p e s m below meth c T0 C0 S0
  refine Endw.eq (g' := mkF m 0 #[.val (.int (5 : Int32)), .val (.int x0), .val (.int x1), .val (.int x2), .val (.int x3), .val (.int x4), .val (.int x5), .val (.int x6), .val (.int x7)] []) (by simp [entryFrame, mkF, argsToLocals, own_cI, own_cR, own_cN, own_cJ, own_cD, maxLocals]) ?_
  refine Endw.st (T' := T0) (g' := (mkF m 59 #[.val (.int (5 : Int32)), .val (.int x0), .val (.int x1), .val (.int x2), .val (.int x3), .val (.int x4), .val (.int x5), .val (.int x6), .val (.int x7)] [])) (fun tt_ kk_ => XS.iloadN C0.here C0.hx rfl (C0.dec d10_0) rfl (XS.ifYes C0.here C0.hx rfl (pc0 := 1) rfl (C0.dec d10_1) rfl (XT.i0_ne_t (by decide)) (by decide) rfl (XS.iloadN C0.here C0.hx rfl (C0.dec d10_15) rfl (XS.iconst C0.here C0.hx rfl (C0.dec d10_16) (XS.icmpYes C0.here C0.hx rfl (pc0 := 17) rfl (C0.dec d10_17) rfl (XT.ii_ne_t (by decide)) (by decide) rfl (XS.iloadN C0.here C0.hx rfl (C0.dec d10_35) rfl (XS.iconst C0.here C0.hx rfl (C0.dec d10_36) (XS.icmpYes C0.here C0.hx rfl (pc0 := 37) rfl (C0.dec d10_37) rfl (XT.ii_ne_t (by decide)) (by decide) rfl kk_)))))))) ?_
  refine Endw.st (T' := T0) (g' := (mkF m 122 #[.val (.int (5 : Int32)), .val (.int x0), .val (.int x1), .val (.int x2), .val (.int x3), .val (.int x4), .val (.int x5), .val (.int x6), .val (.int x7)] [(.int (5 : Int32)), (.int (5 : Int32))])) (fun tt_ kk_ => XS.iloadN C0.here C0.hx rfl (C0.dec d10_59) rfl (XS.iconst C0.here C0.hx rfl (C0.dec d10_60) (XS.icmpYes C0.here C0.hx rfl (pc0 := 61) rfl (C0.dec d10_61) rfl (XT.ii_ne_t (by decide)) (by decide) rfl (XS.iloadN C0.here C0.hx rfl (C0.dec d10_87) rfl (XS.iconst C0.here C0.hx rfl (C0.dec d10_88) (XS.icmpYes C0.here C0.hx rfl (pc0 := 89) rfl (C0.dec d10_89) rfl (XT.ii_ne_t (by decide)) (by decide) rfl (XS.iloadN C0.here C0.hx rfl (C0.dec d10_120) rfl (XS.iconst C0.here C0.hx rfl (C0.dec d10_121) kk_)))))))) ?_
  refine Endw.st (T' := T0) (g' := (mkF m 125 #[.val (.int (5 : Int32)), .val (.int x0), .val (.int x1), .val (.int x2), .val (.int x3), .val (.int x4), .val (.int x5), .val (.int x6), .val (.int x7)] [])) (fun tt_ kk_ => XS.icmpNo C0.here C0.hx rfl (C0.dec d10_122) rfl (XT.ii_ne_f (by decide)) kk_) ?_
  refine C0.new (W8 hw) (W9 hw) (W10 hw) d10_125 (pc' := 128) rfl (by decide) (by decide) ?_
  intro T1 h1 a1 C1 K1 A1 ge1 zg1 E1 D1 S1
  show Endw p e below T1 (mkF m 128 #[.val (.int (5 : Int32)), .val (.int x0), .val (.int x1), .val (.int x2), .val (.int x3), .val (.int x4), .val (.int x5), .val (.int x6), .val (.int x7)] [(.ref a1)]) _
  refine Endw.st (T' := T1) (g' := (mkF m 130 #[.val (.int (5 : Int32)), .val (.int x0), .val (.int x1), .val (.int x2), .val (.int x3), .val (.int x4), .val (.int x5), .val (.int x6), .val (.int x7)] [(.int (5 : Int32)), (.ref a1), (.ref a1)])) (fun tt_ kk_ => XS.dup C1.here C1.hx rfl (C1.dec d10_128) rfl rfl (XS.iconst C1.here C1.hx rfl (C1.dec d10_129) kk_)) ?_
  refine C1.newA (aty := .char) (z := (5 : Int32)) (cap := 5) (vs := [(.int 0), (.int 0), (.int 0), (.int 0), (.int 0)]) (W11 hw) d10_130 (pc' := 132) rfl (by decide) (by decide) (by decide) (by decide) (by decide) rfl ?_
  intro T2 h2 a2 kA2 C2 K2 A2 ge2 zg2 V2 S2
  show Endw p e below T2 (mkF m 132 #[.val (.int (5 : Int32)), .val (.int x0), .val (.int x1), .val (.int x2), .val (.int x3), .val (.int x4), .val (.int x5), .val (.int x6), .val (.int x7)] [(.ref a2), (.ref a1), (.ref a1)]) _
  refine Endw.st (T' := T2) (g' := (mkF m 135 #[.val (.int (5 : Int32)), .val (.int x0), .val (.int x1), .val (.int x2), .val (.int x3), .val (.int x4), .val (.int x5), .val (.int x6), .val (.int x7)] [(.int x0), (.int (0 : Int32)), (.ref a2), (.ref a2), (.ref a1), (.ref a1)])) (fun tt_ kk_ => XS.dup C2.here C2.hx rfl (C2.dec d10_132) rfl rfl (XS.iconst C2.here C2.hx rfl (C2.dec d10_133) (XS.iloadN C2.here C2.hx rfl (C2.dec d10_134) rfl kk_))) ?_
  refine C2.castore V2 ⟨by decide, by decide⟩ 0 (by decide) (Nat.le_of_ble_eq_true rfl) (x' := x0) (own_i2c16 p0) zg2 (vs' := [(.int x0), (.int 0), (.int 0), (.int 0), (.int 0)]) rfl d10_135 (pc' := 136) rfl ?_
  intro T3 h3 C3 K3 A3 V3
  show Endw p e below T3 (mkF m 136 #[.val (.int (5 : Int32)), .val (.int x0), .val (.int x1), .val (.int x2), .val (.int x3), .val (.int x4), .val (.int x5), .val (.int x6), .val (.int x7)] [(.ref a2), (.ref a1), (.ref a1)]) _
  refine Endw.st (T' := T3) (g' := (mkF m 139 #[.val (.int (5 : Int32)), .val (.int x0), .val (.int x1), .val (.int x2), .val (.int x3), .val (.int x4), .val (.int x5), .val (.int x6), .val (.int x7)] [(.int x1), (.int (1 : Int32)), (.ref a2), (.ref a2), (.ref a1), (.ref a1)])) (fun tt_ kk_ => XS.dup C3.here C3.hx rfl (C3.dec d10_136) rfl rfl (XS.iconst C3.here C3.hx rfl (C3.dec d10_137) (XS.iloadN C3.here C3.hx rfl (C3.dec d10_138) rfl kk_))) ?_
  refine C3.castore V3 ⟨by decide, by decide⟩ 1 (by decide) (Nat.le_of_ble_eq_true rfl) (x' := x1) (own_i2c16 p1) zg2 (vs' := [(.int x0), (.int x1), (.int 0), (.int 0), (.int 0)]) rfl d10_139 (pc' := 140) rfl ?_
  intro T4 h4 C4 K4 A4 V4
  replace K4 := Keep.trans K3 K4 (allS (Or.inl (by simp)) all0)
  replace A4 := CHr.trans A3 A4
  clear C3 V3 K3 A3 T3 h3
  show Endw p e below T4 (mkF m 140 #[.val (.int (5 : Int32)), .val (.int x0), .val (.int x1), .val (.int x2), .val (.int x3), .val (.int x4), .val (.int x5), .val (.int x6), .val (.int x7)] [(.ref a2), (.ref a1), (.ref a1)]) _
  refine Endw.st (T' := T4) (g' := (mkF m 143 #[.val (.int (5 : Int32)), .val (.int x0), .val (.int x1), .val (.int x2), .val (.int x3), .val (.int x4), .val (.int x5), .val (.int x6), .val (.int x7)] [(.int x2), (.int (2 : Int32)), (.ref a2), (.ref a2), (.ref a1), (.ref a1)])) (fun tt_ kk_ => XS.dup C4.here C4.hx rfl (C4.dec d10_140) rfl rfl (XS.iconst C4.here C4.hx rfl (C4.dec d10_141) (XS.iloadN C4.here C4.hx rfl (C4.dec d10_142) rfl kk_))) ?_
  refine C4.castore V4 ⟨by decide, by decide⟩ 2 (by decide) (Nat.le_of_ble_eq_true rfl) (x' := x2) (own_i2c16 p2) zg2 (vs' := [(.int x0), (.int x1), (.int x2), (.int 0), (.int 0)]) rfl d10_143 (pc' := 144) rfl ?_
  intro T5 h5 C5 K5 A5 V5
  replace K5 := Keep.trans K4 K5 (allS (Or.inl (by simp)) all0)
  replace A5 := CHr.trans A4 A5
  clear C4 V4 K4 A4 T4 h4
  show Endw p e below T5 (mkF m 144 #[.val (.int (5 : Int32)), .val (.int x0), .val (.int x1), .val (.int x2), .val (.int x3), .val (.int x4), .val (.int x5), .val (.int x6), .val (.int x7)] [(.ref a2), (.ref a1), (.ref a1)]) _
  refine Endw.st (T' := T5) (g' := (mkF m 148 #[.val (.int (5 : Int32)), .val (.int x0), .val (.int x1), .val (.int x2), .val (.int x3), .val (.int x4), .val (.int x5), .val (.int x6), .val (.int x7)] [(.int x3), (.int (3 : Int32)), (.ref a2), (.ref a2), (.ref a1), (.ref a1)])) (fun tt_ kk_ => XS.dup C5.here C5.hx rfl (C5.dec d10_144) rfl rfl (XS.iconst C5.here C5.hx rfl (C5.dec d10_145) (XS.iload C5.here C5.hx rfl (C5.dec d10_146) rfl kk_))) ?_
  refine C5.castore V5 ⟨by decide, by decide⟩ 3 (by decide) (Nat.le_of_ble_eq_true rfl) (x' := x3) (own_i2c16 p3) zg2 (vs' := [(.int x0), (.int x1), (.int x2), (.int x3), (.int 0)]) rfl d10_148 (pc' := 149) rfl ?_
  intro T6 h6 C6 K6 A6 V6
  replace K6 := Keep.trans K5 K6 (allS (Or.inl (by simp)) all0)
  replace A6 := CHr.trans A5 A6
  clear C5 V5 K5 A5 T5 h5
  show Endw p e below T6 (mkF m 149 #[.val (.int (5 : Int32)), .val (.int x0), .val (.int x1), .val (.int x2), .val (.int x3), .val (.int x4), .val (.int x5), .val (.int x6), .val (.int x7)] [(.ref a2), (.ref a1), (.ref a1)]) _
  refine Endw.st (T' := T6) (g' := (mkF m 153 #[.val (.int (5 : Int32)), .val (.int x0), .val (.int x1), .val (.int x2), .val (.int x3), .val (.int x4), .val (.int x5), .val (.int x6), .val (.int x7)] [(.int x4), (.int (4 : Int32)), (.ref a2), (.ref a2), (.ref a1), (.ref a1)])) (fun tt_ kk_ => XS.dup C6.here C6.hx rfl (C6.dec d10_149) rfl rfl (XS.iconst C6.here C6.hx rfl (C6.dec d10_150) (XS.iload C6.here C6.hx rfl (C6.dec d10_151) rfl kk_))) ?_
  refine C6.castore V6 ⟨by decide, by decide⟩ 4 (by decide) (Nat.le_of_ble_eq_true rfl) (x' := x4) (own_i2c16 p4) zg2 (vs' := [(.int x0), (.int x1), (.int x2), (.int x3), (.int x4)]) rfl d10_153 (pc' := 154) rfl ?_
  intro T7 h7 C7 K7 A7 V7
  replace K7 := Keep.trans K6 K7 (allS (Or.inl (by simp)) all0)
  replace A7 := CHr.trans A6 A7
  clear C6 V6 K6 A6 T6 h6
  show Endw p e below T7 (mkF m 154 #[.val (.int (5 : Int32)), .val (.int x0), .val (.int x1), .val (.int x2), .val (.int x3), .val (.int x4), .val (.int x5), .val (.int x6), .val (.int x7)] [(.ref a2), (.ref a1), (.ref a1)]) _
  have f8 := ((E1.keep K2).keep K7)
  have f9 : Fld Z h1 a1 "java/lang/String" "value" "[B" .null := D1 (Or.inr (W24 hw)) (ty := (.array .byte)) (by decide)
  have f10 := ((f9.keep K2 nin0).keep K7 (ninS (Nat.ne_of_lt (Nat.lt_of_lt_of_le E1.lt ge2)) nin0))
  have f11 : Fld Z h1 a1 "java/lang/String" "coder" "B" (.int (0 : Int32)) := D1 (Or.inr (W25 hw)) (ty := .byte) (by decide)
  have f12 := ((f11.keep K2 nin0).keep K7 (ninS (Nat.ne_of_lt (Nat.lt_of_lt_of_le E1.lt ge2)) nin0))
  have f14 := (A7.safe (Nat.lt_of_lt_of_le E1.lt K2.1) (A2.safe E1.lt S1))
  refine C7.special (y := (⟨"java/lang/String", "<init>", "([C)V"⟩ : MethodName)) (W := 1) (a := a1) (argsL := [(.ref a2)]) (rest := [(.ref a1)]) rfl (W12 hw) (W13 hw) (W14 hw) (W10 hw) (by decide) (rm_New1 l Z a0 EL G a1 a2 kA2 [x0, x1, x2, x3, x4] h7 C7.old f8 f10 f12 zg1 V7 (Nat.le_of_ble_eq_true rfl) (Nat.le_of_ble_eq_true rfl) (own_cS p0 (own_cS p1 (own_cS p2 (own_cS p3 (own_cS p4 own_c0)))))) (fun _ => rfl) rfl (allS ⟨(Nat.lt_of_lt_of_le E1.lt (Nat.le_trans K2.1 K7.1)), f14⟩ all0) (by decide) (by decide) (by decide) (by decide) (lenOf pd_285b432956 rfl) rfl (Nat.le_of_ble_eq_true rfl) rfl d10_154 (pc' := 157) rfl ?_
  intro vm13 T13 h13 v13 C13 A13 M13 q13
  obtain ⟨rfl, K13, t13, kb13, Y13⟩ := q13
  show Endw p e below T13 (mkF m 157 #[.val (.int (5 : Int32)), .val (.int x0), .val (.int x1), .val (.int x2), .val (.int x3), .val (.int x4), .val (.int x5), .val (.int x6), .val (.int x7)] [(.ref a1)]) _
  exact C13.retA (t := (.object "java/lang/String")) rfl rfl rfl rfl d10_157 (by decide) (by decide) ⟨a1, t13, kb13, rfl, (Keep.trans (Keep.trans (Keep.trans (Keep.trans (Keep.refl h []) K1 all0) K2 all0) K7 (allS (Or.inr (Nat.le_trans K1.1 ge2)) all0)) K13 (allS (Or.inr ge1) all0)), ge1, Y13⟩
set_option maxRecDepth 65536 in
set_option maxHeartbeats 40000000 in
theorem rm_make6 (l : Launch) (Z : State) (a0 : Array Value) (EL : List (String × Nat)) (G : Glob Z a0 EL) (x0 x1 x2 x3 x4 x5 x6 x7 : Int32) (h : Heap) (O : Ext Z.heap h) (p0 : C16 x0) (p1 : C16 x1) (p2 : C16 x2) (p3 : C16 x3) (p4 : C16 x4) (p5 : C16 x5) :
    Met l Z EL true (⟨"com/example/cohabit/cohabit/NumbersIsDecimalPinLaw", "make", "(ICCCCCCCC)Ljava/lang/String;"⟩ : MethodName) method_4_code 9 (some (.object "java/lang/String")) [] ({ frames := 6, cells := 4, slots := 34, locals := 88 } : Room) #[(.int (6 : Int32)), (.int x0), (.int x1), (.int x2), (.int x3), (.int x4), (.int x5), (.int x6), (.int x7)] h [] (fun r h' => ∃ (a t : Addr) (kb : ClassId), r = some (.ref a) ∧ Keep h h' [] ∧ h.size ≤ a ∧ Txt Z h' a t kb [x0, x1, x2, x3, x4, x5]) := by
  have hw := G.hw
  obtain ⟨zc, Sc, hzc⟩ := G.cs
  obtain ⟨vf, Sf, hvf⟩ := G.fm
  obtain Sa := G.u1
  obtain Sh := G.u2
  obtain Sl := G.u3
  refine Met.of (plainFor_of_name pn_50696e4c6177_1) G.ew O ?_
  intro p e s m below meth c T0 C0 S0
  refine Endw.eq (g' := mkF m 0 #[.val (.int (6 : Int32)), .val (.int x0), .val (.int x1), .val (.int x2), .val (.int x3), .val (.int x4), .val (.int x5), .val (.int x6), .val (.int x7)] []) (by simp [entryFrame, mkF, argsToLocals, own_cI, own_cR, own_cN, own_cJ, own_cD, maxLocals]) ?_
  refine Endw.st (T' := T0) (g' := (mkF m 59 #[.val (.int (6 : Int32)), .val (.int x0), .val (.int x1), .val (.int x2), .val (.int x3), .val (.int x4), .val (.int x5), .val (.int x6), .val (.int x7)] [])) (fun tt_ kk_ => XS.iloadN C0.here C0.hx rfl (C0.dec d10_0) rfl (XS.ifYes C0.here C0.hx rfl (pc0 := 1) rfl (C0.dec d10_1) rfl (XT.i0_ne_t (by decide)) (by decide) rfl (XS.iloadN C0.here C0.hx rfl (C0.dec d10_15) rfl (XS.iconst C0.here C0.hx rfl (C0.dec d10_16) (XS.icmpYes C0.here C0.hx rfl (pc0 := 17) rfl (C0.dec d10_17) rfl (XT.ii_ne_t (by decide)) (by decide) rfl (XS.iloadN C0.here C0.hx rfl (C0.dec d10_35) rfl (XS.iconst C0.here C0.hx rfl (C0.dec d10_36) (XS.icmpYes C0.here C0.hx rfl (pc0 := 37) rfl (C0.dec d10_37) rfl (XT.ii_ne_t (by decide)) (by decide) rfl kk_)))))))) ?_
  refine Endw.st (T' := T0) (g' := (mkF m 122 #[.val (.int (6 : Int32)), .val (.int x0), .val (.int x1), .val (.int x2), .val (.int x3), .val (.int x4), .val (.int x5), .val (.int x6), .val (.int x7)] [(.int (5 : Int32)), (.int (6 : Int32))])) (fun tt_ kk_ => XS.iloadN C0.here C0.hx rfl (C0.dec d10_59) rfl (XS.iconst C0.here C0.hx rfl (C0.dec d10_60) (XS.icmpYes C0.here C0.hx rfl (pc0 := 61) rfl (C0.dec d10_61) rfl (XT.ii_ne_t (by decide)) (by decide) rfl (XS.iloadN C0.here C0.hx rfl (C0.dec d10_87) rfl (XS.iconst C0.here C0.hx rfl (C0.dec d10_88) (XS.icmpYes C0.here C0.hx rfl (pc0 := 89) rfl (C0.dec d10_89) rfl (XT.ii_ne_t (by decide)) (by decide) rfl (XS.iloadN C0.here C0.hx rfl (C0.dec d10_120) rfl (XS.iconst C0.here C0.hx rfl (C0.dec d10_121) kk_)))))))) ?_
  refine Endw.st (T' := T0) (g' := (mkF m 164 #[.val (.int (6 : Int32)), .val (.int x0), .val (.int x1), .val (.int x2), .val (.int x3), .val (.int x4), .val (.int x5), .val (.int x6), .val (.int x7)] [])) (fun tt_ kk_ => XS.icmpYes C0.here C0.hx rfl (pc0 := 122) rfl (C0.dec d10_122) rfl (XT.ii_ne_t (by decide)) (by decide) rfl (XS.iloadN C0.here C0.hx rfl (C0.dec d10_158) rfl (XS.bipush C0.here C0.hx rfl (C0.dec d10_159) (XS.icmpNo C0.here C0.hx rfl (C0.dec d10_161) rfl (XT.ii_ne_f (by decide)) kk_)))) ?_
  refine C0.new (W8 hw) (W9 hw) (W10 hw) d10_164 (pc' := 167) rfl (by decide) (by decide) ?_
  intro T1 h1 a1 C1 K1 A1 ge1 zg1 E1 D1 S1
  show Endw p e below T1 (mkF m 167 #[.val (.int (6 : Int32)), .val (.int x0), .val (.int x1), .val (.int x2), .val (.int x3), .val (.int x4), .val (.int x5), .val (.int x6), .val (.int x7)] [(.ref a1)]) _
  refine Endw.st (T' := T1) (g' := (mkF m 170 #[.val (.int (6 : Int32)), .val (.int x0), .val (.int x1), .val (.int x2), .val (.int x3), .val (.int x4), .val (.int x5), .val (.int x6), .val (.int x7)] [(.int (6 : Int32)), (.ref a1), (.ref a1)])) (fun tt_ kk_ => XS.dup C1.here C1.hx rfl (C1.dec d10_167) rfl rfl (XS.bipush C1.here C1.hx rfl (C1.dec d10_168) kk_)) ?_
  refine C1.newA (aty := .char) (z := (6 : Int32)) (cap := 6) (vs := [(.int 0), (.int 0), (.int 0), (.int 0), (.int 0), (.int 0)]) (W11 hw) d10_170 (pc' := 172) rfl (by decide) (by decide) (by decide) (by decide) (by decide) rfl ?_
  intro T2 h2 a2 kA2 C2 K2 A2 ge2 zg2 V2 S2
  show Endw p e below T2 (mkF m 172 #[.val (.int (6 : Int32)), .val (.int x0), .val (.int x1), .val (.int x2), .val (.int x3), .val (.int x4), .val (.int x5), .val (.int x6), .val (.int x7)] [(.ref a2), (.ref a1), (.ref a1)]) _
  refine Endw.st (T' := T2) (g' := (mkF m 175 #[.val (.int (6 : Int32)), .val (.int x0), .val (.int x1), .val (.int x2), .val (.int x3), .val (.int x4), .val (.int x5), .val (.int x6), .val (.int x7)] [(.int x0), (.int (0 : Int32)), (.ref a2), (.ref a2), (.ref a1), (.ref a1)])) (fun tt_ kk_ => XS.dup C2.here C2.hx rfl (C2.dec d10_172) rfl rfl (XS.iconst C2.here C2.hx rfl (C2.dec d10_173) (XS.iloadN C2.here C2.hx rfl (C2.dec d10_174) rfl kk_))) ?_
  refine C2.castore V2 ⟨by decide, by decide⟩ 0 (by decide) (Nat.le_of_ble_eq_true rfl) (x' := x0) (own_i2c16 p0) zg2 (vs' := [(.int x0), (.int 0), (.int 0), (.int 0), (.int 0), (.int 0)]) rfl d10_175 (pc' := 176) rfl ?_
  intro T3 h3 C3 K3 A3 V3
  show Endw p e below T3 (mkF m 176 #[.val (.int (6 : Int32)), .val (.int x0), .val (.int x1), .val (.int x2), .val (.int x3), .val (.int x4), .val (.int x5), .val (.int x6), .val (.int x7)] [(.ref a2), (.ref a1), (.ref a1)]) _
  refine Endw.st (T' := T3) (g' := (mkF m 179 #[.val (.int (6 : Int32)), .val (.int x0), .val (.int x1), .val (.int x2), .val (.int x3), .val (.int x4), .val (.int x5), .val (.int x6), .val (.int x7)] [(.int x1), (.int (1 : Int32)), (.ref a2), (.ref a2), (.ref a1), (.ref a1)])) (fun tt_ kk_ => XS.dup C3.here C3.hx rfl (C3.dec d10_176) rfl rfl (XS.iconst C3.here C3.hx rfl (C3.dec d10_177) (XS.iloadN C3.here C3.hx rfl (C3.dec d10_178) rfl kk_))) ?_
  refine C3.castore V3 ⟨by decide, by decide⟩ 1 (by decide) (Nat.le_of_ble_eq_true rfl) (x' := x1) (own_i2c16 p1) zg2 (vs' := [(.int x0), (.int x1), (.int 0), (.int 0), (.int 0), (.int 0)]) rfl d10_179 (pc' := 180) rfl ?_
  intro T4 h4 C4 K4 A4 V4
  replace K4 := Keep.trans K3 K4 (allS (Or.inl (by simp)) all0)
  replace A4 := CHr.trans A3 A4
  clear C3 V3 K3 A3 T3 h3
  show Endw p e below T4 (mkF m 180 #[.val (.int (6 : Int32)), .val (.int x0), .val (.int x1), .val (.int x2), .val (.int x3), .val (.int x4), .val (.int x5), .val (.int x6), .val (.int x7)] [(.ref a2), (.ref a1), (.ref a1)]) _
  refine Endw.st (T' := T4) (g' := (mkF m 183 #[.val (.int (6 : Int32)), .val (.int x0), .val (.int x1), .val (.int x2), .val (.int x3), .val (.int x4), .val (.int x5), .val (.int x6), .val (.int x7)] [(.int x2), (.int (2 : Int32)), (.ref a2), (.ref a2), (.ref a1), (.ref a1)])) (fun tt_ kk_ => XS.dup C4.here C4.hx rfl (C4.dec d10_180) rfl rfl (XS.iconst C4.here C4.hx rfl (C4.dec d10_181) (XS.iloadN C4.here C4.hx rfl (C4.dec d10_182) rfl kk_))) ?_
  refine C4.castore V4 ⟨by decide, by decide⟩ 2 (by decide) (Nat.le_of_ble_eq_true rfl) (x' := x2) (own_i2c16 p2) zg2 (vs' := [(.int x0), (.int x1), (.int x2), (.int 0), (.int 0), (.int 0)]) rfl d10_183 (pc' := 184) rfl ?_
  intro T5 h5 C5 K5 A5 V5
  replace K5 := Keep.trans K4 K5 (allS (Or.inl (by simp)) all0)
  replace A5 := CHr.trans A4 A5
  clear C4 V4 K4 A4 T4 h4
  show Endw p e below T5 (mkF m 184 #[.val (.int (6 : Int32)), .val (.int x0), .val (.int x1), .val (.int x2), .val (.int x3), .val (.int x4), .val (.int x5), .val (.int x6), .val (.int x7)] [(.ref a2), (.ref a1), (.ref a1)]) _
  refine Endw.st (T' := T5) (g' := (mkF m 188 #[.val (.int (6 : Int32)), .val (.int x0), .val (.int x1), .val (.int x2), .val (.int x3), .val (.int x4), .val (.int x5), .val (.int x6), .val (.int x7)] [(.int x3), (.int (3 : Int32)), (.ref a2), (.ref a2), (.ref a1), (.ref a1)])) (fun tt_ kk_ => XS.dup C5.here C5.hx rfl (C5.dec d10_184) rfl rfl (XS.iconst C5.here C5.hx rfl (C5.dec d10_185) (XS.iload C5.here C5.hx rfl (C5.dec d10_186) rfl kk_))) ?_
  refine C5.castore V5 ⟨by decide, by decide⟩ 3 (by decide) (Nat.le_of_ble_eq_true rfl) (x' := x3) (own_i2c16 p3) zg2 (vs' := [(.int x0), (.int x1), (.int x2), (.int x3), (.int 0), (.int 0)]) rfl d10_188 (pc' := 189) rfl ?_
  intro T6 h6 C6 K6 A6 V6
  replace K6 := Keep.trans K5 K6 (allS (Or.inl (by simp)) all0)
  replace A6 := CHr.trans A5 A6
  clear C5 V5 K5 A5 T5 h5
  show Endw p e below T6 (mkF m 189 #[.val (.int (6 : Int32)), .val (.int x0), .val (.int x1), .val (.int x2), .val (.int x3), .val (.int x4), .val (.int x5), .val (.int x6), .val (.int x7)] [(.ref a2), (.ref a1), (.ref a1)]) _
  refine Endw.st (T' := T6) (g' := (mkF m 193 #[.val (.int (6 : Int32)), .val (.int x0), .val (.int x1), .val (.int x2), .val (.int x3), .val (.int x4), .val (.int x5), .val (.int x6), .val (.int x7)] [(.int x4), (.int (4 : Int32)), (.ref a2), (.ref a2), (.ref a1), (.ref a1)])) (fun tt_ kk_ => XS.dup C6.here C6.hx rfl (C6.dec d10_189) rfl rfl (XS.iconst C6.here C6.hx rfl (C6.dec d10_190) (XS.iload C6.here C6.hx rfl (C6.dec d10_191) rfl kk_))) ?_
  refine C6.castore V6 ⟨by decide, by decide⟩ 4 (by decide) (Nat.le_of_ble_eq_true rfl) (x' := x4) (own_i2c16 p4) zg2 (vs' := [(.int x0), (.int x1), (.int x2), (.int x3), (.int x4), (.int 0)]) rfl d10_193 (pc' := 194) rfl ?_
  intro T7 h7 C7 K7 A7 V7
  replace K7 := Keep.trans K6 K7 (allS (Or.inl (by simp)) all0)
  replace A7 := CHr.trans A6 A7
  clear C6 V6 K6 A6 T6 h6
  show Endw p e below T7 (mkF m 194 #[.val (.int (6 : Int32)), .val (.int x0), .val (.int x1), .val (.int x2), .val (.int x3), .val (.int x4), .val (.int x5), .val (.int x6), .val (.int x7)] [(.ref a2), (.ref a1), (.ref a1)]) _
  refine Endw.st (T' := T7) (g' := (mkF m 198 #[.val (.int (6 : Int32)), .val (.int x0), .val (.int x1), .val (.int x2), .val (.int x3), .val (.int x4), .val (.int x5), .val (.int x6), .val (.int x7)] [(.int x5), (.int (5 : Int32)), (.ref a2), (.ref a2), (.ref a1), (.ref a1)])) (fun tt_ kk_ => XS.dup C7.here C7.hx rfl (C7.dec d10_194) rfl rfl (XS.iconst C7.here C7.hx rfl (C7.dec d10_195) (XS.iload C7.here C7.hx rfl (C7.dec d10_196) rfl kk_))) ?_
  refine C7.castore V7 ⟨by decide, by decide⟩ 5 (by decide) (Nat.le_of_ble_eq_true rfl) (x' := x5) (own_i2c16 p5) zg2 (vs' := [(.int x0), (.int x1), (.int x2), (.int x3), (.int x4), (.int x5)]) rfl d10_198 (pc' := 199) rfl ?_
  intro T8 h8 C8 K8 A8 V8
  replace K8 := Keep.trans K7 K8 (allS (Or.inl (by simp)) all0)
  replace A8 := CHr.trans A7 A8
  clear C7 V7 K7 A7 T7 h7
  show Endw p e below T8 (mkF m 199 #[.val (.int (6 : Int32)), .val (.int x0), .val (.int x1), .val (.int x2), .val (.int x3), .val (.int x4), .val (.int x5), .val (.int x6), .val (.int x7)] [(.ref a2), (.ref a1), (.ref a1)]) _
  have f9 := ((E1.keep K2).keep K8)
  have f10 : Fld Z h1 a1 "java/lang/String" "value" "[B" .null := D1 (Or.inr (W24 hw)) (ty := (.array .byte)) (by decide)
  have f11 := ((f10.keep K2 nin0).keep K8 (ninS (Nat.ne_of_lt (Nat.lt_of_lt_of_le E1.lt ge2)) nin0))
  have f12 : Fld Z h1 a1 "java/lang/String" "coder" "B" (.int (0 : Int32)) := D1 (Or.inr (W25 hw)) (ty := .byte) (by decide)
  have f13 := ((f12.keep K2 nin0).keep K8 (ninS (Nat.ne_of_lt (Nat.lt_of_lt_of_le E1.lt ge2)) nin0))
  have f15 := (A8.safe (Nat.lt_of_lt_of_le E1.lt K2.1) (A2.safe E1.lt S1))
  refine C8.special (y := (⟨"java/lang/String", "<init>", "([C)V"⟩ : MethodName)) (W := 1) (a := a1) (argsL := [(.ref a2)]) (rest := [(.ref a1)]) rfl (W12 hw) (W13 hw) (W14 hw) (W10 hw) (by decide) (rm_New1 l Z a0 EL G a1 a2 kA2 [x0, x1, x2, x3, x4, x5] h8 C8.old f9 f11 f13 zg1 V8 (Nat.le_of_ble_eq_true rfl) (Nat.le_of_ble_eq_true rfl) (own_cS p0 (own_cS p1 (own_cS p2 (own_cS p3 (own_cS p4 (own_cS p5 own_c0))))))) (fun _ => rfl) rfl (allS ⟨(Nat.lt_of_lt_of_le E1.lt (Nat.le_trans K2.1 K8.1)), f15⟩ all0) (by decide) (by decide) (by decide) (by decide) (lenOf pd_285b432956 rfl) rfl (Nat.le_of_ble_eq_true rfl) rfl d10_199 (pc' := 202) rfl ?_
  intro vm14 T14 h14 v14 C14 A14 M14 q14
  obtain ⟨rfl, K14, t14, kb14, Y14⟩ := q14
  show Endw p e below T14 (mkF m 202 #[.val (.int (6 : Int32)), .val (.int x0), .val (.int x1), .val (.int x2), .val (.int x3), .val (.int x4), .val (.int x5), .val (.int x6), .val (.int x7)] [(.ref a1)]) _
  exact C14.retA (t := (.object "java/lang/String")) rfl rfl rfl rfl d10_202 (by decide) (by decide) ⟨a1, t14, kb14, rfl, (Keep.trans (Keep.trans (Keep.trans (Keep.trans (Keep.refl h []) K1 all0) K2 all0) K8 (allS (Or.inr (Nat.le_trans K1.1 ge2)) all0)) K14 (allS (Or.inr ge1) all0)), ge1, Y14⟩
set_option maxRecDepth 65536 in
set_option maxHeartbeats 40000000 in
theorem rm_make7 (l : Launch) (Z : State) (a0 : Array Value) (EL : List (String × Nat)) (G : Glob Z a0 EL) (x0 x1 x2 x3 x4 x5 x6 x7 : Int32) (h : Heap) (O : Ext Z.heap h) (p0 : C16 x0) (p1 : C16 x1) (p2 : C16 x2) (p3 : C16 x3) (p4 : C16 x4) (p5 : C16 x5) (p6 : C16 x6) :
    Met l Z EL true (⟨"com/example/cohabit/cohabit/NumbersIsDecimalPinLaw", "make", "(ICCCCCCCC)Ljava/lang/String;"⟩ : MethodName) method_4_code 9 (some (.object "java/lang/String")) [] ({ frames := 6, cells := 4, slots := 35, locals := 88 } : Room) #[(.int (7 : Int32)), (.int x0), (.int x1), (.int x2), (.int x3), (.int x4), (.int x5), (.int x6), (.int x7)] h [] (fun r h' => ∃ (a t : Addr) (kb : ClassId), r = some (.ref a) ∧ Keep h h' [] ∧ h.size ≤ a ∧ Txt Z h' a t kb [x0, x1, x2, x3, x4, x5, x6]) := by
  have hw := G.hw
  obtain ⟨zc, Sc, hzc⟩ := G.cs
  obtain ⟨vf, Sf, hvf⟩ := G.fm
  obtain Sa := G.u1
  obtain Sh := G.u2
  obtain Sl := G.u3
  refine Met.of (plainFor_of_name pn_50696e4c6177_1) G.ew O ?_
  intro p e s m below meth c T0 C0 S0
  refine Endw.eq (g' := mkF m 0 #[.val (.int (7 : Int32)), .val (.int x0), .val (.int x1), .val (.int x2), .val (.int x3), .val (.int x4), .val (.int x5), .val (.int x6), .val (.int x7)] []) (by simp [entryFrame, mkF, argsToLocals, own_cI, own_cR, own_cN, own_cJ, own_cD, maxLocals]) ?_
  refine Endw.st (T' := T0) (g' := (mkF m 59 #[.val (.int (7 : Int32)), .val (.int x0), .val (.int x1), .val (.int x2), .val (.int x3), .val (.int x4), .val (.int x5), .val (.int x6), .val (.int x7)] [])) (fun tt_ kk_ => XS.iloadN C0.here C0.hx rfl (C0.dec d10_0) rfl (XS.ifYes C0.here C0.hx rfl (pc0 := 1) rfl (C0.dec d10_1) rfl (XT.i0_ne_t (by decide)) (by decide) rfl (XS.iloadN C0.here C0.hx rfl (C0.dec d10_15) rfl (XS.iconst C0.here C0.hx rfl (C0.dec d10_16) (XS.icmpYes C0.here C0.hx rfl (pc0 := 17) rfl (C0.dec d10_17) rfl (XT.ii_ne_t (by decide)) (by decide) rfl (XS.iloadN C0.here C0.hx rfl (C0.dec d10_35) rfl (XS.iconst C0.here C0.hx rfl (C0.dec d10_36) (XS.icmpYes C0.here C0.hx rfl (pc0 := 37) rfl (C0.dec d10_37) rfl (XT.ii_ne_t (by decide)) (by decide) rfl kk_)))))))) ?_
  refine Endw.st (T' := T0) (g' := (mkF m 122 #[.val (.int (7 : Int32)), .val (.int x0), .val (.int x1), .val (.int x2), .val (.int x3), .val (.int x4), .val (.int x5), .val (.int x6), .val (.int x7)] [(.int (5 : Int32)), (.int (7 : Int32))])) (fun tt_ kk_ => XS.iloadN C0.here C0.hx rfl (C0.dec d10_59) rfl (XS.iconst C0.here C0.hx rfl (C0.dec d10_60) (XS.icmpYes C0.here C0.hx rfl (pc0 := 61) rfl (C0.dec d10_61) rfl (XT.ii_ne_t (by decide)) (by decide) rfl (XS.iloadN C0.here C0.hx rfl (C0.dec d10_87) rfl (XS.iconst C0.here C0.hx rfl (C0.dec d10_88) (XS.icmpYes C0.here C0.hx rfl (pc0 := 89) rfl (C0.dec d10_89) rfl (XT.ii_ne_t (by decide)) (by decide) rfl (XS.iloadN C0.here C0.hx rfl (C0.dec d10_120) rfl (XS.iconst C0.here C0.hx rfl (C0.dec d10_121) kk_)))))))) ?_
  refine Endw.st (T' := T0) (g' := (mkF m 209 #[.val (.int (7 : Int32)), .val (.int x0), .val (.int x1), .val (.int x2), .val (.int x3), .val (.int x4), .val (.int x5), .val (.int x6), .val (.int x7)] [])) (fun tt_ kk_ => XS.icmpYes C0.here C0.hx rfl (pc0 := 122) rfl (C0.dec d10_122) rfl (XT.ii_ne_t (by decide)) (by decide) rfl (XS.iloadN C0.here C0.hx rfl (C0.dec d10_158) rfl (XS.bipush C0.here C0.hx rfl (C0.dec d10_159) (XS.icmpYes C0.here C0.hx rfl (pc0 := 161) rfl (C0.dec d10_161) rfl (XT.ii_ne_t (by decide)) (by decide) rfl (XS.iloadN C0.here C0.hx rfl (C0.dec d10_203) rfl (XS.bipush C0.here C0.hx rfl (C0.dec d10_204) (XS.icmpNo C0.here C0.hx rfl (C0.dec d10_206) rfl (XT.ii_ne_f (by decide)) kk_))))))) ?_
  refine C0.new (W8 hw) (W9 hw) (W10 hw) d10_209 (pc' := 212) rfl (by decide) (by decide) ?_
  intro T1 h1 a1 C1 K1 A1 ge1 zg1 E1 D1 S1
  show Endw p e below T1 (mkF m 212 #[.val (.int (7 : Int32)), .val (.int x0), .val (.int x1), .val (.int x2), .val (.int x3), .val (.int x4), .val (.int x5), .val (.int x6), .val (.int x7)] [(.ref a1)]) _
  refine Endw.st (T' := T1) (g' := (mkF m 215 #[.val (.int (7 : Int32)), .val (.int x0), .val (.int x1), .val (.int x2), .val (.int x3), .val (.int x4), .val (.int x5), .val (.int x6), .val (.int x7)] [(.int (7 : Int32)), (.ref a1), (.ref a1)])) (fun tt_ kk_ => XS.dup C1.here C1.hx rfl (C1.dec d10_212) rfl rfl (XS.bipush C1.here C1.hx rfl (C1.dec d10_213) kk_)) ?_
  refine C1.newA (aty := .char) (z := (7 : Int32)) (cap := 7) (vs := [(.int 0), (.int 0), (.int 0), (.int 0), (.int 0), (.int 0), (.int 0)]) (W11 hw) d10_215 (pc' := 217) rfl (by decide) (by decide) (by decide) (by decide) (by decide) rfl ?_
  intro T2 h2 a2 kA2 C2 K2 A2 ge2 zg2 V2 S2
  show Endw p e below T2 (mkF m 217 #[.val (.int (7 : Int32)), .val (.int x0), .val (.int x1), .val (.int x2), .val (.int x3), .val (.int x4), .val (.int x5), .val (.int x6), .val (.int x7)] [(.ref a2), (.ref a1), (.ref a1)]) _
  refine Endw.st (T' := T2) (g' := (mkF m 220 #[.val (.int (7 : Int32)), .val (.int x0), .val (.int x1), .val (.int x2), .val (.int x3), .val (.int x4), .val (.int x5), .val (.int x6), .val (.int x7)] [(.int x0), (.int (0 : Int32)), (.ref a2), (.ref a2), (.ref a1), (.ref a1)])) (fun tt_ kk_ => XS.dup C2.here C2.hx rfl (C2.dec d10_217) rfl rfl (XS.iconst C2.here C2.hx rfl (C2.dec d10_218) (XS.iloadN C2.here C2.hx rfl (C2.dec d10_219) rfl kk_))) ?_
  refine C2.castore V2 ⟨by decide, by decide⟩ 0 (by decide) (Nat.le_of_ble_eq_true rfl) (x' := x0) (own_i2c16 p0) zg2 (vs' := [(.int x0), (.int 0), (.int 0), (.int 0), (.int 0), (.int 0), (.int 0)]) rfl d10_220 (pc' := 221) rfl ?_
  intro T3 h3 C3 K3 A3 V3
  show Endw p e below T3 (mkF m 221 #[.val (.int (7 : Int32)), .val (.int x0), .val (.int x1), .val (.int x2), .val (.int x3), .val (.int x4), .val (.int x5), .val (.int x6), .val (.int x7)] [(.ref a2), (.ref a1), (.ref a1)]) _
  refine Endw.st (T' := T3) (g' := (mkF m 224 #[.val (.int (7 : Int32)), .val (.int x0), .val (.int x1), .val (.int x2), .val (.int x3), .val (.int x4), .val (.int x5), .val (.int x6), .val (.int x7)] [(.int x1), (.int (1 : Int32)), (.ref a2), (.ref a2), (.ref a1), (.ref a1)])) (fun tt_ kk_ => XS.dup C3.here C3.hx rfl (C3.dec d10_221) rfl rfl (XS.iconst C3.here C3.hx rfl (C3.dec d10_222) (XS.iloadN C3.here C3.hx rfl (C3.dec d10_223) rfl kk_))) ?_
  refine C3.castore V3 ⟨by decide, by decide⟩ 1 (by decide) (Nat.le_of_ble_eq_true rfl) (x' := x1) (own_i2c16 p1) zg2 (vs' := [(.int x0), (.int x1), (.int 0), (.int 0), (.int 0), (.int 0), (.int 0)]) rfl d10_224 (pc' := 225) rfl ?_
  intro T4 h4 C4 K4 A4 V4
  replace K4 := Keep.trans K3 K4 (allS (Or.inl (by simp)) all0)
  replace A4 := CHr.trans A3 A4
  clear C3 V3 K3 A3 T3 h3
  show Endw p e below T4 (mkF m 225 #[.val (.int (7 : Int32)), .val (.int x0), .val (.int x1), .val (.int x2), .val (.int x3), .val (.int x4), .val (.int x5), .val (.int x6), .val (.int x7)] [(.ref a2), (.ref a1), (.ref a1)]) _
  refine Endw.st (T' := T4) (g' := (mkF m 228 #[.val (.int (7 : Int32)), .val (.int x0), .val (.int x1), .val (.int x2), .val (.int x3), .val (.int x4), .val (.int x5), .val (.int x6), .val (.int x7)] [(.int x2), (.int (2 : Int32)), (.ref a2), (.ref a2), (.ref a1), (.ref a1)])) (fun tt_ kk_ => XS.dup C4.here C4.hx rfl (C4.dec d10_225) rfl rfl (XS.iconst C4.here C4.hx rfl (C4.dec d10_226) (XS.iloadN C4.here C4.hx rfl (C4.dec d10_227) rfl kk_))) ?_
  refine C4.castore V4 ⟨by decide, by decide⟩ 2 (by decide) (Nat.le_of_ble_eq_true rfl) (x' := x2) (own_i2c16 p2) zg2 (vs' := [(.int x0), (.int x1), (.int x2), (.int 0), (.int 0), (.int 0), (.int 0)]) rfl d10_228 (pc' := 229) rfl ?_
  intro T5 h5 C5 K5 A5 V5
  replace K5 := Keep.trans K4 K5 (allS (Or.inl (by simp)) all0)
  replace A5 := CHr.trans A4 A5
  clear C4 V4 K4 A4 T4 h4
  show Endw p e below T5 (mkF m 229 #[.val (.int (7 : Int32)), .val (.int x0), .val (.int x1), .val (.int x2), .val (.int x3), .val (.int x4), .val (.int x5), .val (.int x6), .val (.int x7)] [(.ref a2), (.ref a1), (.ref a1)]) _
  refine Endw.st (T' := T5) (g' := (mkF m 233 #[.val (.int (7 : Int32)), .val (.int x0), .val (.int x1), .val (.int x2), .val (.int x3), .val (.int x4), .val (.int x5), .val (.int x6), .val (.int x7)] [(.int x3), (.int (3 : Int32)), (.ref a2), (.ref a2), (.ref a1), (.ref a1)])) (fun tt_ kk_ => XS.dup C5.here C5.hx rfl (C5.dec d10_229) rfl rfl (XS.iconst C5.here C5.hx rfl (C5.dec d10_230) (XS.iload C5.here C5.hx rfl (C5.dec d10_231) rfl kk_))) ?_
  refine C5.castore V5 ⟨by decide, by decide⟩ 3 (by decide) (Nat.le_of_ble_eq_true rfl) (x' := x3) (own_i2c16 p3) zg2 (vs' := [(.int x0), (.int x1), (.int x2), (.int x3), (.int 0), (.int 0), (.int 0)]) rfl d10_233 (pc' := 234) rfl ?_
  intro T6 h6 C6 K6 A6 V6
  replace K6 := Keep.trans K5 K6 (allS (Or.inl (by simp)) all0)
  replace A6 := CHr.trans A5 A6
  clear C5 V5 K5 A5 T5 h5
  show Endw p e below T6 (mkF m 234 #[.val (.int (7 : Int32)), .val (.int x0), .val (.int x1), .val (.int x2), .val (.int x3), .val (.int x4), .val (.int x5), .val (.int x6), .val (.int x7)] [(.ref a2), (.ref a1), (.ref a1)]) _
  refine Endw.st (T' := T6) (g' := (mkF m 238 #[.val (.int (7 : Int32)), .val (.int x0), .val (.int x1), .val (.int x2), .val (.int x3), .val (.int x4), .val (.int x5), .val (.int x6), .val (.int x7)] [(.int x4), (.int (4 : Int32)), (.ref a2), (.ref a2), (.ref a1), (.ref a1)])) (fun tt_ kk_ => XS.dup C6.here C6.hx rfl (C6.dec d10_234) rfl rfl (XS.iconst C6.here C6.hx rfl (C6.dec d10_235) (XS.iload C6.here C6.hx rfl (C6.dec d10_236) rfl kk_))) ?_
  refine C6.castore V6 ⟨by decide, by decide⟩ 4 (by decide) (Nat.le_of_ble_eq_true rfl) (x' := x4) (own_i2c16 p4) zg2 (vs' := [(.int x0), (.int x1), (.int x2), (.int x3), (.int x4), (.int 0), (.int 0)]) rfl d10_238 (pc' := 239) rfl ?_
  intro T7 h7 C7 K7 A7 V7
  replace K7 := Keep.trans K6 K7 (allS (Or.inl (by simp)) all0)
  replace A7 := CHr.trans A6 A7
  clear C6 V6 K6 A6 T6 h6
  show Endw p e below T7 (mkF m 239 #[.val (.int (7 : Int32)), .val (.int x0), .val (.int x1), .val (.int x2), .val (.int x3), .val (.int x4), .val (.int x5), .val (.int x6), .val (.int x7)] [(.ref a2), (.ref a1), (.ref a1)]) _
  refine Endw.st (T' := T7) (g' := (mkF m 243 #[.val (.int (7 : Int32)), .val (.int x0), .val (.int x1), .val (.int x2), .val (.int x3), .val (.int x4), .val (.int x5), .val (.int x6), .val (.int x7)] [(.int x5), (.int (5 : Int32)), (.ref a2), (.ref a2), (.ref a1), (.ref a1)])) (fun tt_ kk_ => XS.dup C7.here C7.hx rfl (C7.dec d10_239) rfl rfl (XS.iconst C7.here C7.hx rfl (C7.dec d10_240) (XS.iload C7.here C7.hx rfl (C7.dec d10_241) rfl kk_))) ?_
  refine C7.castore V7 ⟨by decide, by decide⟩ 5 (by decide) (Nat.le_of_ble_eq_true rfl) (x' := x5) (own_i2c16 p5) zg2 (vs' := [(.int x0), (.int x1), (.int x2), (.int x3), (.int x4), (.int x5), (.int 0)]) rfl d10_243 (pc' := 244) rfl ?_
  intro T8 h8 C8 K8 A8 V8
  replace K8 := Keep.trans K7 K8 (allS (Or.inl (by simp)) all0)
  replace A8 := CHr.trans A7 A8
  clear C7 V7 K7 A7 T7 h7
  show Endw p e below T8 (mkF m 244 #[.val (.int (7 : Int32)), .val (.int x0), .val (.int x1), .val (.int x2), .val (.int x3), .val (.int x4), .val (.int x5), .val (.int x6), .val (.int x7)] [(.ref a2), (.ref a1), (.ref a1)]) _
  refine Endw.st (T' := T8) (g' := (mkF m 249 #[.val (.int (7 : Int32)), .val (.int x0), .val (.int x1), .val (.int x2), .val (.int x3), .val (.int x4), .val (.int x5), .val (.int x6), .val (.int x7)] [(.int x6), (.int (6 : Int32)), (.ref a2), (.ref a2), (.ref a1), (.ref a1)])) (fun tt_ kk_ => XS.dup C8.here C8.hx rfl (C8.dec d10_244) rfl rfl (XS.bipush C8.here C8.hx rfl (C8.dec d10_245) (XS.iload C8.here C8.hx rfl (C8.dec d10_247) rfl kk_))) ?_
  refine C8.castore V8 ⟨by decide, by decide⟩ 6 (by decide) (Nat.le_of_ble_eq_true rfl) (x' := x6) (own_i2c16 p6) zg2 (vs' := [(.int x0), (.int x1), (.int x2), (.int x3), (.int x4), (.int x5), (.int x6)]) rfl d10_249 (pc' := 250) rfl ?_
  intro T9 h9 C9 K9 A9 V9
  replace K9 := Keep.trans K8 K9 (allS (Or.inl (by simp)) all0)
  replace A9 := CHr.trans A8 A9
  clear C8 V8 K8 A8 T8 h8
  show Endw p e below T9 (mkF m 250 #[.val (.int (7 : Int32)), .val (.int x0), .val (.int x1), .val (.int x2), .val (.int x3), .val (.int x4), .val (.int x5), .val (.int x6), .val (.int x7)] [(.ref a2), (.ref a1), (.ref a1)]) _
  have f10 := ((E1.keep K2).keep K9)
  have f11 : Fld Z h1 a1 "java/lang/String" "value" "[B" .null := D1 (Or.inr (W24 hw)) (ty := (.array .byte)) (by decide)
  have f12 := ((f11.keep K2 nin0).keep K9 (ninS (Nat.ne_of_lt (Nat.lt_of_lt_of_le E1.lt ge2)) nin0))
  have f13 : Fld Z h1 a1 "java/lang/String" "coder" "B" (.int (0 : Int32)) := D1 (Or.inr (W25 hw)) (ty := .byte) (by decide)
  have f14 := ((f13.keep K2 nin0).keep K9 (ninS (Nat.ne_of_lt (Nat.lt_of_lt_of_le E1.lt ge2)) nin0))
  have f16 := (A9.safe (Nat.lt_of_lt_of_le E1.lt K2.1) (A2.safe E1.lt S1))
  refine C9.special (y := (⟨"java/lang/String", "<init>", "([C)V"⟩ : MethodName)) (W := 1) (a := a1) (argsL := [(.ref a2)]) (rest := [(.ref a1)]) rfl (W12 hw) (W13 hw) (W14 hw) (W10 hw) (by decide) (rm_New1 l Z a0 EL G a1 a2 kA2 [x0, x1, x2, x3, x4, x5, x6] h9 C9.old f10 f12 f14 zg1 V9 (Nat.le_of_ble_eq_true rfl) (Nat.le_of_ble_eq_true rfl) (own_cS p0 (own_cS p1 (own_cS p2 (own_cS p3 (own_cS p4 (own_cS p5 (own_cS p6 own_c0)))))))) (fun _ => rfl) rfl (allS ⟨(Nat.lt_of_lt_of_le E1.lt (Nat.le_trans K2.1 K9.1)), f16⟩ all0) (by decide) (by decide) (by decide) (by decide) (lenOf pd_285b432956 rfl) rfl (Nat.le_of_ble_eq_true rfl) rfl d10_250 (pc' := 253) rfl ?_
  intro vm15 T15 h15 v15 C15 A15 M15 q15
  obtain ⟨rfl, K15, t15, kb15, Y15⟩ := q15
  show Endw p e below T15 (mkF m 253 #[.val (.int (7 : Int32)), .val (.int x0), .val (.int x1), .val (.int x2), .val (.int x3), .val (.int x4), .val (.int x5), .val (.int x6), .val (.int x7)] [(.ref a1)]) _
  exact C15.retA (t := (.object "java/lang/String")) rfl rfl rfl rfl d10_253 (by decide) (by decide) ⟨a1, t15, kb15, rfl, (Keep.trans (Keep.trans (Keep.trans (Keep.trans (Keep.refl h []) K1 all0) K2 all0) K9 (allS (Or.inr (Nat.le_trans K1.1 ge2)) all0)) K15 (allS (Or.inr ge1) all0)), ge1, Y15⟩
set_option maxRecDepth 65536 in
set_option maxHeartbeats 40000000 in
theorem rm_make8 (l : Launch) (Z : State) (a0 : Array Value) (EL : List (String × Nat)) (G : Glob Z a0 EL) (x0 x1 x2 x3 x4 x5 x6 x7 : Int32) (h : Heap) (O : Ext Z.heap h) (p0 : C16 x0) (p1 : C16 x1) (p2 : C16 x2) (p3 : C16 x3) (p4 : C16 x4) (p5 : C16 x5) (p6 : C16 x6) (p7 : C16 x7) :
    Met l Z EL true (⟨"com/example/cohabit/cohabit/NumbersIsDecimalPinLaw", "make", "(ICCCCCCCC)Ljava/lang/String;"⟩ : MethodName) method_4_code 9 (some (.object "java/lang/String")) [] ({ frames := 6, cells := 4, slots := 36, locals := 88 } : Room) #[(.int (8 : Int32)), (.int x0), (.int x1), (.int x2), (.int x3), (.int x4), (.int x5), (.int x6), (.int x7)] h [] (fun r h' => ∃ (a t : Addr) (kb : ClassId), r = some (.ref a) ∧ Keep h h' [] ∧ h.size ≤ a ∧ Txt Z h' a t kb [x0, x1, x2, x3, x4, x5, x6, x7]) := by
  have hw := G.hw
  obtain ⟨zc, Sc, hzc⟩ := G.cs
  obtain ⟨vf, Sf, hvf⟩ := G.fm
  obtain Sa := G.u1
  obtain Sh := G.u2
  obtain Sl := G.u3
  refine Met.of (plainFor_of_name pn_50696e4c6177_1) G.ew O ?_
  intro p e s m below meth c T0 C0 S0
  refine Endw.eq (g' := mkF m 0 #[.val (.int (8 : Int32)), .val (.int x0), .val (.int x1), .val (.int x2), .val (.int x3), .val (.int x4), .val (.int x5), .val (.int x6), .val (.int x7)] []) (by simp [entryFrame, mkF, argsToLocals, own_cI, own_cR, own_cN, own_cJ, own_cD, maxLocals]) ?_
  refine Endw.st (T' := T0) (g' := (mkF m 59 #[.val (.int (8 : Int32)), .val (.int x0), .val (.int x1), .val (.int x2), .val (.int x3), .val (.int x4), .val (.int x5), .val (.int x6), .val (.int x7)] [])) (fun tt_ kk_ => XS.iloadN C0.here C0.hx rfl (C0.dec d10_0) rfl (XS.ifYes C0.here C0.hx rfl (pc0 := 1) rfl (C0.dec d10_1) rfl (XT.i0_ne_t (by decide)) (by decide) rfl (XS.iloadN C0.here C0.hx rfl (C0.dec d10_15) rfl (XS.iconst C0.here C0.hx rfl (C0.dec d10_16) (XS.icmpYes C0.here C0.hx rfl (pc0 := 17) rfl (C0.dec d10_17) rfl (XT.ii_ne_t (by decide)) (by decide) rfl (XS.iloadN C0.here C0.hx rfl (C0.dec d10_35) rfl (XS.iconst C0.here C0.hx rfl (C0.dec d10_36) (XS.icmpYes C0.here C0.hx rfl (pc0 := 37) rfl (C0.dec d10_37) rfl (XT.ii_ne_t (by decide)) (by decide) rfl kk_)))))))) ?_
  refine Endw.st (T' := T0) (g' := (mkF m 122 #[.val (.int (8 : Int32)), .val (.int x0), .val (.int x1), .val (.int x2), .val (.int x3), .val (.int x4), .val (.int x5), .val (.int x6), .val (.int x7)] [(.int (5 : Int32)), (.int (8 : Int32))])) (fun tt_ kk_ => XS.iloadN C0.here C0.hx rfl (C0.dec d10_59) rfl (XS.iconst C0.here C0.hx rfl (C0.dec d10_60) (XS.icmpYes C0.here C0.hx rfl (pc0 := 61) rfl (C0.dec d10_61) rfl (XT.ii_ne_t (by decide)) (by decide) rfl (XS.iloadN C0.here C0.hx rfl (C0.dec d10_87) rfl (XS.iconst C0.here C0.hx rfl (C0.dec d10_88) (XS.icmpYes C0.here C0.hx rfl (pc0 := 89) rfl (C0.dec d10_89) rfl (XT.ii_ne_t (by decide)) (by decide) rfl (XS.iloadN C0.here C0.hx rfl (C0.dec d10_120) rfl (XS.iconst C0.here C0.hx rfl (C0.dec d10_121) kk_)))))))) ?_
  refine Endw.st (T' := T0) (g' := (mkF m 254 #[.val (.int (8 : Int32)), .val (.int x0), .val (.int x1), .val (.int x2), .val (.int x3), .val (.int x4), .val (.int x5), .val (.int x6), .val (.int x7)] [])) (fun tt_ kk_ => XS.icmpYes C0.here C0.hx rfl (pc0 := 122) rfl (C0.dec d10_122) rfl (XT.ii_ne_t (by decide)) (by decide) rfl (XS.iloadN C0.here C0.hx rfl (C0.dec d10_158) rfl (XS.bipush C0.here C0.hx rfl (C0.dec d10_159) (XS.icmpYes C0.here C0.hx rfl (pc0 := 161) rfl (C0.dec d10_161) rfl (XT.ii_ne_t (by decide)) (by decide) rfl (XS.iloadN C0.here C0.hx rfl (C0.dec d10_203) rfl (XS.bipush C0.here C0.hx rfl (C0.dec d10_204) (XS.icmpYes C0.here C0.hx rfl (pc0 := 206) rfl (C0.dec d10_206) rfl (XT.ii_ne_t (by decide)) (by decide) rfl kk_))))))) ?_
  refine C0.new (W8 hw) (W9 hw) (W10 hw) d10_254 (pc' := 257) rfl (by decide) (by decide) ?_
  intro T1 h1 a1 C1 K1 A1 ge1 zg1 E1 D1 S1
  show Endw p e below T1 (mkF m 257 #[.val (.int (8 : Int32)), .val (.int x0), .val (.int x1), .val (.int x2), .val (.int x3), .val (.int x4), .val (.int x5), .val (.int x6), .val (.int x7)] [(.ref a1)]) _
  refine Endw.st (T' := T1) (g' := (mkF m 260 #[.val (.int (8 : Int32)), .val (.int x0), .val (.int x1), .val (.int x2), .val (.int x3), .val (.int x4), .val (.int x5), .val (.int x6), .val (.int x7)] [(.int (8 : Int32)), (.ref a1), (.ref a1)])) (fun tt_ kk_ => XS.dup C1.here C1.hx rfl (C1.dec d10_257) rfl rfl (XS.bipush C1.here C1.hx rfl (C1.dec d10_258) kk_)) ?_
  refine C1.newA (aty := .char) (z := (8 : Int32)) (cap := 8) (vs := [(.int 0), (.int 0), (.int 0), (.int 0), (.int 0), (.int 0), (.int 0), (.int 0)]) (W11 hw) d10_260 (pc' := 262) rfl (by decide) (by decide) (by decide) (by decide) (by decide) rfl ?_
  intro T2 h2 a2 kA2 C2 K2 A2 ge2 zg2 V2 S2
  show Endw p e below T2 (mkF m 262 #[.val (.int (8 : Int32)), .val (.int x0), .val (.int x1), .val (.int x2), .val (.int x3), .val (.int x4), .val (.int x5), .val (.int x6), .val (.int x7)] [(.ref a2), (.ref a1), (.ref a1)]) _
  refine Endw.st (T' := T2) (g' := (mkF m 265 #[.val (.int (8 : Int32)), .val (.int x0), .val (.int x1), .val (.int x2), .val (.int x3), .val (.int x4), .val (.int x5), .val (.int x6), .val (.int x7)] [(.int x0), (.int (0 : Int32)), (.ref a2), (.ref a2), (.ref a1), (.ref a1)])) (fun tt_ kk_ => XS.dup C2.here C2.hx rfl (C2.dec d10_262) rfl rfl (XS.iconst C2.here C2.hx rfl (C2.dec d10_263) (XS.iloadN C2.here C2.hx rfl (C2.dec d10_264) rfl kk_))) ?_
  refine C2.castore V2 ⟨by decide, by decide⟩ 0 (by decide) (Nat.le_of_ble_eq_true rfl) (x' := x0) (own_i2c16 p0) zg2 (vs' := [(.int x0), (.int 0), (.int 0), (.int 0), (.int 0), (.int 0), (.int 0), (.int 0)]) rfl d10_265 (pc' := 266) rfl ?_
  intro T3 h3 C3 K3 A3 V3
  show Endw p e below T3 (mkF m 266 #[.val (.int (8 : Int32)), .val (.int x0), .val (.int x1), .val (.int x2), .val (.int x3), .val (.int x4), .val (.int x5), .val (.int x6), .val (.int x7)] [(.ref a2), (.ref a1), (.ref a1)]) _
  refine Endw.st (T' := T3) (g' := (mkF m 269 #[.val (.int (8 : Int32)), .val (.int x0), .val (.int x1), .val (.int x2), .val (.int x3), .val (.int x4), .val (.int x5), .val (.int x6), .val (.int x7)] [(.int x1), (.int (1 : Int32)), (.ref a2), (.ref a2), (.ref a1), (.ref a1)])) (fun tt_ kk_ => XS.dup C3.here C3.hx rfl (C3.dec d10_266) rfl rfl (XS.iconst C3.here C3.hx rfl (C3.dec d10_267) (XS.iloadN C3.here C3.hx rfl (C3.dec d10_268) rfl kk_))) ?_
  refine C3.castore V3 ⟨by decide, by decide⟩ 1 (by decide) (Nat.le_of_ble_eq_true rfl) (x' := x1) (own_i2c16 p1) zg2 (vs' := [(.int x0), (.int x1), (.int 0), (.int 0), (.int 0), (.int 0), (.int 0), (.int 0)]) rfl d10_269 (pc' := 270) rfl ?_
  intro T4 h4 C4 K4 A4 V4
  replace K4 := Keep.trans K3 K4 (allS (Or.inl (by simp)) all0)
  replace A4 := CHr.trans A3 A4
  clear C3 V3 K3 A3 T3 h3
  show Endw p e below T4 (mkF m 270 #[.val (.int (8 : Int32)), .val (.int x0), .val (.int x1), .val (.int x2), .val (.int x3), .val (.int x4), .val (.int x5), .val (.int x6), .val (.int x7)] [(.ref a2), (.ref a1), (.ref a1)]) _
  refine Endw.st (T' := T4) (g' := (mkF m 273 #[.val (.int (8 : Int32)), .val (.int x0), .val (.int x1), .val (.int x2), .val (.int x3), .val (.int x4), .val (.int x5), .val (.int x6), .val (.int x7)] [(.int x2), (.int (2 : Int32)), (.ref a2), (.ref a2), (.ref a1), (.ref a1)])) (fun tt_ kk_ => XS.dup C4.here C4.hx rfl (C4.dec d10_270) rfl rfl (XS.iconst C4.here C4.hx rfl (C4.dec d10_271) (XS.iloadN C4.here C4.hx rfl (C4.dec d10_272) rfl kk_))) ?_
  refine C4.castore V4 ⟨by decide, by decide⟩ 2 (by decide) (Nat.le_of_ble_eq_true rfl) (x' := x2) (own_i2c16 p2) zg2 (vs' := [(.int x0), (.int x1), (.int x2), (.int 0), (.int 0), (.int 0), (.int 0), (.int 0)]) rfl d10_273 (pc' := 274) rfl ?_
  intro T5 h5 C5 K5 A5 V5
  replace K5 := Keep.trans K4 K5 (allS (Or.inl (by simp)) all0)
  replace A5 := CHr.trans A4 A5
  clear C4 V4 K4 A4 T4 h4
  show Endw p e below T5 (mkF m 274 #[.val (.int (8 : Int32)), .val (.int x0), .val (.int x1), .val (.int x2), .val (.int x3), .val (.int x4), .val (.int x5), .val (.int x6), .val (.int x7)] [(.ref a2), (.ref a1), (.ref a1)]) _
  refine Endw.st (T' := T5) (g' := (mkF m 278 #[.val (.int (8 : Int32)), .val (.int x0), .val (.int x1), .val (.int x2), .val (.int x3), .val (.int x4), .val (.int x5), .val (.int x6), .val (.int x7)] [(.int x3), (.int (3 : Int32)), (.ref a2), (.ref a2), (.ref a1), (.ref a1)])) (fun tt_ kk_ => XS.dup C5.here C5.hx rfl (C5.dec d10_274) rfl rfl (XS.iconst C5.here C5.hx rfl (C5.dec d10_275) (XS.iload C5.here C5.hx rfl (C5.dec d10_276) rfl kk_))) ?_
  refine C5.castore V5 ⟨by decide, by decide⟩ 3 (by decide) (Nat.le_of_ble_eq_true rfl) (x' := x3) (own_i2c16 p3) zg2 (vs' := [(.int x0), (.int x1), (.int x2), (.int x3), (.int 0), (.int 0), (.int 0), (.int 0)]) rfl d10_278 (pc' := 279) rfl ?_
  intro T6 h6 C6 K6 A6 V6
  replace K6 := Keep.trans K5 K6 (allS (Or.inl (by simp)) all0)
  replace A6 := CHr.trans A5 A6
  clear C5 V5 K5 A5 T5 h5
  show Endw p e below T6 (mkF m 279 #[.val (.int (8 : Int32)), .val (.int x0), .val (.int x1), .val (.int x2), .val (.int x3), .val (.int x4), .val (.int x5), .val (.int x6), .val (.int x7)] [(.ref a2), (.ref a1), (.ref a1)]) _
  refine Endw.st (T' := T6) (g' := (mkF m 283 #[.val (.int (8 : Int32)), .val (.int x0), .val (.int x1), .val (.int x2), .val (.int x3), .val (.int x4), .val (.int x5), .val (.int x6), .val (.int x7)] [(.int x4), (.int (4 : Int32)), (.ref a2), (.ref a2), (.ref a1), (.ref a1)])) (fun tt_ kk_ => XS.dup C6.here C6.hx rfl (C6.dec d10_279) rfl rfl (XS.iconst C6.here C6.hx rfl (C6.dec d10_280) (XS.iload C6.here C6.hx rfl (C6.dec d10_281) rfl kk_))) ?_
  refine C6.castore V6 ⟨by decide, by decide⟩ 4 (by decide) (Nat.le_of_ble_eq_true rfl) (x' := x4) (own_i2c16 p4) zg2 (vs' := [(.int x0), (.int x1), (.int x2), (.int x3), (.int x4), (.int 0), (.int 0), (.int 0)]) rfl d10_283 (pc' := 284) rfl ?_
  intro T7 h7 C7 K7 A7 V7
  replace K7 := Keep.trans K6 K7 (allS (Or.inl (by simp)) all0)
  replace A7 := CHr.trans A6 A7
  clear C6 V6 K6 A6 T6 h6
  show Endw p e below T7 (mkF m 284 #[.val (.int (8 : Int32)), .val (.int x0), .val (.int x1), .val (.int x2), .val (.int x3), .val (.int x4), .val (.int x5), .val (.int x6), .val (.int x7)] [(.ref a2), (.ref a1), (.ref a1)]) _
  refine Endw.st (T' := T7) (g' := (mkF m 288 #[.val (.int (8 : Int32)), .val (.int x0), .val (.int x1), .val (.int x2), .val (.int x3), .val (.int x4), .val (.int x5), .val (.int x6), .val (.int x7)] [(.int x5), (.int (5 : Int32)), (.ref a2), (.ref a2), (.ref a1), (.ref a1)])) (fun tt_ kk_ => XS.dup C7.here C7.hx rfl (C7.dec d10_284) rfl rfl (XS.iconst C7.here C7.hx rfl (C7.dec d10_285) (XS.iload C7.here C7.hx rfl (C7.dec d10_286) rfl kk_))) ?_
  refine C7.castore V7 ⟨by decide, by decide⟩ 5 (by decide) (Nat.le_of_ble_eq_true rfl) (x' := x5) (own_i2c16 p5) zg2 (vs' := [(.int x0), (.int x1), (.int x2), (.int x3), (.int x4), (.int x5), (.int 0), (.int 0)]) rfl d10_288 (pc' := 289) rfl ?_
  intro T8 h8 C8 K8 A8 V8
  replace K8 := Keep.trans K7 K8 (allS (Or.inl (by simp)) all0)
  replace A8 := CHr.trans A7 A8
  clear C7 V7 K7 A7 T7 h7
  show Endw p e below T8 (mkF m 289 #[.val (.int (8 : Int32)), .val (.int x0), .val (.int x1), .val (.int x2), .val (.int x3), .val (.int x4), .val (.int x5), .val (.int x6), .val (.int x7)] [(.ref a2), (.ref a1), (.ref a1)]) _
  refine Endw.st (T' := T8) (g' := (mkF m 294 #[.val (.int (8 : Int32)), .val (.int x0), .val (.int x1), .val (.int x2), .val (.int x3), .val (.int x4), .val (.int x5), .val (.int x6), .val (.int x7)] [(.int x6), (.int (6 : Int32)), (.ref a2), (.ref a2), (.ref a1), (.ref a1)])) (fun tt_ kk_ => XS.dup C8.here C8.hx rfl (C8.dec d10_289) rfl rfl (XS.bipush C8.here C8.hx rfl (C8.dec d10_290) (XS.iload C8.here C8.hx rfl (C8.dec d10_292) rfl kk_))) ?_
  refine C8.castore V8 ⟨by decide, by decide⟩ 6 (by decide) (Nat.le_of_ble_eq_true rfl) (x' := x6) (own_i2c16 p6) zg2 (vs' := [(.int x0), (.int x1), (.int x2), (.int x3), (.int x4), (.int x5), (.int x6), (.int 0)]) rfl d10_294 (pc' := 295) rfl ?_
  intro T9 h9 C9 K9 A9 V9
  replace K9 := Keep.trans K8 K9 (allS (Or.inl (by simp)) all0)
  replace A9 := CHr.trans A8 A9
  clear C8 V8 K8 A8 T8 h8
  show Endw p e below T9 (mkF m 295 #[.val (.int (8 : Int32)), .val (.int x0), .val (.int x1), .val (.int x2), .val (.int x3), .val (.int x4), .val (.int x5), .val (.int x6), .val (.int x7)] [(.ref a2), (.ref a1), (.ref a1)]) _
  refine Endw.st (T' := T9) (g' := (mkF m 300 #[.val (.int (8 : Int32)), .val (.int x0), .val (.int x1), .val (.int x2), .val (.int x3), .val (.int x4), .val (.int x5), .val (.int x6), .val (.int x7)] [(.int x7), (.int (7 : Int32)), (.ref a2), (.ref a2), (.ref a1), (.ref a1)])) (fun tt_ kk_ => XS.dup C9.here C9.hx rfl (C9.dec d10_295) rfl rfl (XS.bipush C9.here C9.hx rfl (C9.dec d10_296) (XS.iload C9.here C9.hx rfl (C9.dec d10_298) rfl kk_))) ?_
  refine C9.castore V9 ⟨by decide, by decide⟩ 7 (by decide) (Nat.le_of_ble_eq_true rfl) (x' := x7) (own_i2c16 p7) zg2 (vs' := [(.int x0), (.int x1), (.int x2), (.int x3), (.int x4), (.int x5), (.int x6), (.int x7)]) rfl d10_300 (pc' := 301) rfl ?_
  intro T10 h10 C10 K10 A10 V10
  replace K10 := Keep.trans K9 K10 (allS (Or.inl (by simp)) all0)
  replace A10 := CHr.trans A9 A10
  clear C9 V9 K9 A9 T9 h9
  show Endw p e below T10 (mkF m 301 #[.val (.int (8 : Int32)), .val (.int x0), .val (.int x1), .val (.int x2), .val (.int x3), .val (.int x4), .val (.int x5), .val (.int x6), .val (.int x7)] [(.ref a2), (.ref a1), (.ref a1)]) _
  have f11 := ((E1.keep K2).keep K10)
  have f12 : Fld Z h1 a1 "java/lang/String" "value" "[B" .null := D1 (Or.inr (W24 hw)) (ty := (.array .byte)) (by decide)
  have f13 := ((f12.keep K2 nin0).keep K10 (ninS (Nat.ne_of_lt (Nat.lt_of_lt_of_le E1.lt ge2)) nin0))
  have f14 : Fld Z h1 a1 "java/lang/String" "coder" "B" (.int (0 : Int32)) := D1 (Or.inr (W25 hw)) (ty := .byte) (by decide)
  have f15 := ((f14.keep K2 nin0).keep K10 (ninS (Nat.ne_of_lt (Nat.lt_of_lt_of_le E1.lt ge2)) nin0))
  have f17 := (A10.safe (Nat.lt_of_lt_of_le E1.lt K2.1) (A2.safe E1.lt S1))
  refine C10.special (y := (⟨"java/lang/String", "<init>", "([C)V"⟩ : MethodName)) (W := 1) (a := a1) (argsL := [(.ref a2)]) (rest := [(.ref a1)]) rfl (W12 hw) (W13 hw) (W14 hw) (W10 hw) (by decide) (rm_New1 l Z a0 EL G a1 a2 kA2 [x0, x1, x2, x3, x4, x5, x6, x7] h10 C10.old f11 f13 f15 zg1 V10 (Nat.le_of_ble_eq_true rfl) (Nat.le_of_ble_eq_true rfl) (own_cS p0 (own_cS p1 (own_cS p2 (own_cS p3 (own_cS p4 (own_cS p5 (own_cS p6 (own_cS p7 own_c0))))))))) (fun _ => rfl) rfl (allS ⟨(Nat.lt_of_lt_of_le E1.lt (Nat.le_trans K2.1 K10.1)), f17⟩ all0) (by decide) (by decide) (by decide) (by decide) (lenOf pd_285b432956 rfl) rfl (Nat.le_of_ble_eq_true rfl) rfl d10_301 (pc' := 304) rfl ?_
  intro vm16 T16 h16 v16 C16 A16 M16 q16
  obtain ⟨rfl, K16, t16, kb16, Y16⟩ := q16
  show Endw p e below T16 (mkF m 304 #[.val (.int (8 : Int32)), .val (.int x0), .val (.int x1), .val (.int x2), .val (.int x3), .val (.int x4), .val (.int x5), .val (.int x6), .val (.int x7)] [(.ref a1)]) _
  exact C16.retA (t := (.object "java/lang/String")) rfl rfl rfl rfl d10_304 (by decide) (by decide) ⟨a1, t16, kb16, rfl, (Keep.trans (Keep.trans (Keep.trans (Keep.trans (Keep.refl h []) K1 all0) K2 all0) K10 (allS (Or.inr (Nat.le_trans K1.1 ge2)) all0)) K16 (allS (Or.inr ge1) all0)), ge1, Y16⟩
set_option maxRecDepth 65536 in
set_option maxHeartbeats 40000000 in
theorem rm_coder0 (l : Launch) (Z : State) (a0 : Array Value) (EL : List (String × Nat)) (G : Glob Z a0 EL) (a : Addr) (h : Heap) (O : Ext Z.heap h) (F0 : Fld Z h a "java/lang/String" "coder" "B" (.int (0 : Int32))) :
    Met l Z EL true (⟨"java/lang/String", "coder", "()B"⟩ : MethodName) jdk_42_method_152_code 1 (some .byte) [] ({ frames := 0, cells := 0, slots := 0, locals := 0 } : Room) #[(.ref a)] h [] (fun r h' => r = some (.int (0 : Int32)) ∧ h = h') := by
  have hw := G.hw
  obtain ⟨zc, Sc, hzc⟩ := G.cs
  obtain ⟨vf, Sf, hvf⟩ := G.fm
  obtain Sa := G.u1
  obtain Sh := G.u2
  obtain Sl := G.u3
  refine Met.of (plainFor_of_name pn_537472696e67_3) G.ew O ?_
  intro p e s m below meth c T0 C0 S0
  refine Endw.eq (g' := mkF m 0 #[.val (.ref a)] []) (by first | rfl | (simp [entryFrame, mkF, argsToLocals, own_cI, own_cR, own_cN, own_cJ, own_cD, maxLocals]; done)) ?_
  refine C0.getS (W44 hw) Sc d11_0 (pc' := 3) rfl ?_
  intro T1 C1
  show Endw p e below T1 (mkF m 3 #[.val (.ref a)] [(.int zc)]) _
  refine Endw.st (T' := T1) (g' := (mkF m 7 #[.val (.ref a)] [(.ref a)])) (fun tt_ kk_ => XS.ifNo C1.here C1.hx rfl (C1.dec d11_3) rfl (XT.i0_eq_f hzc) (XS.aloadN C1.here C1.hx rfl (C1.dec d11_6) rfl rfl kk_)) ?_
  refine C1.getF (W29 hw) F0 d11_7 (pc' := 10) rfl ?_
  intro T2 C2
  show Endw p e below T2 (mkF m 10 #[.val (.ref a)] [(.int (0 : Int32))]) _
  refine Endw.st (T' := T2) (g' := (mkF m 14 #[.val (.ref a)] [(.int (0 : Int32))])) (fun tt_ kk_ => XS.goto C2.here C2.hx rfl (pc0 := 10) rfl (C2.dec d11_10) (by decide) rfl kk_) ?_
  exact C2.retI (t := .byte) rfl (by simp) rfl d11_14 (by decide) (by decide) ⟨rfl, rfl⟩
set_option maxRecDepth 65536 in
set_option maxHeartbeats 40000000 in
theorem rm_isL0 (l : Launch) (Z : State) (a0 : Array Value) (EL : List (String × Nat)) (G : Glob Z a0 EL) (a : Addr) (h : Heap) (O : Ext Z.heap h) (F0 : Fld Z h a "java/lang/String" "coder" "B" (.int (0 : Int32))) :
    Met l Z EL true (⟨"java/lang/String", "isLatin1", "()Z"⟩ : MethodName) jdk_42_method_154_code 1 (some .boolean) [] ({ frames := 0, cells := 0, slots := 0, locals := 0 } : Room) #[(.ref a)] h [] (fun r h' => r = some (.int (1 : Int32)) ∧ h = h') := by
  have hw := G.hw
  obtain ⟨zc, Sc, hzc⟩ := G.cs
  obtain ⟨vf, Sf, hvf⟩ := G.fm
  obtain Sa := G.u1
  obtain Sh := G.u2
  obtain Sl := G.u3
  refine Met.of (plainFor_of_name pn_537472696e67_3) G.ew O ?_
  intro p e s m below meth c T0 C0 S0
  refine Endw.eq (g' := mkF m 0 #[.val (.ref a)] []) (by first | rfl | (simp [entryFrame, mkF, argsToLocals, own_cI, own_cR, own_cN, own_cJ, own_cD, maxLocals]; done)) ?_
  refine C0.getS (W44 hw) Sc d12_0 (pc' := 3) rfl ?_
  intro T1 C1
  show Endw p e below T1 (mkF m 3 #[.val (.ref a)] [(.int zc)]) _
  refine Endw.st (T' := T1) (g' := (mkF m 7 #[.val (.ref a)] [(.ref a)])) (fun tt_ kk_ => XS.ifNo C1.here C1.hx rfl (C1.dec d12_3) rfl (XT.i0_eq_f hzc) (XS.aloadN C1.here C1.hx rfl (C1.dec d12_6) rfl rfl kk_)) ?_
  refine C1.getF (W29 hw) F0 d12_7 (pc' := 10) rfl ?_
  intro T2 C2
  show Endw p e below T2 (mkF m 10 #[.val (.ref a)] [(.int (0 : Int32))]) _
  refine Endw.st (T' := T2) (g' := (mkF m 18 #[.val (.ref a)] [(.int (1 : Int32))])) (fun tt_ kk_ => XS.ifNo C2.here C2.hx rfl (C2.dec d12_10) rfl (XT.i0_ne_f (by decide)) (XS.iconst C2.here C2.hx rfl (C2.dec d12_13) (XS.goto C2.here C2.hx rfl (pc0 := 14) rfl (C2.dec d12_14) (by decide) rfl kk_))) ?_
  exact C2.retI (t := .boolean) rfl (by simp) rfl d12_18 (by decide) (by decide) ⟨rfl, rfl⟩
set_option maxRecDepth 65536 in
set_option maxHeartbeats 40000000 in
theorem rm_coder1 (l : Launch) (Z : State) (a0 : Array Value) (EL : List (String × Nat)) (G : Glob Z a0 EL) (a : Addr) (h : Heap) (O : Ext Z.heap h) (F0 : Fld Z h a "java/lang/String" "coder" "B" (.int (1 : Int32))) :
    Met l Z EL true (⟨"java/lang/String", "coder", "()B"⟩ : MethodName) jdk_42_method_152_code 1 (some .byte) [] ({ frames := 0, cells := 0, slots := 0, locals := 0 } : Room) #[(.ref a)] h [] (fun r h' => r = some (.int (1 : Int32)) ∧ h = h') := by
  have hw := G.hw
  obtain ⟨zc, Sc, hzc⟩ := G.cs
  obtain ⟨vf, Sf, hvf⟩ := G.fm
  obtain Sa := G.u1
  obtain Sh := G.u2
  obtain Sl := G.u3
  refine Met.of (plainFor_of_name pn_537472696e67_3) G.ew O ?_
  intro p e s m below meth c T0 C0 S0
  refine Endw.eq (g' := mkF m 0 #[.val (.ref a)] []) (by first | rfl | (simp [entryFrame, mkF, argsToLocals, own_cI, own_cR, own_cN, own_cJ, own_cD, maxLocals]; done)) ?_
  refine C0.getS (W44 hw) Sc d11_0 (pc' := 3) rfl ?_
  intro T1 C1
  show Endw p e below T1 (mkF m 3 #[.val (.ref a)] [(.int zc)]) _
  refine Endw.st (T' := T1) (g' := (mkF m 7 #[.val (.ref a)] [(.ref a)])) (fun tt_ kk_ => XS.ifNo C1.here C1.hx rfl (C1.dec d11_3) rfl (XT.i0_eq_f hzc) (XS.aloadN C1.here C1.hx rfl (C1.dec d11_6) rfl rfl kk_)) ?_
  refine C1.getF (W29 hw) F0 d11_7 (pc' := 10) rfl ?_
  intro T2 C2
  show Endw p e below T2 (mkF m 10 #[.val (.ref a)] [(.int (1 : Int32))]) _
  refine Endw.st (T' := T2) (g' := (mkF m 14 #[.val (.ref a)] [(.int (1 : Int32))])) (fun tt_ kk_ => XS.goto C2.here C2.hx rfl (pc0 := 10) rfl (C2.dec d11_10) (by decide) rfl kk_) ?_
  exact C2.retI (t := .byte) rfl (by simp) rfl d11_14 (by decide) (by decide) ⟨rfl, rfl⟩
set_option maxRecDepth 65536 in
set_option maxHeartbeats 40000000 in
theorem rm_isL1 (l : Launch) (Z : State) (a0 : Array Value) (EL : List (String × Nat)) (G : Glob Z a0 EL) (a : Addr) (h : Heap) (O : Ext Z.heap h) (F0 : Fld Z h a "java/lang/String" "coder" "B" (.int (1 : Int32))) :
    Met l Z EL true (⟨"java/lang/String", "isLatin1", "()Z"⟩ : MethodName) jdk_42_method_154_code 1 (some .boolean) [] ({ frames := 0, cells := 0, slots := 0, locals := 0 } : Room) #[(.ref a)] h [] (fun r h' => r = some (.int (0 : Int32)) ∧ h = h') := by
  have hw := G.hw
  obtain ⟨zc, Sc, hzc⟩ := G.cs
  obtain ⟨vf, Sf, hvf⟩ := G.fm
  obtain Sa := G.u1
  obtain Sh := G.u2
  obtain Sl := G.u3
  refine Met.of (plainFor_of_name pn_537472696e67_3) G.ew O ?_
  intro p e s m below meth c T0 C0 S0
  refine Endw.eq (g' := mkF m 0 #[.val (.ref a)] []) (by first | rfl | (simp [entryFrame, mkF, argsToLocals, own_cI, own_cR, own_cN, own_cJ, own_cD, maxLocals]; done)) ?_
  refine C0.getS (W44 hw) Sc d12_0 (pc' := 3) rfl ?_
  intro T1 C1
  show Endw p e below T1 (mkF m 3 #[.val (.ref a)] [(.int zc)]) _
  refine Endw.st (T' := T1) (g' := (mkF m 7 #[.val (.ref a)] [(.ref a)])) (fun tt_ kk_ => XS.ifNo C1.here C1.hx rfl (C1.dec d12_3) rfl (XT.i0_eq_f hzc) (XS.aloadN C1.here C1.hx rfl (C1.dec d12_6) rfl rfl kk_)) ?_
  refine C1.getF (W29 hw) F0 d12_7 (pc' := 10) rfl ?_
  intro T2 C2
  show Endw p e below T2 (mkF m 10 #[.val (.ref a)] [(.int (1 : Int32))]) _
  refine Endw.st (T' := T2) (g' := (mkF m 18 #[.val (.ref a)] [(.int (0 : Int32))])) (fun tt_ kk_ => XS.ifYes C2.here C2.hx rfl (pc0 := 10) rfl (C2.dec d12_10) rfl (XT.i0_ne_t (by decide)) (by decide) rfl (XS.iconst C2.here C2.hx rfl (C2.dec d12_17) kk_)) ?_
  exact C2.retI (t := .boolean) rfl (by simp) rfl d12_18 (by decide) (by decide) ⟨rfl, rfl⟩
set_option maxRecDepth 65536 in
set_option maxHeartbeats 40000000 in
theorem rm_pci (l : Launch) (Z : State) (a0 : Array Value) (EL : List (String × Nat)) (G : Glob Z a0 EL) (i n : Nat) (vv : Value) (hvv : vv.isRef = true) (h : Heap) (O : Ext Z.heap h) (hi : i < n) (hn : n ≤ 8) :
    Met l Z EL true (⟨"jdk/internal/util/Preconditions", "checkIndex", "(IILjava/util/function/BiFunction;)I"⟩ : MethodName) jdk_41_method_11_code 3 (some .int) [] ({ frames := 0, cells := 0, slots := 0, locals := 0 } : Room) #[(.int (Int32.ofNat i)), (.int (Int32.ofNat n)), vv] h [] (fun r h' => r = some (.int (Int32.ofNat i)) ∧ h = h') := by
  have hw := G.hw
  obtain ⟨zc, Sc, hzc⟩ := G.cs
  obtain ⟨vf, Sf, hvf⟩ := G.fm
  obtain Sa := G.u1
  obtain Sh := G.u2
  obtain Sl := G.u3
  refine Met.of (plainFor_of_name pn_6974696f6e73_6) G.ew O ?_
  intro p e s m below meth c T0 C0 S0
  refine Endw.eq (g' := mkF m 0 #[.val (.int (Int32.ofNat i)), .val (.int (Int32.ofNat n)), .val vv] []) (by first | rfl | (simp [entryFrame, mkF, argsToLocals, own_cI, own_cR, own_cN, own_cJ, own_cD, maxLocals, XT.cat1 hvv]; done)) ?_
  refine Endw.st (T' := T0) (g' := (mkF m 17 #[.val (.int (Int32.ofNat i)), .val (.int (Int32.ofNat n)), .val vv] [(.int (Int32.ofNat i))])) (fun tt_ kk_ => XS.iloadN C0.here C0.hx rfl (C0.dec d13_0) rfl (XS.ifNo C0.here C0.hx rfl (C0.dec d13_1) rfl (XT.i0_lt_f (own_nn (by omega))) (XS.iloadN C0.here C0.hx rfl (C0.dec d13_4) rfl (XS.iloadN C0.here C0.hx rfl (C0.dec d13_5) rfl (XS.icmpYes C0.here C0.hx rfl (pc0 := 6) rfl (C0.dec d13_6) rfl (XT.ii_lt_t ((own_lt (by omega) (by omega)).mpr hi)) (by decide) rfl (XS.iloadN C0.here C0.hx rfl (C0.dec d13_16) rfl kk_)))))) ?_
  exact C0.retI (t := .int) rfl (by simp) rfl d13_17 (by decide) (by decide) ⟨rfl, rfl⟩
set_option maxRecDepth 65536 in
set_option maxHeartbeats 40000000 in
theorem rm_sci (l : Launch) (Z : State) (a0 : Array Value) (EL : List (String × Nat)) (G : Glob Z a0 EL) (i n : Nat) (h : Heap) (O : Ext Z.heap h) (hi : i < n) (hn : n ≤ 8) :
    Met l Z EL true (⟨"java/lang/String", "checkIndex", "(II)V"⟩ : MethodName) jdk_42_method_155_code 2 none [] ({ frames := 1, cells := 0, slots := 0, locals := 14 } : Room) #[(.int (Int32.ofNat i)), (.int (Int32.ofNat n))] h [] (fun r h' => r = none ∧ h = h') := by
  have hw := G.hw
  obtain ⟨zc, Sc, hzc⟩ := G.cs
  obtain ⟨vf, Sf, hvf⟩ := G.fm
  obtain Sa := G.u1
  obtain Sh := G.u2
  obtain Sl := G.u3
  refine Met.of (plainFor_of_name pn_537472696e67_3) G.ew O ?_
  intro p e s m below meth c T0 C0 S0
  refine Endw.eq (g' := mkF m 0 #[.val (.int (Int32.ofNat i)), .val (.int (Int32.ofNat n))] []) (by first | rfl | (simp [entryFrame, mkF, argsToLocals, own_cI, own_cR, own_cN, own_cJ, own_cD, maxLocals]; done)) ?_
  refine Endw.st (T' := T0) (g' := (mkF m 2 #[.val (.int (Int32.ofNat i)), .val (.int (Int32.ofNat n))] [(.int (Int32.ofNat n)), (.int (Int32.ofNat i))])) (fun tt_ kk_ => XS.iloadN C0.here C0.hx rfl (C0.dec d14_0) rfl (XS.iloadN C0.here C0.hx rfl (C0.dec d14_1) rfl kk_)) ?_
  refine C0.getS (W108 hw) Sf d14_2 (pc' := 5) rfl ?_
  intro T1 C1
  show Endw p e below T1 (mkF m 5 #[.val (.int (Int32.ofNat i)), .val (.int (Int32.ofNat n))] [vf, (.int (Int32.ofNat n)), (.int (Int32.ofNat i))]) _
  refine C1.static (y := (⟨"jdk/internal/util/Preconditions", "checkIndex", "(IILjava/util/function/BiFunction;)I"⟩ : MethodName)) (W := 0) (argsL := [(.int (Int32.ofNat i)), (.int (Int32.ofNat n)), vf]) (rest := []) (W110 hw) (W111 hw) (W112 hw) (W109 hw) (by decide) (rm_pci l Z a0 EL G i n vf hvf h C1.old hi hn) (fun _ => rfl) rfl all0 (by decide) (by decide) (by decide) (by decide) (lenOf pd_11 rfl) rfl (Nat.le_of_ble_eq_true rfl) rfl d14_5 (pc' := 8) rfl ?_
  intro vm2 T2 h2 v2 C2 A2 M2 q2
  obtain ⟨rfl, rfl⟩ := q2
  show Endw p e below T2 (mkF m 8 #[.val (.int (Int32.ofNat i)), .val (.int (Int32.ofNat n))] [(.int (Int32.ofNat i))]) _
  refine Endw.st (T' := T2) (g' := (mkF m 9 #[.val (.int (Int32.ofNat i)), .val (.int (Int32.ofNat n))] [])) (fun tt_ kk_ => XS.pop C2.here C2.hx rfl (C2.dec d14_8) rfl rfl kk_) ?_
  exact C2.retV d14_9 (by decide) (by decide) ⟨rfl, rfl⟩
set_option maxRecDepth 65536 in
set_option maxHeartbeats 40000000 in
theorem rm_ulen (l : Launch) (Z : State) (a0 : Array Value) (EL : List (String × Nat)) (G : Glob Z a0 EL) (d : Addr) (kd : ClassId) (vs : List Value) (n : Nat) (h : Heap) (O : Ext Z.heap h) (D : Arv Z h d kd .byte (Int32.ofNat (2 * n)) vs (.int 0)) (hn : n ≤ 8) :
    Met l Z EL true (⟨"java/lang/StringUTF16", "length", "([B)I"⟩ : MethodName) jdk_52_method_6_code 1 (some .int) [] ({ frames := 0, cells := 0, slots := 0, locals := 0 } : Room) #[(.ref d)] h [] (fun r h' => r = some (.int (Int32.ofNat n)) ∧ h = h') := by
  have hw := G.hw
  obtain ⟨zc, Sc, hzc⟩ := G.cs
  obtain ⟨vf, Sf, hvf⟩ := G.fm
  obtain Sa := G.u1
  obtain Sh := G.u2
  obtain Sl := G.u3
  refine Met.of (plainFor_of_name pn_675554463136_5) G.ew O ?_
  intro p e s m below meth c T0 C0 S0
  refine Endw.eq (g' := mkF m 0 #[.val (.ref d)] []) (by first | rfl | (simp [entryFrame, mkF, argsToLocals, own_cI, own_cR, own_cN, own_cJ, own_cD, maxLocals]; done)) ?_
  refine Endw.st (T' := T0) (g' := (mkF m 1 #[.val (.ref d)] [(.ref d)])) (fun tt_ kk_ => XS.aloadN C0.here C0.hx rfl (C0.dec d15_0) rfl rfl kk_) ?_
  refine C0.len D d15_1 (pc' := 2) rfl ?_
  show Endw p e below T0 (mkF m 2 #[.val (.ref d)] [(.int (Int32.ofNat (2 * n)))]) _
  refine Endw.st (T' := T0) (g' := (mkF m 4 #[.val (.ref d)] [(.int ((Int32.ofNat (2 * n)) >>> ((1 : Int32) &&& 31)))])) (fun tt_ kk_ => XS.iconst C0.here C0.hx rfl (C0.dec d15_2) (XS.ishr C0.here C0.hx rfl (C0.dec d15_3) rfl kk_)) ?_
  rw [show ((Int32.ofNat (2 * n)) >>> ((1 : Int32) &&& 31)) = (Int32.ofNat n) from own_shr1 (by omega)]
  exact C0.retI (t := .int) rfl (by simp) rfl d15_4 (by decide) (by decide) ⟨rfl, rfl⟩
set_option maxRecDepth 65536 in
set_option maxHeartbeats 40000000 in
theorem rm_uci (l : Launch) (Z : State) (a0 : Array Value) (EL : List (String × Nat)) (G : Glob Z a0 EL) (d : Addr) (kd : ClassId) (cs : List Int32) (i : Nat) (h : Heap) (O : Ext Z.heap h) (D : Arv Z h d kd .byte (Int32.ofNat (2 * cs.length)) (own_wide cs) (.int 0)) (hi : i < cs.length) (h8 : cs.length ≤ 8) :
    Met l Z EL true (⟨"java/lang/StringUTF16", "checkIndex", "(I[B)V"⟩ : MethodName) jdk_52_method_91_code 2 none [] ({ frames := 2, cells := 0, slots := 0, locals := 27 } : Room) #[(.int (Int32.ofNat i)), (.ref d)] h [] (fun r h' => r = none ∧ h = h') := by
  have hw := G.hw
  obtain ⟨zc, Sc, hzc⟩ := G.cs
  obtain ⟨vf, Sf, hvf⟩ := G.fm
  obtain Sa := G.u1
  obtain Sh := G.u2
  obtain Sl := G.u3
  refine Met.of (plainFor_of_name pn_675554463136_5) G.ew O ?_
  intro p e s m below meth c T0 C0 S0
  refine Endw.eq (g' := mkF m 0 #[.val (.int (Int32.ofNat i)), .val (.ref d)] []) (by first | rfl | (simp [entryFrame, mkF, argsToLocals, own_cI, own_cR, own_cN, own_cJ, own_cD, maxLocals]; done)) ?_
  refine Endw.st (T' := T0) (g' := (mkF m 2 #[.val (.int (Int32.ofNat i)), .val (.ref d)] [(.ref d), (.int (Int32.ofNat i))])) (fun tt_ kk_ => XS.iloadN C0.here C0.hx rfl (C0.dec d16_0) rfl (XS.aloadN C0.here C0.hx rfl (C0.dec d16_1) rfl rfl kk_)) ?_
  refine C0.static (y := (⟨"java/lang/StringUTF16", "length", "([B)I"⟩ : MethodName)) (W := 1) (argsL := [(.ref d)]) (rest := [(.int (Int32.ofNat i))]) (W102 hw) (W103 hw) (W104 hw) (W50 hw) (by decide) (rm_ulen l Z a0 EL G d kd (own_wide cs) cs.length h C0.old D h8) (fun _ => rfl) rfl all0 (by decide) (by decide) (by decide) (by decide) (lenOf pd_285b422949 rfl) rfl (Nat.le_of_ble_eq_true rfl) rfl d16_2 (pc' := 5) rfl ?_
  intro vm1 T1 h1 v1 C1 A1 M1 q1
  obtain ⟨rfl, rfl⟩ := q1
  show Endw p e below T1 (mkF m 5 #[.val (.int (Int32.ofNat i)), .val (.ref d)] [(.int (Int32.ofNat cs.length)), (.int (Int32.ofNat i))]) _
  refine C1.static (y := (⟨"java/lang/String", "checkIndex", "(II)V"⟩ : MethodName)) (W := 0) (argsL := [(.int (Int32.ofNat i)), (.int (Int32.ofNat cs.length))]) (rest := []) (W105 hw) (W106 hw) (W107 hw) (W10 hw) (by decide) (rm_sci l Z a0 EL G i cs.length h C1.old hi h8) (fun _ => rfl) rfl all0 (by decide) (by decide) (by decide) (by decide) (lenOf pd_2849492956 rfl) rfl (Nat.le_of_ble_eq_true rfl) rfl d16_5 (pc' := 8) rfl ?_
  intro vm2 T2 h2 v2 C2 A2 M2 q2
  obtain ⟨rfl, rfl⟩ := q2
  show Endw p e below T2 (mkF m 8 #[.val (.int (Int32.ofNat i)), .val (.ref d)] []) _
  exact C2.retV d16_8 (by decide) (by decide) ⟨rfl, rfl⟩
set_option maxRecDepth 65536 in
set_option maxHeartbeats 40000000 in
theorem rm_uch (l : Launch) (Z : State) (a0 : Array Value) (EL : List (String × Nat)) (G : Glob Z a0 EL) (d : Addr) (kd : ClassId) (cs : List Int32) (i : Nat) (x : Int32) (h : Heap) (O : Ext Z.heap h) (D : Arv Z h d kd .byte (Int32.ofNat (2 * cs.length)) (own_wide cs) (.int 0)) (hi : i < cs.length) (hx : cs.getD i 0 = x) (hc : C16 x) (h8 : cs.length ≤ 8) :
    Met l Z EL true (⟨"java/lang/StringUTF16", "charAt", "([BI)C"⟩ : MethodName) jdk_52_method_83_code 2 (some .char) [] ({ frames := 3, cells := 0, slots := 0, locals := 40 } : Room) #[(.ref d), (.int (Int32.ofNat i))] h [] (fun r h' => r = some (.int x) ∧ h = h') := by
  have hw := G.hw
  obtain ⟨zc, Sc, hzc⟩ := G.cs
  obtain ⟨vf, Sf, hvf⟩ := G.fm
  obtain Sa := G.u1
  obtain Sh := G.u2
  obtain Sl := G.u3
  refine Met.of (plainFor_of_name pn_675554463136_5) G.ew O ?_
  intro p e s m below meth c T0 C0 S0
  refine Endw.eq (g' := mkF m 0 #[.val (.ref d), .val (.int (Int32.ofNat i))] []) (by first | rfl | (simp [entryFrame, mkF, argsToLocals, own_cI, own_cR, own_cN, own_cJ, own_cD, maxLocals]; done)) ?_
  refine Endw.st (T' := T0) (g' := (mkF m 2 #[.val (.ref d), .val (.int (Int32.ofNat i))] [(.ref d), (.int (Int32.ofNat i))])) (fun tt_ kk_ => XS.iloadN C0.here C0.hx rfl (C0.dec d17_0) rfl (XS.aloadN C0.here C0.hx rfl (C0.dec d17_1) rfl rfl kk_)) ?_
  refine C0.static (y := (⟨"java/lang/StringUTF16", "checkIndex", "(I[B)V"⟩ : MethodName)) (W := 0) (argsL := [(.int (Int32.ofNat i)), (.ref d)]) (rest := []) (W99 hw) (W100 hw) (W101 hw) (W50 hw) (by decide) (rm_uci l Z a0 EL G d kd cs i h C0.old D hi h8) (fun _ => rfl) rfl all0 (by decide) (by decide) (by decide) (by decide) (lenOf pd_28495b422956 rfl) rfl (Nat.le_of_ble_eq_true rfl) rfl d17_2 (pc' := 5) rfl ?_
  intro vm1 T1 h1 v1 C1 A1 M1 q1
  obtain ⟨rfl, rfl⟩ := q1
  show Endw p e below T1 (mkF m 5 #[.val (.ref d), .val (.int (Int32.ofNat i))] []) _
  refine Endw.st (T' := T1) (g' := (mkF m 7 #[.val (.ref d), .val (.int (Int32.ofNat i))] [(.int (Int32.ofNat i)), (.ref d)])) (fun tt_ kk_ => XS.aloadN C1.here C1.hx rfl (C1.dec d17_5) rfl rfl (XS.iloadN C1.here C1.hx rfl (C1.dec d17_6) rfl kk_)) ?_
  refine C1.static (y := (⟨"java/lang/StringUTF16", "getChar", "([BI)C"⟩ : MethodName)) (W := 0) (argsL := [(.ref d), (.int (Int32.ofNat i))]) (rest := []) (W71 hw) (W72 hw) (W73 hw) (W50 hw) (by decide) (rm_get l Z a0 EL G d kd cs i x h C1.old D hi hx hc h8) (fun _ => rfl) rfl all0 (by decide) (by decide) (by decide) (by decide) (lenOf pd_285b42492943 rfl) rfl (Nat.le_of_ble_eq_true rfl) rfl d17_7 (pc' := 10) rfl ?_
  intro vm2 T2 h2 v2 C2 A2 M2 q2
  obtain ⟨rfl, rfl⟩ := q2
  show Endw p e below T2 (mkF m 10 #[.val (.ref d), .val (.int (Int32.ofNat i))] [(.int x)]) _
  exact C2.retI (t := .char) rfl (by simp) (own_narC hc) d17_10 (by decide) (by decide) ⟨rfl, rfl⟩
set_option maxRecDepth 65536 in
set_option maxHeartbeats 40000000 in
theorem rm_lch (l : Launch) (Z : State) (a0 : Array Value) (EL : List (String × Nat)) (G : Glob Z a0 EL) (d : Addr) (kd : ClassId) (cs : List Int32) (i : Nat) (x : Int32) (h : Heap) (O : Ext Z.heap h) (D : Arv Z h d kd .byte (Int32.ofNat cs.length) (bys cs) (.int 0)) (hi : i < cs.length) (hx : cs.getD i 0 = x) (hb : B8 x) (h8 : cs.length ≤ 8) :
    Met l Z EL true (⟨"java/lang/StringLatin1", "charAt", "([BI)C"⟩ : MethodName) jdk_43_method_2_code 2 (some .char) [] ({ frames := 2, cells := 0, slots := 0, locals := 27 } : Room) #[(.ref d), (.int (Int32.ofNat i))] h [] (fun r h' => r = some (.int x) ∧ h = h') := by
  have hw := G.hw
  obtain ⟨zc, Sc, hzc⟩ := G.cs
  obtain ⟨vf, Sf, hvf⟩ := G.fm
  obtain Sa := G.u1
  obtain Sh := G.u2
  obtain Sl := G.u3
  refine Met.of (plainFor_of_name pn_4c6174696e31_4) G.ew O ?_
  intro p e s m below meth c T0 C0 S0
  refine Endw.eq (g' := mkF m 0 #[.val (.ref d), .val (.int (Int32.ofNat i))] []) (by first | rfl | (simp [entryFrame, mkF, argsToLocals, own_cI, own_cR, own_cN, own_cJ, own_cD, maxLocals]; done)) ?_
  refine Endw.st (T' := T0) (g' := (mkF m 2 #[.val (.ref d), .val (.int (Int32.ofNat i))] [(.ref d), (.int (Int32.ofNat i))])) (fun tt_ kk_ => XS.iloadN C0.here C0.hx rfl (C0.dec d18_0) rfl (XS.aloadN C0.here C0.hx rfl (C0.dec d18_1) rfl rfl kk_)) ?_
  refine C0.len D d18_2 (pc' := 3) rfl ?_
  show Endw p e below T0 (mkF m 3 #[.val (.ref d), .val (.int (Int32.ofNat i))] [(.int (Int32.ofNat cs.length)), (.int (Int32.ofNat i))]) _
  refine C0.static (y := (⟨"java/lang/String", "checkIndex", "(II)V"⟩ : MethodName)) (W := 0) (argsL := [(.int (Int32.ofNat i)), (.int (Int32.ofNat cs.length))]) (rest := []) (W120 hw) (W106 hw) (W107 hw) (W10 hw) (by decide) (rm_sci l Z a0 EL G i cs.length h C0.old hi h8) (fun _ => rfl) rfl all0 (by decide) (by decide) (by decide) (by decide) (lenOf pd_2849492956 rfl) rfl (Nat.le_of_ble_eq_true rfl) rfl d18_3 (pc' := 6) rfl ?_
  intro vm1 T1 h1 v1 C1 A1 M1 q1
  obtain ⟨rfl, rfl⟩ := q1
  show Endw p e below T1 (mkF m 6 #[.val (.ref d), .val (.int (Int32.ofNat i))] []) _
  refine Endw.st (T' := T1) (g' := (mkF m 8 #[.val (.ref d), .val (.int (Int32.ofNat i))] [(.int (Int32.ofNat i)), (.ref d)])) (fun tt_ kk_ => XS.aloadN C1.here C1.hx rfl (C1.dec d18_6) rfl rfl (XS.iloadN C1.here C1.hx rfl (C1.dec d18_7) rfl kk_)) ?_
  refine C1.baloadN (j := i) D hi (by omega) (v := (.int (own_lo x))) (by rw [own_bysD cs hi, hx]) d18_8 (pc' := 9) rfl ?_
  show Endw p e below T1 (mkF m 9 #[.val (.ref d), .val (.int (Int32.ofNat i))] [(.int (own_lo x))]) _
  refine Endw.st (T' := T1) (g' := (mkF m 13 #[.val (.ref d), .val (.int (Int32.ofNat i))] [(.int ((own_lo x) &&& (255 : Int32)))])) (fun tt_ kk_ => XS.sipush C1.here C1.hx rfl (C1.dec d18_9) (XS.iand C1.here C1.hx rfl (C1.dec d18_12) rfl kk_)) ?_
  rw [show ((own_lo x) &&& (255 : Int32)) = x from own_chr8 hb]
  refine Endw.st (T' := T1) (g' := (mkF m 14 #[.val (.ref d), .val (.int (Int32.ofNat i))] [(.int (x.toUInt32.toUInt16.toUInt32.toInt32))])) (fun tt_ kk_ => XS.i2c C1.here C1.hx rfl (C1.dec d18_13) rfl kk_) ?_
  rw [show x.toUInt32.toUInt16.toUInt32.toInt32 = x from own_i2c16 (own_b16 hb)]
  exact C1.retI (t := .char) rfl (by simp) (own_narC (own_b16 hb)) d18_14 (by decide) (by decide) ⟨rfl, rfl⟩
set_option maxRecDepth 65536 in
set_option maxHeartbeats 40000000 in
theorem rm_len0 (l : Launch) (Z : State) (a0 : Array Value) (EL : List (String × Nat)) (G : Glob Z a0 EL) (a t : Addr) (kb : ClassId) (cs : List Int32) (h : Heap) (O : Ext Z.heap h) (S : Str Z h a t kb cs) (h8 : cs.length ≤ 8)  :
    Met l Z EL true (⟨"java/lang/String", "length", "()I"⟩ : MethodName) jdk_42_method_54_code 1 (some .int) [] ({ frames := 1, cells := 0, slots := 0, locals := 13 } : Room) #[(.ref a)] h [] (fun r h' => r = some (.int (Int32.ofNat cs.length)) ∧ h = h') := by
  have hw := G.hw
  obtain ⟨zc, Sc, hzc⟩ := G.cs
  obtain ⟨vf, Sf, hvf⟩ := G.fm
  obtain Sa := G.u1
  obtain Sh := G.u2
  obtain Sl := G.u3
  refine Met.of (plainFor_of_name pn_537472696e67_3) G.ew O ?_
  intro p e s m below meth c T0 C0 S0
  refine Endw.eq (g' := mkF m 0 #[.val (.ref a)] []) (by first | rfl | (simp [entryFrame, mkF, argsToLocals, own_cI, own_cR, own_cN, own_cJ, own_cD, maxLocals]; done)) ?_
  refine Endw.st (T' := T0) (g' := (mkF m 1 #[.val (.ref a)] [(.ref a)])) (fun tt_ kk_ => XS.aloadN C0.here C0.hx rfl (C0.dec d19_0) rfl rfl kk_) ?_
  refine C0.getF (W28 hw) S.2.2.1 d19_1 (pc' := 4) rfl ?_
  intro T1 C1
  show Endw p e below T1 (mkF m 4 #[.val (.ref a)] [(.ref t)]) _
  refine C1.len S.2.2.2.1 d19_4 (pc' := 5) rfl ?_
  show Endw p e below T1 (mkF m 5 #[.val (.ref a)] [(.int (Int32.ofNat cs.length))]) _
  refine Endw.st (T' := T1) (g' := (mkF m 6 #[.val (.ref a)] [(.ref a), (.int (Int32.ofNat cs.length))])) (fun tt_ kk_ => XS.aloadN C1.here C1.hx rfl (C1.dec d19_5) rfl rfl kk_) ?_
  refine C1.virtual (y := (⟨"java/lang/String", "coder", "()B"⟩ : MethodName)) (z := (⟨"java/lang/String", "coder", "()B"⟩ : MethodName)) (W := 1) (a := a) (argsL := []) (rest := [(.int (Int32.ofNat cs.length))]) (W39 hw) (W40 hw) (fun _ q => notFace_of_selects (args := #[]) (mvT q (W42 hw))) (W42 hw) (W41 hw) (W43 hw) (W10 hw) (by decide) (rm_coder0 l Z a0 EL G a h C1.old S.2.1) (fun _ => rfl) rfl S.1 all0 (by decide) (by decide) (by decide) (by decide) (lenOf pd_282942 rfl) rfl (Nat.le_of_ble_eq_true rfl) rfl d19_6 (pc' := 9) rfl ?_
  intro vm2 T2 h2 v2 C2 A2 M2 q2
  obtain ⟨rfl, rfl⟩ := q2
  show Endw p e below T2 (mkF m 9 #[.val (.ref a)] [(.int (0 : Int32)), (.int (Int32.ofNat cs.length))]) _
  refine Endw.st (T' := T2) (g' := (mkF m 10 #[.val (.ref a)] [(.int ((Int32.ofNat cs.length) >>> ((0 : Int32) &&& 31)))])) (fun tt_ kk_ => XS.ishr C2.here C2.hx rfl (C2.dec d19_9) rfl kk_) ?_
  rw [own_shr0]
  exact C2.retI (t := .int) rfl (by simp) rfl d19_10 (by decide) (by decide) ⟨rfl, rfl⟩
set_option maxRecDepth 65536 in
set_option maxHeartbeats 40000000 in
theorem rm_len1 (l : Launch) (Z : State) (a0 : Array Value) (EL : List (String × Nat)) (G : Glob Z a0 EL) (a t : Addr) (kb : ClassId) (cs : List Int32) (h : Heap) (O : Ext Z.heap h) (S : Wid Z h a t kb cs) (h8 : cs.length ≤ 8)  :
    Met l Z EL true (⟨"java/lang/String", "length", "()I"⟩ : MethodName) jdk_42_method_54_code 1 (some .int) [] ({ frames := 1, cells := 0, slots := 0, locals := 13 } : Room) #[(.ref a)] h [] (fun r h' => r = some (.int (Int32.ofNat cs.length)) ∧ h = h') := by
  have hw := G.hw
  obtain ⟨zc, Sc, hzc⟩ := G.cs
  obtain ⟨vf, Sf, hvf⟩ := G.fm
  obtain Sa := G.u1
  obtain Sh := G.u2
  obtain Sl := G.u3
  refine Met.of (plainFor_of_name pn_537472696e67_3) G.ew O ?_
  intro p e s m below meth c T0 C0 S0
  refine Endw.eq (g' := mkF m 0 #[.val (.ref a)] []) (by first | rfl | (simp [entryFrame, mkF, argsToLocals, own_cI, own_cR, own_cN, own_cJ, own_cD, maxLocals]; done)) ?_
  refine Endw.st (T' := T0) (g' := (mkF m 1 #[.val (.ref a)] [(.ref a)])) (fun tt_ kk_ => XS.aloadN C0.here C0.hx rfl (C0.dec d19_0) rfl rfl kk_) ?_
  refine C0.getF (W28 hw) S.2.2.1 d19_1 (pc' := 4) rfl ?_
  intro T1 C1
  show Endw p e below T1 (mkF m 4 #[.val (.ref a)] [(.ref t)]) _
  refine C1.len S.2.2.2.1 d19_4 (pc' := 5) rfl ?_
  show Endw p e below T1 (mkF m 5 #[.val (.ref a)] [(.int (Int32.ofNat (2 * cs.length)))]) _
  refine Endw.st (T' := T1) (g' := (mkF m 6 #[.val (.ref a)] [(.ref a), (.int (Int32.ofNat (2 * cs.length)))])) (fun tt_ kk_ => XS.aloadN C1.here C1.hx rfl (C1.dec d19_5) rfl rfl kk_) ?_
  refine C1.virtual (y := (⟨"java/lang/String", "coder", "()B"⟩ : MethodName)) (z := (⟨"java/lang/String", "coder", "()B"⟩ : MethodName)) (W := 1) (a := a) (argsL := []) (rest := [(.int (Int32.ofNat (2 * cs.length)))]) (W39 hw) (W40 hw) (fun _ q => notFace_of_selects (args := #[]) (mvT q (W42 hw))) (W42 hw) (W41 hw) (W43 hw) (W10 hw) (by decide) (rm_coder1 l Z a0 EL G a h C1.old S.2.1) (fun _ => rfl) rfl S.1 all0 (by decide) (by decide) (by decide) (by decide) (lenOf pd_282942 rfl) rfl (Nat.le_of_ble_eq_true rfl) rfl d19_6 (pc' := 9) rfl ?_
  intro vm2 T2 h2 v2 C2 A2 M2 q2
  obtain ⟨rfl, rfl⟩ := q2
  show Endw p e below T2 (mkF m 9 #[.val (.ref a)] [(.int (1 : Int32)), (.int (Int32.ofNat (2 * cs.length)))]) _
  refine Endw.st (T' := T2) (g' := (mkF m 10 #[.val (.ref a)] [(.int ((Int32.ofNat (2 * cs.length)) >>> ((1 : Int32) &&& 31)))])) (fun tt_ kk_ => XS.ishr C2.here C2.hx rfl (C2.dec d19_9) rfl kk_) ?_
  rw [show ((Int32.ofNat (2 * cs.length)) >>> ((1 : Int32) &&& 31)) = (Int32.ofNat cs.length) from own_shr1 (by omega)]
  exact C2.retI (t := .int) rfl (by simp) rfl d19_10 (by decide) (by decide) ⟨rfl, rfl⟩
set_option maxRecDepth 65536 in
set_option maxHeartbeats 40000000 in
theorem rm_len (l : Launch) (Z : State) (a0 : Array Value) (EL : List (String × Nat)) (G : Glob Z a0 EL) (a t : Addr) (kb : ClassId) (cs : List Int32) (h : Heap) (O : Ext Z.heap h) (S : Txt Z h a t kb cs)  :
    Met l Z EL true (⟨"java/lang/String", "length", "()I"⟩ : MethodName) jdk_42_method_54_code 1 (some .int) [] ({ frames := 1, cells := 0, slots := 0, locals := 13 } : Room) #[(.ref a)] h [] (fun r h' => r = some (.int (Int32.ofNat cs.length)) ∧ h = h') := by
  exact S.elim (fun S => rm_len0 l Z a0 EL G a t kb cs h O S.1 S.2 ) (fun S => rm_len1 l Z a0 EL G a t kb cs h O S S.2.2.2.2.2 )
set_option maxRecDepth 65536 in
set_option maxHeartbeats 40000000 in
theorem rm_chr0 (l : Launch) (Z : State) (a0 : Array Value) (EL : List (String × Nat)) (G : Glob Z a0 EL) (a t : Addr) (kb : ClassId) (cs : List Int32) (i : Nat) (x : Int32) (h : Heap) (O : Ext Z.heap h) (S : Str Z h a t kb cs) (h8 : cs.length ≤ 8) (hi : i < cs.length) (hx : cs.getD i 0 = x) :
    Met l Z EL true (⟨"java/lang/String", "charAt", "(I)C"⟩ : MethodName) jdk_42_method_56_code 2 (some .char) [] ({ frames := 4, cells := 0, slots := 0, locals := 53 } : Room) #[(.ref a), (.int (Int32.ofNat i))] h [] (fun r h' => r = some (.int x) ∧ h = h') := by
  have hw := G.hw
  obtain ⟨zc, Sc, hzc⟩ := G.cs
  obtain ⟨vf, Sf, hvf⟩ := G.fm
  obtain Sa := G.u1
  obtain Sh := G.u2
  obtain Sl := G.u3
  refine Met.of (plainFor_of_name pn_537472696e67_3) G.ew O ?_
  intro p e s m below meth c T0 C0 S0
  refine Endw.eq (g' := mkF m 0 #[.val (.ref a), .val (.int (Int32.ofNat i))] []) (by first | rfl | (simp [entryFrame, mkF, argsToLocals, own_cI, own_cR, own_cN, own_cJ, own_cD, maxLocals]; done)) ?_
  refine Endw.st (T' := T0) (g' := (mkF m 1 #[.val (.ref a), .val (.int (Int32.ofNat i))] [(.ref a)])) (fun tt_ kk_ => XS.aloadN C0.here C0.hx rfl (C0.dec d20_0) rfl rfl kk_) ?_
  refine C0.virtual (y := (⟨"java/lang/String", "isLatin1", "()Z"⟩ : MethodName)) (z := (⟨"java/lang/String", "isLatin1", "()Z"⟩ : MethodName)) (W := 0) (a := a) (argsL := []) (rest := []) (W91 hw) (W92 hw) (fun _ q => notFace_of_selects (args := #[]) (mvT q (W94 hw))) (W94 hw) (W93 hw) (W95 hw) (W10 hw) (by decide) (rm_isL0 l Z a0 EL G a h C0.old S.2.1) (fun _ => rfl) rfl S.1 all0 (by decide) (by decide) (by decide) (by decide) (lenOf pd_28295a rfl) rfl (Nat.le_of_ble_eq_true rfl) rfl d20_1 (pc' := 4) rfl ?_
  intro vm1 T1 h1 v1 C1 A1 M1 q1
  obtain ⟨rfl, rfl⟩ := q1
  show Endw p e below T1 (mkF m 4 #[.val (.ref a), .val (.int (Int32.ofNat i))] [(.int (1 : Int32))]) _
  refine Endw.st (T' := T1) (g' := (mkF m 8 #[.val (.ref a), .val (.int (Int32.ofNat i))] [(.ref a)])) (fun tt_ kk_ => XS.ifNo C1.here C1.hx rfl (C1.dec d20_4) rfl (XT.i0_eq_f (by decide)) (XS.aloadN C1.here C1.hx rfl (C1.dec d20_7) rfl rfl kk_)) ?_
  refine C1.getF (W28 hw) S.2.2.1 d20_8 (pc' := 11) rfl ?_
  intro T2 C2
  show Endw p e below T2 (mkF m 11 #[.val (.ref a), .val (.int (Int32.ofNat i))] [(.ref t)]) _
  refine Endw.st (T' := T2) (g' := (mkF m 12 #[.val (.ref a), .val (.int (Int32.ofNat i))] [(.int (Int32.ofNat i)), (.ref t)])) (fun tt_ kk_ => XS.iloadN C2.here C2.hx rfl (C2.dec d20_11) rfl kk_) ?_
  refine C2.static (y := (⟨"java/lang/StringLatin1", "charAt", "([BI)C"⟩ : MethodName)) (W := 0) (argsL := [(.ref t), (.int (Int32.ofNat i))]) (rest := []) (W116 hw) (W117 hw) (W119 hw) (W118 hw) (by decide) (rm_lch l Z a0 EL G t kb cs i x h C2.old S.2.2.2.1 hi hx (hx ▸ own_getAll hi S.2.2.2.2.1) h8) (fun _ => rfl) rfl all0 (by decide) (by decide) (by decide) (by decide) (lenOf pd_285b42492943 rfl) rfl (Nat.le_of_ble_eq_true rfl) rfl d20_12 (pc' := 15) rfl ?_
  intro vm3 T3 h3 v3 C3 A3 M3 q3
  obtain ⟨rfl, rfl⟩ := q3
  show Endw p e below T3 (mkF m 15 #[.val (.ref a), .val (.int (Int32.ofNat i))] [(.int x)]) _
  exact C3.retI (t := .char) rfl (by simp) (own_narC (own_b16 (hx ▸ own_getAll hi S.2.2.2.2.1))) d20_15 (by decide) (by decide) ⟨rfl, rfl⟩
set_option maxRecDepth 65536 in
set_option maxHeartbeats 40000000 in
theorem rm_chr1 (l : Launch) (Z : State) (a0 : Array Value) (EL : List (String × Nat)) (G : Glob Z a0 EL) (a t : Addr) (kb : ClassId) (cs : List Int32) (i : Nat) (x : Int32) (h : Heap) (O : Ext Z.heap h) (S : Wid Z h a t kb cs) (h8 : cs.length ≤ 8) (hi : i < cs.length) (hx : cs.getD i 0 = x) :
    Met l Z EL true (⟨"java/lang/String", "charAt", "(I)C"⟩ : MethodName) jdk_42_method_56_code 2 (some .char) [] ({ frames := 4, cells := 0, slots := 0, locals := 53 } : Room) #[(.ref a), (.int (Int32.ofNat i))] h [] (fun r h' => r = some (.int x) ∧ h = h') := by
  have hw := G.hw
  obtain ⟨zc, Sc, hzc⟩ := G.cs
  obtain ⟨vf, Sf, hvf⟩ := G.fm
  obtain Sa := G.u1
  obtain Sh := G.u2
  obtain Sl := G.u3
  refine Met.of (plainFor_of_name pn_537472696e67_3) G.ew O ?_
  intro p e s m below meth c T0 C0 S0
  refine Endw.eq (g' := mkF m 0 #[.val (.ref a), .val (.int (Int32.ofNat i))] []) (by first | rfl | (simp [entryFrame, mkF, argsToLocals, own_cI, own_cR, own_cN, own_cJ, own_cD, maxLocals]; done)) ?_
  refine Endw.st (T' := T0) (g' := (mkF m 1 #[.val (.ref a), .val (.int (Int32.ofNat i))] [(.ref a)])) (fun tt_ kk_ => XS.aloadN C0.here C0.hx rfl (C0.dec d20_0) rfl rfl kk_) ?_
  refine C0.virtual (y := (⟨"java/lang/String", "isLatin1", "()Z"⟩ : MethodName)) (z := (⟨"java/lang/String", "isLatin1", "()Z"⟩ : MethodName)) (W := 0) (a := a) (argsL := []) (rest := []) (W91 hw) (W92 hw) (fun _ q => notFace_of_selects (args := #[]) (mvT q (W94 hw))) (W94 hw) (W93 hw) (W95 hw) (W10 hw) (by decide) (rm_isL1 l Z a0 EL G a h C0.old S.2.1) (fun _ => rfl) rfl S.1 all0 (by decide) (by decide) (by decide) (by decide) (lenOf pd_28295a rfl) rfl (Nat.le_of_ble_eq_true rfl) rfl d20_1 (pc' := 4) rfl ?_
  intro vm1 T1 h1 v1 C1 A1 M1 q1
  obtain ⟨rfl, rfl⟩ := q1
  show Endw p e below T1 (mkF m 4 #[.val (.ref a), .val (.int (Int32.ofNat i))] [(.int (0 : Int32))]) _
  refine Endw.st (T' := T1) (g' := (mkF m 17 #[.val (.ref a), .val (.int (Int32.ofNat i))] [(.ref a)])) (fun tt_ kk_ => XS.ifYes C1.here C1.hx rfl (pc0 := 4) rfl (C1.dec d20_4) rfl (XT.i0_eq_t (by decide)) (by decide) rfl (XS.aloadN C1.here C1.hx rfl (C1.dec d20_16) rfl rfl kk_)) ?_
  refine C1.getF (W28 hw) S.2.2.1 d20_17 (pc' := 20) rfl ?_
  intro T2 C2
  show Endw p e below T2 (mkF m 20 #[.val (.ref a), .val (.int (Int32.ofNat i))] [(.ref t)]) _
  refine Endw.st (T' := T2) (g' := (mkF m 21 #[.val (.ref a), .val (.int (Int32.ofNat i))] [(.int (Int32.ofNat i)), (.ref t)])) (fun tt_ kk_ => XS.iloadN C2.here C2.hx rfl (C2.dec d20_20) rfl kk_) ?_
  refine C2.static (y := (⟨"java/lang/StringUTF16", "charAt", "([BI)C"⟩ : MethodName)) (W := 0) (argsL := [(.ref t), (.int (Int32.ofNat i))]) (rest := []) (W96 hw) (W97 hw) (W98 hw) (W50 hw) (by decide) (rm_uch l Z a0 EL G t kb cs i x h C2.old S.2.2.2.1 hi hx (hx ▸ own_getAll hi S.2.2.2.2.1) h8) (fun _ => rfl) rfl all0 (by decide) (by decide) (by decide) (by decide) (lenOf pd_285b42492943 rfl) rfl (Nat.le_of_ble_eq_true rfl) rfl d20_21 (pc' := 24) rfl ?_
  intro vm3 T3 h3 v3 C3 A3 M3 q3
  obtain ⟨rfl, rfl⟩ := q3
  show Endw p e below T3 (mkF m 24 #[.val (.ref a), .val (.int (Int32.ofNat i))] [(.int x)]) _
  exact C3.retI (t := .char) rfl (by simp) (own_narC (hx ▸ own_getAll hi S.2.2.2.2.1)) d20_24 (by decide) (by decide) ⟨rfl, rfl⟩
set_option maxRecDepth 65536 in
set_option maxHeartbeats 40000000 in
theorem rm_chr (l : Launch) (Z : State) (a0 : Array Value) (EL : List (String × Nat)) (G : Glob Z a0 EL) (a t : Addr) (kb : ClassId) (cs : List Int32) (i : Nat) (x : Int32) (h : Heap) (O : Ext Z.heap h) (S : Txt Z h a t kb cs) (hi : i < cs.length) (hx : cs.getD i 0 = x) :
    Met l Z EL true (⟨"java/lang/String", "charAt", "(I)C"⟩ : MethodName) jdk_42_method_56_code 2 (some .char) [] ({ frames := 4, cells := 0, slots := 0, locals := 53 } : Room) #[(.ref a), (.int (Int32.ofNat i))] h [] (fun r h' => r = some (.int x) ∧ h = h') := by
  exact S.elim (fun S => rm_chr0 l Z a0 EL G a t kb cs i x h O S.1 S.2 hi hx) (fun S => rm_chr1 l Z a0 EL G a t kb cs i x h O S S.2.2.2.2.2 hi hx)
set_option maxRecDepth 65536 in
set_option maxHeartbeats 40000000 in
theorem rm_df (l : Launch) (Z : State) (a0 : Array Value) (EL : List (String × Nat)) (G : Glob Z a0 EL) (a t : Addr) (kb : ClassId) (cs : List Int32) (i : Nat) (h : Heap) (O : Ext Z.heap h) (S : Txt Z h a t kb cs) (h8 : cs.length ≤ 8) (hi : i ≤ cs.length) :
    Met l Z EL true (⟨"com/example/cohabit/cohabit/Numbers", "digitsFrom", "(Ljava/lang/String;I)I"⟩ : MethodName) prog_24_method_3_code 3 (some .int) [] ({ frames := 5, cells := 0, slots := 0, locals := 66 } : Room) #[(.ref a), (.int (Int32.ofNat i))] h [] (fun r h' => r = some (.int (Int32.ofNat (i + own_dg (cs.drop i)))) ∧ h = h') := by
  have hw := G.hw
  obtain ⟨zc, Sc, hzc⟩ := G.cs
  obtain ⟨vf, Sf, hvf⟩ := G.fm
  obtain Sa := G.u1
  obtain Sh := G.u2
  obtain Sl := G.u3
  refine Met.of (plainFor_of_name pn_756d62657273_0) G.ew O ?_
  intro p e s m below meth c T0 C0 S0
  refine Endw.eq (g' := mkF m 0 #[.val (.ref a), .val (.int (Int32.ofNat i)), .unset] []) (by first | rfl | (simp [entryFrame, mkF, argsToLocals, own_cI, own_cR, own_cN, own_cJ, own_cD, maxLocals]; done)) ?_
  have J2 : ∀ (tt : Nat) (j : Nat) (vm : Vm) (T : State) , (cs.length = j + tt) → ((Int32.ofNat (j + own_dg (cs.drop j))) = Int32.ofNat (i + own_dg (cs.drop i))) → Core p l e ({ frames := 5, cells := 0, slots := 0, locals := 66 } : Room) s m #[(.ref a), (.int (Int32.ofNat i))] below meth c prog_24_method_3_code 3 (some .int) "digitsFrom" "com/example/cohabit/cohabit/Numbers" Z a0 EL true vm T h 0 0 → Endw p e below T (mkF m 2 #[.val (.ref a), .val (.int (Int32.ofNat i)), .val (.int (Int32.ofNat j))] []) (Fin s Z EL true (fun r h' => r = some (.int (Int32.ofNat (i + own_dg (cs.drop i)))) ∧ h = h') (({ frames := 5, cells := 0, slots := 0, locals := 66 } : Room)).cells (({ frames := 5, cells := 0, slots := 0, locals := 66 } : Room)).slots) := by
    intro tt
    induction tt with
    | zero =>
      intro j vm T hj hD C
      have el0 : j = cs.length := by omega
      have en0 : cs.drop j = [] := by rw [el0]; exact List.drop_length
      refine Endw.st (T' := T) (g' := (mkF m 4 #[.val (.ref a), .val (.int (Int32.ofNat i)), .val (.int (Int32.ofNat j))] [(.ref a), (.int (Int32.ofNat j))])) (fun tt_ kk_ => XS.iloadN C.here C.hx rfl (C.dec d21_2) rfl (XS.aloadN C.here C.hx rfl (C.dec d21_3) rfl rfl kk_)) ?_
      refine C.virtual (y := (⟨"java/lang/String", "length", "()I"⟩ : MethodName)) (z := (⟨"java/lang/String", "length", "()I"⟩ : MethodName)) (W := 1) (a := a) (argsL := []) (rest := [(.int (Int32.ofNat j))]) (W34 hw) (W35 hw) (fun _ q => notFace_of_selects (args := #[]) (mvT q (W37 hw))) (W37 hw) (W36 hw) (W38 hw) (W10 hw) (by decide) (rm_len l Z a0 EL G a t kb cs h C.old S) (fun _ => rfl) rfl S.exa all0 (by decide) (by decide) (by decide) (by decide) (lenOf pd_282949 rfl) rfl (Nat.le_of_ble_eq_true rfl) rfl d21_4 (pc' := 7) rfl ?_
      intro vm1 T1 h1 v1 C1 A1 M1 q1
      obtain ⟨rfl, rfl⟩ := q1
      show Endw p e below T1 (mkF m 7 #[.val (.ref a), .val (.int (Int32.ofNat i)), .val (.int (Int32.ofNat j))] [(.int (Int32.ofNat cs.length)), (.int (Int32.ofNat j))]) _
      refine Endw.st (T' := T1) (g' := (mkF m 37 #[.val (.ref a), .val (.int (Int32.ofNat i)), .val (.int (Int32.ofNat j))] [(.int (Int32.ofNat j))])) (fun tt_ kk_ => XS.icmpYes C1.here C1.hx rfl (pc0 := 7) rfl (C1.dec d21_7) rfl (XT.ii_ge_t (fun q => absurd ((own_lt (by omega) (by omega)).mp q) (by omega))) (by decide) rfl (XS.iloadN C1.here C1.hx rfl (C1.dec d21_36) rfl kk_)) ?_
      exact C1.retI (t := .int) rfl (by simp) rfl d21_37 (by decide) (by decide) ⟨by rw [← hD, en0]; rfl, rfl⟩
    | succ tt ih =>
      intro j vm T hj hD C
      obtain ⟨y0, r0, ec0, lt0, eg0, er0⟩ := (own_at cs (i := j) (by omega)).resolve_left (fun q => absurd q.2 (by omega))
      refine Endw.st (T' := T) (g' := (mkF m 4 #[.val (.ref a), .val (.int (Int32.ofNat i)), .val (.int (Int32.ofNat j))] [(.ref a), (.int (Int32.ofNat j))])) (fun tt_ kk_ => XS.iloadN C.here C.hx rfl (C.dec d21_2) rfl (XS.aloadN C.here C.hx rfl (C.dec d21_3) rfl rfl kk_)) ?_
      refine C.virtual (y := (⟨"java/lang/String", "length", "()I"⟩ : MethodName)) (z := (⟨"java/lang/String", "length", "()I"⟩ : MethodName)) (W := 1) (a := a) (argsL := []) (rest := [(.int (Int32.ofNat j))]) (W34 hw) (W35 hw) (fun _ q => notFace_of_selects (args := #[]) (mvT q (W37 hw))) (W37 hw) (W36 hw) (W38 hw) (W10 hw) (by decide) (rm_len l Z a0 EL G a t kb cs h C.old S) (fun _ => rfl) rfl S.exa all0 (by decide) (by decide) (by decide) (by decide) (lenOf pd_282949 rfl) rfl (Nat.le_of_ble_eq_true rfl) rfl d21_4 (pc' := 7) rfl ?_
      intro vm2 T2 h2 v2 C2 A2 M2 q2
      obtain ⟨rfl, rfl⟩ := q2
      show Endw p e below T2 (mkF m 7 #[.val (.ref a), .val (.int (Int32.ofNat i)), .val (.int (Int32.ofNat j))] [(.int (Int32.ofNat cs.length)), (.int (Int32.ofNat j))]) _
      refine Endw.st (T' := T2) (g' := (mkF m 12 #[.val (.ref a), .val (.int (Int32.ofNat i)), .val (.int (Int32.ofNat j))] [(.int (Int32.ofNat j)), (.ref a)])) (fun tt_ kk_ => XS.icmpNo C2.here C2.hx rfl (C2.dec d21_7) rfl (XT.ii_ge_f ((own_lt (by omega) (by omega)).mpr (by omega))) (XS.aloadN C2.here C2.hx rfl (C2.dec d21_10) rfl rfl (XS.iloadN C2.here C2.hx rfl (C2.dec d21_11) rfl kk_))) ?_
      refine C2.virtual (y := (⟨"java/lang/String", "charAt", "(I)C"⟩ : MethodName)) (z := (⟨"java/lang/String", "charAt", "(I)C"⟩ : MethodName)) (W := 0) (a := a) (argsL := [(.int (Int32.ofNat j))]) (rest := []) (W86 hw) (W87 hw) (fun _ q => notFace_of_selects (args := #[]) (mvT q (W89 hw))) (W89 hw) (W88 hw) (W90 hw) (W10 hw) (by decide) (rm_chr l Z a0 EL G a t kb cs j y0 h C2.old S lt0 eg0) (fun _ => rfl) rfl S.exa all0 (by decide) (by decide) (by decide) (by decide) (lenOf pd_28492943 rfl) rfl (Nat.le_of_ble_eq_true rfl) rfl d21_12 (pc' := 15) rfl ?_
      intro vm3 T3 h3 v3 C3 A3 M3 q3
      obtain ⟨rfl, rfl⟩ := q3
      show Endw p e below T3 (mkF m 15 #[.val (.ref a), .val (.int (Int32.ofNat i)), .val (.int (Int32.ofNat j))] [(.int y0)]) _
      refine Endw.st (T' := T3) (g' := (mkF m 17 #[.val (.ref a), .val (.int (Int32.ofNat i)), .val (.int (Int32.ofNat j))] [(.int (48 : Int32)), (.int y0)])) (fun tt_ kk_ => XS.bipush C3.here C3.hx rfl (C3.dec d21_15) kk_) ?_
      by_cases c4 : y0 < (48 : Int32)
      · refine Endw.st (T' := T3) (g' := (mkF m 37 #[.val (.ref a), .val (.int (Int32.ofNat i)), .val (.int (Int32.ofNat j))] [(.int (Int32.ofNat j))])) (fun tt_ kk_ => XS.icmpYes C3.here C3.hx rfl (pc0 := 17) rfl (C3.dec d21_17) rfl (XT.ii_lt_t c4) (by decide) rfl (XS.iloadN C3.here C3.hx rfl (C3.dec d21_36) rfl kk_)) ?_
        exact C3.retI (t := .int) rfl (by simp) rfl d21_37 (by decide) (by decide) ⟨by rw [← hD, ec0, own_dg, if_pos c4]; rfl, rfl⟩
      · refine Endw.st (T' := T3) (g' := (mkF m 22 #[.val (.ref a), .val (.int (Int32.ofNat i)), .val (.int (Int32.ofNat j))] [(.int (Int32.ofNat j)), (.ref a)])) (fun tt_ kk_ => XS.icmpNo C3.here C3.hx rfl (C3.dec d21_17) rfl (XT.ii_lt_f c4) (XS.aloadN C3.here C3.hx rfl (C3.dec d21_20) rfl rfl (XS.iloadN C3.here C3.hx rfl (C3.dec d21_21) rfl kk_))) ?_
        refine C3.virtual (y := (⟨"java/lang/String", "charAt", "(I)C"⟩ : MethodName)) (z := (⟨"java/lang/String", "charAt", "(I)C"⟩ : MethodName)) (W := 0) (a := a) (argsL := [(.int (Int32.ofNat j))]) (rest := []) (W86 hw) (W87 hw) (fun _ q => notFace_of_selects (args := #[]) (mvT q (W89 hw))) (W89 hw) (W88 hw) (W90 hw) (W10 hw) (by decide) (rm_chr l Z a0 EL G a t kb cs j y0 h C3.old S lt0 eg0) (fun _ => rfl) rfl S.exa all0 (by decide) (by decide) (by decide) (by decide) (lenOf pd_28492943 rfl) rfl (Nat.le_of_ble_eq_true rfl) rfl d21_22 (pc' := 25) rfl ?_
        intro vm5 T5 h5 v5 C5 A5 M5 q5
        obtain ⟨rfl, rfl⟩ := q5
        show Endw p e below T5 (mkF m 25 #[.val (.ref a), .val (.int (Int32.ofNat i)), .val (.int (Int32.ofNat j))] [(.int y0)]) _
        refine Endw.st (T' := T5) (g' := (mkF m 27 #[.val (.ref a), .val (.int (Int32.ofNat i)), .val (.int (Int32.ofNat j))] [(.int (57 : Int32)), (.int y0)])) (fun tt_ kk_ => XS.bipush C5.here C5.hx rfl (C5.dec d21_25) kk_) ?_
        by_cases c6 : (57 : Int32) < y0
        · refine Endw.st (T' := T5) (g' := (mkF m 37 #[.val (.ref a), .val (.int (Int32.ofNat i)), .val (.int (Int32.ofNat j))] [(.int (Int32.ofNat j))])) (fun tt_ kk_ => XS.icmpYes C5.here C5.hx rfl (pc0 := 27) rfl (C5.dec d21_27) rfl (XT.ii_gt_t c6) (by decide) rfl (XS.iloadN C5.here C5.hx rfl (C5.dec d21_36) rfl kk_)) ?_
          exact C5.retI (t := .int) rfl (by simp) rfl d21_37 (by decide) (by decide) ⟨by rw [← hD, ec0, own_dg, if_neg c4, if_pos c6]; rfl, rfl⟩
        · refine Endw.st (T' := T5) (g' := (mkF m 33 #[.val (.ref a), .val (.int (Int32.ofNat i)), .val (.int ((Int32.ofNat j) + (1 : Int32)))] [])) (fun tt_ kk_ => XS.icmpNo C5.here C5.hx rfl (C5.dec d21_27) rfl (XT.ii_gt_f c6) (XS.iinc C5.here C5.hx rfl (C5.dec d21_30) rfl (l' := #[.val (.ref a), .val (.int (Int32.ofNat i)), .val (.int ((Int32.ofNat j) + (1 : Int32)))]) rfl kk_)) ?_
          rw [show ((Int32.ofNat j) + (1 : Int32)) = (Int32.ofNat (j + 1)) from own_inc _]
          refine Endw.st (T' := T5) (g' := (mkF m 2 #[.val (.ref a), .val (.int (Int32.ofNat i)), .val (.int (Int32.ofNat (j + 1)))] [])) (fun tt_ kk_ => XS.goto C5.here C5.hx rfl (pc0 := 33) rfl (C5.dec d21_33) (by decide) rfl kk_) ?_
          exact ih (j + 1) vm5 T5  (by omega) (by rw [← hD, ec0, own_dg, if_neg c4, if_neg c6, er0]; congr 1; omega) C5
  refine Endw.st (T' := T0) (g' := (mkF m 2 #[.val (.ref a), .val (.int (Int32.ofNat i)), .val (.int (Int32.ofNat i))] [])) (fun tt_ kk_ => XS.iloadN C0.here C0.hx rfl (C0.dec d21_0) rfl (XS.istoreN C0.here C0.hx rfl (C0.dec d21_1) rfl (l' := #[.val (.ref a), .val (.int (Int32.ofNat i)), .val (.int (Int32.ofNat i))]) rfl kk_)) ?_
  exact J2 (cs.length - i) i s.vm T0  (by omega) rfl C0
set_option maxRecDepth 65536 in
set_option maxHeartbeats 40000000 in
theorem rm_isDec (l : Launch) (Z : State) (a0 : Array Value) (EL : List (String × Nat)) (G : Glob Z a0 EL) (a t : Addr) (kb : ClassId) (cs : List Int32) (h : Heap) (O : Ext Z.heap h) (S : Txt Z h a t kb cs) (h8 : cs.length ≤ 8) :
    Met l Z EL true (⟨"com/example/cohabit/cohabit/Numbers", "isDecimal", "(Ljava/lang/String;)Z"⟩ : MethodName) prog_24_method_2_code 5 (some .boolean) [] ({ frames := 6, cells := 0, slots := 0, locals := 80 } : Room) #[(.ref a)] h [] (fun r h' => r = some (.int (own_isDec cs)) ∧ h = h') := by
  have hw := G.hw
  obtain ⟨zc, Sc, hzc⟩ := G.cs
  obtain ⟨vf, Sf, hvf⟩ := G.fm
  obtain Sa := G.u1
  obtain Sh := G.u2
  obtain Sl := G.u3
  refine Met.of (plainFor_of_name pn_756d62657273_0) G.ew O ?_
  intro p e s m below meth c T0 C0 S0
  refine Endw.eq (g' := mkF m 0 #[.val (.ref a), .unset, .unset, .unset, .unset] []) (by first | rfl | (simp [entryFrame, mkF, argsToLocals, own_cI, own_cR, own_cN, own_cJ, own_cD, maxLocals]; done)) ?_
  have J179 : ∀ (i : Nat) (l2 : Slot) (l3 : Slot) (l4 : Slot) (vm : Vm) (T : State) , (i ≤ cs.length) → (own_D4 (cs.drop i) = own_isDec cs) → Core p l e ({ frames := 6, cells := 0, slots := 0, locals := 80 } : Room) s m #[(.ref a)] below meth c prog_24_method_2_code 5 (some .boolean) "isDecimal" "com/example/cohabit/cohabit/Numbers" Z a0 EL true vm T h 0 0 → Endw p e below T (mkF m 179 #[.val (.ref a), .val (.int (Int32.ofNat i)), l2, l3, l4] []) (Fin s Z EL true (fun r h' => r = some (.int (own_isDec cs)) ∧ h = h') (({ frames := 6, cells := 0, slots := 0, locals := 80 } : Room)).cells (({ frames := 6, cells := 0, slots := 0, locals := 80 } : Room)).slots) := by
    intro i l2 l3 l4 vm T hi hD C
    rcases own_at cs (i := i) (by omega) with ⟨en1, el1⟩ | ⟨y1, r1, ec1, lt1, eg1, er1⟩
    · refine Endw.st (T' := T) (g' := (mkF m 181 #[.val (.ref a), .val (.int (Int32.ofNat i)), l2, l3, l4] [(.ref a), (.int (Int32.ofNat i))])) (fun tt_ kk_ => XS.iloadN C.here C.hx rfl (C.dec d22_179) rfl (XS.aloadN C.here C.hx rfl (C.dec d22_180) rfl rfl kk_)) ?_
      refine C.virtual (y := (⟨"java/lang/String", "length", "()I"⟩ : MethodName)) (z := (⟨"java/lang/String", "length", "()I"⟩ : MethodName)) (W := 1) (a := a) (argsL := []) (rest := [(.int (Int32.ofNat i))]) (W34 hw) (W35 hw) (fun _ q => notFace_of_selects (args := #[]) (mvT q (W37 hw))) (W37 hw) (W36 hw) (W38 hw) (W10 hw) (by decide) (rm_len l Z a0 EL G a t kb cs h C.old S) (fun _ => rfl) rfl S.exa all0 (by decide) (by decide) (by decide) (by decide) (lenOf pd_282949 rfl) rfl (Nat.le_of_ble_eq_true rfl) rfl d22_181 (pc' := 184) rfl ?_
      intro vm2 T2 h2 v2 C2 A2 M2 q2
      obtain ⟨rfl, rfl⟩ := q2
      show Endw p e below T2 (mkF m 184 #[.val (.ref a), .val (.int (Int32.ofNat i)), l2, l3, l4] [(.int (Int32.ofNat cs.length)), (.int (Int32.ofNat i))]) _
      refine Endw.st (T' := T2) (g' := (mkF m 192 #[.val (.ref a), .val (.int (Int32.ofNat i)), l2, l3, l4] [(.int (1 : Int32))])) (fun tt_ kk_ => XS.icmpNo C2.here C2.hx rfl (C2.dec d22_184) rfl (XT.ii_ne_f (congrArg Int32.ofNat el1)) (XS.iconst C2.here C2.hx rfl (C2.dec d22_187) (XS.goto C2.here C2.hx rfl (pc0 := 188) rfl (C2.dec d22_188) (by decide) rfl kk_))) ?_
      exact C2.retI (t := .boolean) rfl (by simp) rfl d22_192 (by decide) (by decide) ⟨by rw [← hD, en1] <;> rfl, rfl⟩
    · refine Endw.st (T' := T) (g' := (mkF m 181 #[.val (.ref a), .val (.int (Int32.ofNat i)), l2, l3, l4] [(.ref a), (.int (Int32.ofNat i))])) (fun tt_ kk_ => XS.iloadN C.here C.hx rfl (C.dec d22_179) rfl (XS.aloadN C.here C.hx rfl (C.dec d22_180) rfl rfl kk_)) ?_
      refine C.virtual (y := (⟨"java/lang/String", "length", "()I"⟩ : MethodName)) (z := (⟨"java/lang/String", "length", "()I"⟩ : MethodName)) (W := 1) (a := a) (argsL := []) (rest := [(.int (Int32.ofNat i))]) (W34 hw) (W35 hw) (fun _ q => notFace_of_selects (args := #[]) (mvT q (W37 hw))) (W37 hw) (W36 hw) (W38 hw) (W10 hw) (by decide) (rm_len l Z a0 EL G a t kb cs h C.old S) (fun _ => rfl) rfl S.exa all0 (by decide) (by decide) (by decide) (by decide) (lenOf pd_282949 rfl) rfl (Nat.le_of_ble_eq_true rfl) rfl d22_181 (pc' := 184) rfl ?_
      intro vm3 T3 h3 v3 C3 A3 M3 q3
      obtain ⟨rfl, rfl⟩ := q3
      show Endw p e below T3 (mkF m 184 #[.val (.ref a), .val (.int (Int32.ofNat i)), l2, l3, l4] [(.int (Int32.ofNat cs.length)), (.int (Int32.ofNat i))]) _
      refine Endw.st (T' := T3) (g' := (mkF m 192 #[.val (.ref a), .val (.int (Int32.ofNat i)), l2, l3, l4] [(.int (0 : Int32))])) (fun tt_ kk_ => XS.icmpYes C3.here C3.hx rfl (pc0 := 184) rfl (C3.dec d22_184) rfl (XT.ii_ne_t (fun q => absurd ((own_ieq (by omega) (by omega)).mp q) (by omega))) (by decide) rfl (XS.iconst C3.here C3.hx rfl (C3.dec d22_191) kk_)) ?_
      exact C3.retI (t := .boolean) rfl (by simp) rfl d22_192 (by decide) (by decide) ⟨by rw [← hD, ec1] <;> rfl, rfl⟩
  have J161 : ∀ (j : Nat) (l2 : Slot) (l3 : Slot) (vm : Vm) (T : State) , (j ≤ cs.length) → (own_D6 (cs.drop j) = own_isDec cs) → Core p l e ({ frames := 6, cells := 0, slots := 0, locals := 80 } : Room) s m #[(.ref a)] below meth c prog_24_method_2_code 5 (some .boolean) "isDecimal" "com/example/cohabit/cohabit/Numbers" Z a0 EL true vm T h 0 0 → Endw p e below T (mkF m 161 #[.val (.ref a), .val (.int (Int32.ofNat j)), l2, l3, .unset] []) (Fin s Z EL true (fun r h' => r = some (.int (own_isDec cs)) ∧ h = h') (({ frames := 6, cells := 0, slots := 0, locals := 80 } : Room)).cells (({ frames := 6, cells := 0, slots := 0, locals := 80 } : Room)).slots) := by
    intro j l2 l3 vm T hi hD C
    have bd := own_dgB cs j
    by_cases c4 : own_dg (cs.drop j) = 0
    · refine Endw.st (T' := T) (g' := (mkF m 167 #[.val (.ref a), .val (.int (Int32.ofNat j)), l2, l3, .val (.int (Int32.ofNat j))] [(.int (Int32.ofNat j)), (.ref a)])) (fun tt_ kk_ => XS.iloadN C.here C.hx rfl (C.dec d22_161) rfl (XS.istore C.here C.hx rfl (C.dec d22_162) rfl (l' := #[.val (.ref a), .val (.int (Int32.ofNat j)), l2, l3, .val (.int (Int32.ofNat j))]) rfl (XS.aloadN C.here C.hx rfl (C.dec d22_164) rfl rfl (XS.iload C.here C.hx rfl (C.dec d22_165) rfl kk_)))) ?_
      refine C.static (y := (⟨"com/example/cohabit/cohabit/Numbers", "digitsFrom", "(Ljava/lang/String;I)I"⟩ : MethodName)) (W := 0) (argsL := [(.ref a), (.int (Int32.ofNat j))]) (rest := []) (W45 hw) (W46 hw) (W47 hw) (W32 hw) (by decide) (rm_df l Z a0 EL G a t kb cs j h C.old S h8 (by omega)) (fun _ => rfl) rfl all0 (by decide) (by decide) (by decide) (by decide) (lenOf pd_15 rfl) rfl (Nat.le_of_ble_eq_true rfl) rfl d22_167 (pc' := 170) rfl ?_
      intro vm5 T5 h5 v5 C5 A5 M5 q5
      obtain ⟨rfl, rfl⟩ := q5
      show Endw p e below T5 (mkF m 170 #[.val (.ref a), .val (.int (Int32.ofNat j)), l2, l3, .val (.int (Int32.ofNat j))] [(.int (Int32.ofNat (j + own_dg (cs.drop j))))]) _
      refine Endw.st (T' := T5) (g' := (mkF m 178 #[.val (.ref a), .val (.int (Int32.ofNat (j + own_dg (cs.drop j)))), l2, l3, .val (.int (Int32.ofNat j))] [(.int (0 : Int32))])) (fun tt_ kk_ => XS.istoreN C5.here C5.hx rfl (C5.dec d22_170) rfl (l' := #[.val (.ref a), .val (.int (Int32.ofNat (j + own_dg (cs.drop j)))), l2, l3, .val (.int (Int32.ofNat j))]) rfl (XS.iloadN C5.here C5.hx rfl (C5.dec d22_171) rfl (XS.iload C5.here C5.hx rfl (C5.dec d22_172) rfl (XS.icmpNo C5.here C5.hx rfl (C5.dec d22_174) rfl (XT.ii_ne_f (by rw [c4, Nat.add_zero])) (XS.iconst C5.here C5.hx rfl (C5.dec d22_177) kk_))))) ?_
      exact C5.retI (t := .boolean) rfl (by simp) rfl d22_178 (by decide) (by decide) ⟨by rw [← hD, own_D6, if_pos c4] <;> rfl, rfl⟩
    · refine Endw.st (T' := T) (g' := (mkF m 167 #[.val (.ref a), .val (.int (Int32.ofNat j)), l2, l3, .val (.int (Int32.ofNat j))] [(.int (Int32.ofNat j)), (.ref a)])) (fun tt_ kk_ => XS.iloadN C.here C.hx rfl (C.dec d22_161) rfl (XS.istore C.here C.hx rfl (C.dec d22_162) rfl (l' := #[.val (.ref a), .val (.int (Int32.ofNat j)), l2, l3, .val (.int (Int32.ofNat j))]) rfl (XS.aloadN C.here C.hx rfl (C.dec d22_164) rfl rfl (XS.iload C.here C.hx rfl (C.dec d22_165) rfl kk_)))) ?_
      refine C.static (y := (⟨"com/example/cohabit/cohabit/Numbers", "digitsFrom", "(Ljava/lang/String;I)I"⟩ : MethodName)) (W := 0) (argsL := [(.ref a), (.int (Int32.ofNat j))]) (rest := []) (W45 hw) (W46 hw) (W47 hw) (W32 hw) (by decide) (rm_df l Z a0 EL G a t kb cs j h C.old S h8 (by omega)) (fun _ => rfl) rfl all0 (by decide) (by decide) (by decide) (by decide) (lenOf pd_15 rfl) rfl (Nat.le_of_ble_eq_true rfl) rfl d22_167 (pc' := 170) rfl ?_
      intro vm6 T6 h6 v6 C6 A6 M6 q6
      obtain ⟨rfl, rfl⟩ := q6
      show Endw p e below T6 (mkF m 170 #[.val (.ref a), .val (.int (Int32.ofNat j)), l2, l3, .val (.int (Int32.ofNat j))] [(.int (Int32.ofNat (j + own_dg (cs.drop j))))]) _
      refine Endw.st (T' := T6) (g' := (mkF m 179 #[.val (.ref a), .val (.int (Int32.ofNat (j + own_dg (cs.drop j)))), l2, l3, .val (.int (Int32.ofNat j))] [])) (fun tt_ kk_ => XS.istoreN C6.here C6.hx rfl (C6.dec d22_170) rfl (l' := #[.val (.ref a), .val (.int (Int32.ofNat (j + own_dg (cs.drop j)))), l2, l3, .val (.int (Int32.ofNat j))]) rfl (XS.iloadN C6.here C6.hx rfl (C6.dec d22_171) rfl (XS.iload C6.here C6.hx rfl (C6.dec d22_172) rfl (XS.icmpYes C6.here C6.hx rfl (pc0 := 174) rfl (C6.dec d22_174) rfl (XT.ii_ne_t (fun q => absurd ((own_ieq (by omega) (by omega)).mp q) (by omega))) (by decide) rfl kk_)))) ?_
      exact J179 (j + own_dg (cs.drop j)) (l2) (l3) (.val (.int (Int32.ofNat j))) vm6 T6  (by omega) (by rw [← own_dd cs j (own_dg (cs.drop j)), ← hD, own_D6, if_neg c4]) C6
  have J127 : ∀ (i : Nat) (l2 : Slot) (l3 : Slot) (vm : Vm) (T : State) , (i < cs.length) → (own_D5 (cs.drop (i + 1)) = own_isDec cs) → Core p l e ({ frames := 6, cells := 0, slots := 0, locals := 80 } : Room) s m #[(.ref a)] below meth c prog_24_method_2_code 5 (some .boolean) "isDecimal" "com/example/cohabit/cohabit/Numbers" Z a0 EL true vm T h 0 0 → Endw p e below T (mkF m 127 #[.val (.ref a), .val (.int (Int32.ofNat i)), l2, l3, .unset] []) (Fin s Z EL true (fun r h' => r = some (.int (own_isDec cs)) ∧ h = h') (({ frames := 6, cells := 0, slots := 0, locals := 80 } : Room)).cells (({ frames := 6, cells := 0, slots := 0, locals := 80 } : Room)).slots) := by
    intro i l2 l3 vm T hi hD C
    rcases own_at cs (i := (i + 1)) (by omega) with ⟨en7, el7⟩ | ⟨y7, r7, ec7, lt7, eg7, er7⟩
    · refine Endw.st (T' := T) (g' := (mkF m 130 #[.val (.ref a), .val (.int ((Int32.ofNat i) + (1 : Int32))), l2, l3, .unset] [])) (fun tt_ kk_ => XS.iinc C.here C.hx rfl (C.dec d22_127) rfl (l' := #[.val (.ref a), .val (.int ((Int32.ofNat i) + (1 : Int32))), l2, l3, .unset]) rfl kk_) ?_
      rw [show ((Int32.ofNat i) + (1 : Int32)) = (Int32.ofNat (i + 1)) from own_inc _]
      refine Endw.st (T' := T) (g' := (mkF m 132 #[.val (.ref a), .val (.int (Int32.ofNat (i + 1))), l2, l3, .unset] [(.ref a), (.int (Int32.ofNat (i + 1)))])) (fun tt_ kk_ => XS.iloadN C.here C.hx rfl (C.dec d22_130) rfl (XS.aloadN C.here C.hx rfl (C.dec d22_131) rfl rfl kk_)) ?_
      refine C.virtual (y := (⟨"java/lang/String", "length", "()I"⟩ : MethodName)) (z := (⟨"java/lang/String", "length", "()I"⟩ : MethodName)) (W := 1) (a := a) (argsL := []) (rest := [(.int (Int32.ofNat (i + 1)))]) (W34 hw) (W35 hw) (fun _ q => notFace_of_selects (args := #[]) (mvT q (W37 hw))) (W37 hw) (W36 hw) (W38 hw) (W10 hw) (by decide) (rm_len l Z a0 EL G a t kb cs h C.old S) (fun _ => rfl) rfl S.exa all0 (by decide) (by decide) (by decide) (by decide) (lenOf pd_282949 rfl) rfl (Nat.le_of_ble_eq_true rfl) rfl d22_132 (pc' := 135) rfl ?_
      intro vm8 T8 h8 v8 C8 A8 M8 q8
      obtain ⟨rfl, rfl⟩ := q8
      show Endw p e below T8 (mkF m 135 #[.val (.ref a), .val (.int (Int32.ofNat (i + 1))), l2, l3, .unset] [(.int (Int32.ofNat cs.length)), (.int (Int32.ofNat (i + 1)))]) _
      refine Endw.st (T' := T8) (g' := (mkF m 161 #[.val (.ref a), .val (.int (Int32.ofNat (i + 1))), l2, l3, .unset] [])) (fun tt_ kk_ => XS.icmpYes C8.here C8.hx rfl (pc0 := 135) rfl (C8.dec d22_135) rfl (XT.ii_ge_t (fun q => absurd ((own_lt (by omega) (by omega)).mp q) (by omega))) (by decide) rfl kk_) ?_
      exact J161 (i + 1) (l2) (l3) vm8 T8  (by omega) (by rw [← hD, en7] <;> rfl) C8
    · refine Endw.st (T' := T) (g' := (mkF m 130 #[.val (.ref a), .val (.int ((Int32.ofNat i) + (1 : Int32))), l2, l3, .unset] [])) (fun tt_ kk_ => XS.iinc C.here C.hx rfl (C.dec d22_127) rfl (l' := #[.val (.ref a), .val (.int ((Int32.ofNat i) + (1 : Int32))), l2, l3, .unset]) rfl kk_) ?_
      rw [show ((Int32.ofNat i) + (1 : Int32)) = (Int32.ofNat (i + 1)) from own_inc _]
      refine Endw.st (T' := T) (g' := (mkF m 132 #[.val (.ref a), .val (.int (Int32.ofNat (i + 1))), l2, l3, .unset] [(.ref a), (.int (Int32.ofNat (i + 1)))])) (fun tt_ kk_ => XS.iloadN C.here C.hx rfl (C.dec d22_130) rfl (XS.aloadN C.here C.hx rfl (C.dec d22_131) rfl rfl kk_)) ?_
      refine C.virtual (y := (⟨"java/lang/String", "length", "()I"⟩ : MethodName)) (z := (⟨"java/lang/String", "length", "()I"⟩ : MethodName)) (W := 1) (a := a) (argsL := []) (rest := [(.int (Int32.ofNat (i + 1)))]) (W34 hw) (W35 hw) (fun _ q => notFace_of_selects (args := #[]) (mvT q (W37 hw))) (W37 hw) (W36 hw) (W38 hw) (W10 hw) (by decide) (rm_len l Z a0 EL G a t kb cs h C.old S) (fun _ => rfl) rfl S.exa all0 (by decide) (by decide) (by decide) (by decide) (lenOf pd_282949 rfl) rfl (Nat.le_of_ble_eq_true rfl) rfl d22_132 (pc' := 135) rfl ?_
      intro vm9 T9 h9 v9 C9 A9 M9 q9
      obtain ⟨rfl, rfl⟩ := q9
      show Endw p e below T9 (mkF m 135 #[.val (.ref a), .val (.int (Int32.ofNat (i + 1))), l2, l3, .unset] [(.int (Int32.ofNat cs.length)), (.int (Int32.ofNat (i + 1)))]) _
      refine Endw.st (T' := T9) (g' := (mkF m 140 #[.val (.ref a), .val (.int (Int32.ofNat (i + 1))), l2, l3, .unset] [(.int (Int32.ofNat (i + 1))), (.ref a)])) (fun tt_ kk_ => XS.icmpNo C9.here C9.hx rfl (C9.dec d22_135) rfl (XT.ii_ge_f ((own_lt (by omega) (by omega)).mpr (by omega))) (XS.aloadN C9.here C9.hx rfl (C9.dec d22_138) rfl rfl (XS.iloadN C9.here C9.hx rfl (C9.dec d22_139) rfl kk_))) ?_
      refine C9.virtual (y := (⟨"java/lang/String", "charAt", "(I)C"⟩ : MethodName)) (z := (⟨"java/lang/String", "charAt", "(I)C"⟩ : MethodName)) (W := 0) (a := a) (argsL := [(.int (Int32.ofNat (i + 1)))]) (rest := []) (W86 hw) (W87 hw) (fun _ q => notFace_of_selects (args := #[]) (mvT q (W89 hw))) (W89 hw) (W88 hw) (W90 hw) (W10 hw) (by decide) (rm_chr l Z a0 EL G a t kb cs (i + 1) y7 h C9.old S lt7 eg7) (fun _ => rfl) rfl S.exa all0 (by decide) (by decide) (by decide) (by decide) (lenOf pd_28492943 rfl) rfl (Nat.le_of_ble_eq_true rfl) rfl d22_140 (pc' := 143) rfl ?_
      intro vm10 T10 h10 v10 C10 A10 M10 q10
      obtain ⟨rfl, rfl⟩ := q10
      show Endw p e below T10 (mkF m 143 #[.val (.ref a), .val (.int (Int32.ofNat (i + 1))), l2, l3, .unset] [(.int y7)]) _
      refine Endw.st (T' := T10) (g' := (mkF m 145 #[.val (.ref a), .val (.int (Int32.ofNat (i + 1))), l2, l3, .unset] [(.int (43 : Int32)), (.int y7)])) (fun tt_ kk_ => XS.bipush C10.here C10.hx rfl (C10.dec d22_143) kk_) ?_
      by_cases c11 : y7 = (43 : Int32)
      · refine Endw.st (T' := T10) (g' := (mkF m 161 #[.val (.ref a), .val (.int ((Int32.ofNat (i + 1)) + (1 : Int32))), l2, l3, .unset] [])) (fun tt_ kk_ => XS.icmpYes C10.here C10.hx rfl (pc0 := 145) rfl (C10.dec d22_145) rfl (XT.ii_eq_t c11) (by decide) rfl (XS.iinc C10.here C10.hx rfl (C10.dec d22_158) rfl (l' := #[.val (.ref a), .val (.int ((Int32.ofNat (i + 1)) + (1 : Int32))), l2, l3, .unset]) rfl kk_)) ?_
        rw [show ((Int32.ofNat (i + 1)) + (1 : Int32)) = (Int32.ofNat ((i + 1) + 1)) from own_inc _]
        exact J161 ((i + 1) + 1) (l2) (l3) vm10 T10  (by omega) (by rw [er7, ← hD, ec7, own_D5, own_sg, if_pos c11] <;> rfl) C10
      · refine Endw.st (T' := T10) (g' := (mkF m 150 #[.val (.ref a), .val (.int (Int32.ofNat (i + 1))), l2, l3, .unset] [(.int (Int32.ofNat (i + 1))), (.ref a)])) (fun tt_ kk_ => XS.icmpNo C10.here C10.hx rfl (C10.dec d22_145) rfl (XT.ii_eq_f c11) (XS.aloadN C10.here C10.hx rfl (C10.dec d22_148) rfl rfl (XS.iloadN C10.here C10.hx rfl (C10.dec d22_149) rfl kk_))) ?_
        refine C10.virtual (y := (⟨"java/lang/String", "charAt", "(I)C"⟩ : MethodName)) (z := (⟨"java/lang/String", "charAt", "(I)C"⟩ : MethodName)) (W := 0) (a := a) (argsL := [(.int (Int32.ofNat (i + 1)))]) (rest := []) (W86 hw) (W87 hw) (fun _ q => notFace_of_selects (args := #[]) (mvT q (W89 hw))) (W89 hw) (W88 hw) (W90 hw) (W10 hw) (by decide) (rm_chr l Z a0 EL G a t kb cs (i + 1) y7 h C10.old S lt7 eg7) (fun _ => rfl) rfl S.exa all0 (by decide) (by decide) (by decide) (by decide) (lenOf pd_28492943 rfl) rfl (Nat.le_of_ble_eq_true rfl) rfl d22_150 (pc' := 153) rfl ?_
        intro vm12 T12 h12 v12 C12 A12 M12 q12
        obtain ⟨rfl, rfl⟩ := q12
        show Endw p e below T12 (mkF m 153 #[.val (.ref a), .val (.int (Int32.ofNat (i + 1))), l2, l3, .unset] [(.int y7)]) _
        refine Endw.st (T' := T12) (g' := (mkF m 155 #[.val (.ref a), .val (.int (Int32.ofNat (i + 1))), l2, l3, .unset] [(.int (45 : Int32)), (.int y7)])) (fun tt_ kk_ => XS.bipush C12.here C12.hx rfl (C12.dec d22_153) kk_) ?_
        by_cases c13 : y7 = (45 : Int32)
        · refine Endw.st (T' := T12) (g' := (mkF m 161 #[.val (.ref a), .val (.int ((Int32.ofNat (i + 1)) + (1 : Int32))), l2, l3, .unset] [])) (fun tt_ kk_ => XS.icmpNo C12.here C12.hx rfl (C12.dec d22_155) rfl (XT.ii_ne_f c13) (XS.iinc C12.here C12.hx rfl (C12.dec d22_158) rfl (l' := #[.val (.ref a), .val (.int ((Int32.ofNat (i + 1)) + (1 : Int32))), l2, l3, .unset]) rfl kk_)) ?_
          rw [show ((Int32.ofNat (i + 1)) + (1 : Int32)) = (Int32.ofNat ((i + 1) + 1)) from own_inc _]
          exact J161 ((i + 1) + 1) (l2) (l3) vm12 T12  (by omega) (by rw [er7, ← hD, ec7, own_D5, own_sg, if_neg c11, if_pos c13] <;> rfl) C12
        · refine Endw.st (T' := T12) (g' := (mkF m 161 #[.val (.ref a), .val (.int (Int32.ofNat (i + 1))), l2, l3, .unset] [])) (fun tt_ kk_ => XS.icmpYes C12.here C12.hx rfl (pc0 := 155) rfl (C12.dec d22_155) rfl (XT.ii_ne_t c13) (by decide) rfl kk_) ?_
          exact J161 (i + 1) (l2) (l3) vm12 T12  (by omega) (by rw [← hD, ec7, own_D5, own_sg, if_neg c11, if_neg c13] <;> rfl) C12
  have J99 : ∀ (i : Nat) (l2 : Slot) (l3 : Slot) (vm : Vm) (T : State) , (i ≤ cs.length) → (own_D3 (cs.drop i) = own_isDec cs) → Core p l e ({ frames := 6, cells := 0, slots := 0, locals := 80 } : Room) s m #[(.ref a)] below meth c prog_24_method_2_code 5 (some .boolean) "isDecimal" "com/example/cohabit/cohabit/Numbers" Z a0 EL true vm T h 0 0 → Endw p e below T (mkF m 99 #[.val (.ref a), .val (.int (Int32.ofNat i)), l2, l3, .unset] []) (Fin s Z EL true (fun r h' => r = some (.int (own_isDec cs)) ∧ h = h') (({ frames := 6, cells := 0, slots := 0, locals := 80 } : Room)).cells (({ frames := 6, cells := 0, slots := 0, locals := 80 } : Room)).slots) := by
    intro i l2 l3 vm T hi hD C
    rcases own_at cs (i := i) (by omega) with ⟨en14, el14⟩ | ⟨y14, r14, ec14, lt14, eg14, er14⟩
    · refine Endw.st (T' := T) (g' := (mkF m 101 #[.val (.ref a), .val (.int (Int32.ofNat i)), l2, l3, .unset] [(.ref a), (.int (Int32.ofNat i))])) (fun tt_ kk_ => XS.iloadN C.here C.hx rfl (C.dec d22_99) rfl (XS.aloadN C.here C.hx rfl (C.dec d22_100) rfl rfl kk_)) ?_
      refine C.virtual (y := (⟨"java/lang/String", "length", "()I"⟩ : MethodName)) (z := (⟨"java/lang/String", "length", "()I"⟩ : MethodName)) (W := 1) (a := a) (argsL := []) (rest := [(.int (Int32.ofNat i))]) (W34 hw) (W35 hw) (fun _ q => notFace_of_selects (args := #[]) (mvT q (W37 hw))) (W37 hw) (W36 hw) (W38 hw) (W10 hw) (by decide) (rm_len l Z a0 EL G a t kb cs h C.old S) (fun _ => rfl) rfl S.exa all0 (by decide) (by decide) (by decide) (by decide) (lenOf pd_282949 rfl) rfl (Nat.le_of_ble_eq_true rfl) rfl d22_101 (pc' := 104) rfl ?_
      intro vm15 T15 h15 v15 C15 A15 M15 q15
      obtain ⟨rfl, rfl⟩ := q15
      show Endw p e below T15 (mkF m 104 #[.val (.ref a), .val (.int (Int32.ofNat i)), l2, l3, .unset] [(.int (Int32.ofNat cs.length)), (.int (Int32.ofNat i))]) _
      refine Endw.st (T' := T15) (g' := (mkF m 179 #[.val (.ref a), .val (.int (Int32.ofNat i)), l2, l3, .unset] [])) (fun tt_ kk_ => XS.icmpYes C15.here C15.hx rfl (pc0 := 104) rfl (C15.dec d22_104) rfl (XT.ii_ge_t (fun q => absurd ((own_lt (by omega) (by omega)).mp q) (by omega))) (by decide) rfl kk_) ?_
      exact J179 i (l2) (l3) (.unset) vm15 T15  (by omega) (by rw [← hD, en14] <;> rfl) C15
    · refine Endw.st (T' := T) (g' := (mkF m 101 #[.val (.ref a), .val (.int (Int32.ofNat i)), l2, l3, .unset] [(.ref a), (.int (Int32.ofNat i))])) (fun tt_ kk_ => XS.iloadN C.here C.hx rfl (C.dec d22_99) rfl (XS.aloadN C.here C.hx rfl (C.dec d22_100) rfl rfl kk_)) ?_
      refine C.virtual (y := (⟨"java/lang/String", "length", "()I"⟩ : MethodName)) (z := (⟨"java/lang/String", "length", "()I"⟩ : MethodName)) (W := 1) (a := a) (argsL := []) (rest := [(.int (Int32.ofNat i))]) (W34 hw) (W35 hw) (fun _ q => notFace_of_selects (args := #[]) (mvT q (W37 hw))) (W37 hw) (W36 hw) (W38 hw) (W10 hw) (by decide) (rm_len l Z a0 EL G a t kb cs h C.old S) (fun _ => rfl) rfl S.exa all0 (by decide) (by decide) (by decide) (by decide) (lenOf pd_282949 rfl) rfl (Nat.le_of_ble_eq_true rfl) rfl d22_101 (pc' := 104) rfl ?_
      intro vm16 T16 h16 v16 C16 A16 M16 q16
      obtain ⟨rfl, rfl⟩ := q16
      show Endw p e below T16 (mkF m 104 #[.val (.ref a), .val (.int (Int32.ofNat i)), l2, l3, .unset] [(.int (Int32.ofNat cs.length)), (.int (Int32.ofNat i))]) _
      refine Endw.st (T' := T16) (g' := (mkF m 109 #[.val (.ref a), .val (.int (Int32.ofNat i)), l2, l3, .unset] [(.int (Int32.ofNat i)), (.ref a)])) (fun tt_ kk_ => XS.icmpNo C16.here C16.hx rfl (C16.dec d22_104) rfl (XT.ii_ge_f ((own_lt (by omega) (by omega)).mpr (by omega))) (XS.aloadN C16.here C16.hx rfl (C16.dec d22_107) rfl rfl (XS.iloadN C16.here C16.hx rfl (C16.dec d22_108) rfl kk_))) ?_
      refine C16.virtual (y := (⟨"java/lang/String", "charAt", "(I)C"⟩ : MethodName)) (z := (⟨"java/lang/String", "charAt", "(I)C"⟩ : MethodName)) (W := 0) (a := a) (argsL := [(.int (Int32.ofNat i))]) (rest := []) (W86 hw) (W87 hw) (fun _ q => notFace_of_selects (args := #[]) (mvT q (W89 hw))) (W89 hw) (W88 hw) (W90 hw) (W10 hw) (by decide) (rm_chr l Z a0 EL G a t kb cs i y14 h C16.old S lt14 eg14) (fun _ => rfl) rfl S.exa all0 (by decide) (by decide) (by decide) (by decide) (lenOf pd_28492943 rfl) rfl (Nat.le_of_ble_eq_true rfl) rfl d22_109 (pc' := 112) rfl ?_
      intro vm17 T17 h17 v17 C17 A17 M17 q17
      obtain ⟨rfl, rfl⟩ := q17
      show Endw p e below T17 (mkF m 112 #[.val (.ref a), .val (.int (Int32.ofNat i)), l2, l3, .unset] [(.int y14)]) _
      refine Endw.st (T' := T17) (g' := (mkF m 114 #[.val (.ref a), .val (.int (Int32.ofNat i)), l2, l3, .unset] [(.int (101 : Int32)), (.int y14)])) (fun tt_ kk_ => XS.bipush C17.here C17.hx rfl (C17.dec d22_112) kk_) ?_
      by_cases c18 : y14 = (101 : Int32)
      · refine Endw.st (T' := T17) (g' := (mkF m 127 #[.val (.ref a), .val (.int (Int32.ofNat i)), l2, l3, .unset] [])) (fun tt_ kk_ => XS.icmpYes C17.here C17.hx rfl (pc0 := 114) rfl (C17.dec d22_114) rfl (XT.ii_eq_t c18) (by decide) rfl kk_) ?_
        exact J127 i (l2) (l3) vm17 T17  (by omega) (by rw [er14, ← hD, ec14, own_D3, if_pos c18]) C17
      · refine Endw.st (T' := T17) (g' := (mkF m 119 #[.val (.ref a), .val (.int (Int32.ofNat i)), l2, l3, .unset] [(.int (Int32.ofNat i)), (.ref a)])) (fun tt_ kk_ => XS.icmpNo C17.here C17.hx rfl (C17.dec d22_114) rfl (XT.ii_eq_f c18) (XS.aloadN C17.here C17.hx rfl (C17.dec d22_117) rfl rfl (XS.iloadN C17.here C17.hx rfl (C17.dec d22_118) rfl kk_))) ?_
        refine C17.virtual (y := (⟨"java/lang/String", "charAt", "(I)C"⟩ : MethodName)) (z := (⟨"java/lang/String", "charAt", "(I)C"⟩ : MethodName)) (W := 0) (a := a) (argsL := [(.int (Int32.ofNat i))]) (rest := []) (W86 hw) (W87 hw) (fun _ q => notFace_of_selects (args := #[]) (mvT q (W89 hw))) (W89 hw) (W88 hw) (W90 hw) (W10 hw) (by decide) (rm_chr l Z a0 EL G a t kb cs i y14 h C17.old S lt14 eg14) (fun _ => rfl) rfl S.exa all0 (by decide) (by decide) (by decide) (by decide) (lenOf pd_28492943 rfl) rfl (Nat.le_of_ble_eq_true rfl) rfl d22_119 (pc' := 122) rfl ?_
        intro vm19 T19 h19 v19 C19 A19 M19 q19
        obtain ⟨rfl, rfl⟩ := q19
        show Endw p e below T19 (mkF m 122 #[.val (.ref a), .val (.int (Int32.ofNat i)), l2, l3, .unset] [(.int y14)]) _
        refine Endw.st (T' := T19) (g' := (mkF m 124 #[.val (.ref a), .val (.int (Int32.ofNat i)), l2, l3, .unset] [(.int (69 : Int32)), (.int y14)])) (fun tt_ kk_ => XS.bipush C19.here C19.hx rfl (C19.dec d22_122) kk_) ?_
        by_cases c20 : y14 = (69 : Int32)
        · refine Endw.st (T' := T19) (g' := (mkF m 127 #[.val (.ref a), .val (.int (Int32.ofNat i)), l2, l3, .unset] [])) (fun tt_ kk_ => XS.icmpNo C19.here C19.hx rfl (C19.dec d22_124) rfl (XT.ii_ne_f c20) kk_) ?_
          exact J127 i (l2) (l3) vm19 T19  (by omega) (by rw [er14, ← hD, ec14, own_D3, if_neg c18, if_pos c20]) C19
        · refine Endw.st (T' := T19) (g' := (mkF m 179 #[.val (.ref a), .val (.int (Int32.ofNat i)), l2, l3, .unset] [])) (fun tt_ kk_ => XS.icmpYes C19.here C19.hx rfl (pc0 := 124) rfl (C19.dec d22_124) rfl (XT.ii_ne_t c20) (by decide) rfl kk_) ?_
          exact J179 i (l2) (l3) (.unset) vm19 T19  (by omega) (by rw [← hD, ec14, own_D3, if_neg c18, if_neg c20] <;> rfl) C19
  have J93 : ∀ (i : Nat) (d : Int32) (l2 : Slot) (vm : Vm) (T : State) , (i ≤ cs.length) → (own_D93 d (cs.drop i) = own_isDec cs) → Core p l e ({ frames := 6, cells := 0, slots := 0, locals := 80 } : Room) s m #[(.ref a)] below meth c prog_24_method_2_code 5 (some .boolean) "isDecimal" "com/example/cohabit/cohabit/Numbers" Z a0 EL true vm T h 0 0 → Endw p e below T (mkF m 93 #[.val (.ref a), .val (.int (Int32.ofNat i)), l2, .val (.int d), .unset] []) (Fin s Z EL true (fun r h' => r = some (.int (own_isDec cs)) ∧ h = h') (({ frames := 6, cells := 0, slots := 0, locals := 80 } : Room)).cells (({ frames := 6, cells := 0, slots := 0, locals := 80 } : Room)).slots) := by
    intro i d l2 vm T hi hD C
    refine Endw.st (T' := T) (g' := (mkF m 94 #[.val (.ref a), .val (.int (Int32.ofNat i)), l2, .val (.int d), .unset] [(.int d)])) (fun tt_ kk_ => XS.iloadN C.here C.hx rfl (C.dec d22_93) rfl kk_) ?_
    by_cases c21 : d = (0 : Int32)
    · refine Endw.st (T' := T) (g' := (mkF m 98 #[.val (.ref a), .val (.int (Int32.ofNat i)), l2, .val (.int d), .unset] [(.int (0 : Int32))])) (fun tt_ kk_ => XS.ifNo C.here C.hx rfl (C.dec d22_94) rfl (XT.i0_ne_f c21) (XS.iconst C.here C.hx rfl (C.dec d22_97) kk_)) ?_
      exact C.retI (t := .boolean) rfl (by simp) rfl d22_98 (by decide) (by decide) ⟨by rw [← hD, own_D93, if_pos c21] <;> rfl, rfl⟩
    · refine Endw.st (T' := T) (g' := (mkF m 99 #[.val (.ref a), .val (.int (Int32.ofNat i)), l2, .val (.int d), .unset] [])) (fun tt_ kk_ => XS.ifYes C.here C.hx rfl (pc0 := 94) rfl (C.dec d22_94) rfl (XT.i0_ne_t c21) (by decide) rfl kk_) ?_
      exact J99 i (l2) (.val (.int d)) vm T  (by omega) (by rw [← hD, own_D93, if_neg c21]) C
  have J52 : ∀ (i : Nat) (d : Int32) (vm : Vm) (T : State) , (i ≤ cs.length) → (own_D2 d (cs.drop i) = own_isDec cs) → Core p l e ({ frames := 6, cells := 0, slots := 0, locals := 80 } : Room) s m #[(.ref a)] below meth c prog_24_method_2_code 5 (some .boolean) "isDecimal" "com/example/cohabit/cohabit/Numbers" Z a0 EL true vm T h 0 0 → Endw p e below T (mkF m 52 #[.val (.ref a), .val (.int (Int32.ofNat i)), .val (.int (Int32.ofNat i)), .val (.int d), .unset] []) (Fin s Z EL true (fun r h' => r = some (.int (own_isDec cs)) ∧ h = h') (({ frames := 6, cells := 0, slots := 0, locals := 80 } : Room)).cells (({ frames := 6, cells := 0, slots := 0, locals := 80 } : Room)).slots) := by
    intro i d vm T hi hD C
    rcases own_at cs (i := i) (by omega) with ⟨en22, el22⟩ | ⟨y22, r22, ec22, lt22, eg22, er22⟩
    · refine Endw.st (T' := T) (g' := (mkF m 54 #[.val (.ref a), .val (.int (Int32.ofNat i)), .val (.int (Int32.ofNat i)), .val (.int d), .unset] [(.ref a), (.int (Int32.ofNat i))])) (fun tt_ kk_ => XS.iloadN C.here C.hx rfl (C.dec d22_52) rfl (XS.aloadN C.here C.hx rfl (C.dec d22_53) rfl rfl kk_)) ?_
      refine C.virtual (y := (⟨"java/lang/String", "length", "()I"⟩ : MethodName)) (z := (⟨"java/lang/String", "length", "()I"⟩ : MethodName)) (W := 1) (a := a) (argsL := []) (rest := [(.int (Int32.ofNat i))]) (W34 hw) (W35 hw) (fun _ q => notFace_of_selects (args := #[]) (mvT q (W37 hw))) (W37 hw) (W36 hw) (W38 hw) (W10 hw) (by decide) (rm_len l Z a0 EL G a t kb cs h C.old S) (fun _ => rfl) rfl S.exa all0 (by decide) (by decide) (by decide) (by decide) (lenOf pd_282949 rfl) rfl (Nat.le_of_ble_eq_true rfl) rfl d22_54 (pc' := 57) rfl ?_
      intro vm23 T23 h23 v23 C23 A23 M23 q23
      obtain ⟨rfl, rfl⟩ := q23
      show Endw p e below T23 (mkF m 57 #[.val (.ref a), .val (.int (Int32.ofNat i)), .val (.int (Int32.ofNat i)), .val (.int d), .unset] [(.int (Int32.ofNat cs.length)), (.int (Int32.ofNat i))]) _
      refine Endw.st (T' := T23) (g' := (mkF m 93 #[.val (.ref a), .val (.int (Int32.ofNat i)), .val (.int (Int32.ofNat i)), .val (.int d), .unset] [])) (fun tt_ kk_ => XS.icmpYes C23.here C23.hx rfl (pc0 := 57) rfl (C23.dec d22_57) rfl (XT.ii_ge_t (fun q => absurd ((own_lt (by omega) (by omega)).mp q) (by omega))) (by decide) rfl kk_) ?_
      exact J93 i d (.val (.int (Int32.ofNat i))) vm23 T23  (by omega) (by rw [← hD, en22] <;> rfl) C23
    · refine Endw.st (T' := T) (g' := (mkF m 54 #[.val (.ref a), .val (.int (Int32.ofNat i)), .val (.int (Int32.ofNat i)), .val (.int d), .unset] [(.ref a), (.int (Int32.ofNat i))])) (fun tt_ kk_ => XS.iloadN C.here C.hx rfl (C.dec d22_52) rfl (XS.aloadN C.here C.hx rfl (C.dec d22_53) rfl rfl kk_)) ?_
      refine C.virtual (y := (⟨"java/lang/String", "length", "()I"⟩ : MethodName)) (z := (⟨"java/lang/String", "length", "()I"⟩ : MethodName)) (W := 1) (a := a) (argsL := []) (rest := [(.int (Int32.ofNat i))]) (W34 hw) (W35 hw) (fun _ q => notFace_of_selects (args := #[]) (mvT q (W37 hw))) (W37 hw) (W36 hw) (W38 hw) (W10 hw) (by decide) (rm_len l Z a0 EL G a t kb cs h C.old S) (fun _ => rfl) rfl S.exa all0 (by decide) (by decide) (by decide) (by decide) (lenOf pd_282949 rfl) rfl (Nat.le_of_ble_eq_true rfl) rfl d22_54 (pc' := 57) rfl ?_
      intro vm24 T24 h24 v24 C24 A24 M24 q24
      obtain ⟨rfl, rfl⟩ := q24
      show Endw p e below T24 (mkF m 57 #[.val (.ref a), .val (.int (Int32.ofNat i)), .val (.int (Int32.ofNat i)), .val (.int d), .unset] [(.int (Int32.ofNat cs.length)), (.int (Int32.ofNat i))]) _
      refine Endw.st (T' := T24) (g' := (mkF m 62 #[.val (.ref a), .val (.int (Int32.ofNat i)), .val (.int (Int32.ofNat i)), .val (.int d), .unset] [(.int (Int32.ofNat i)), (.ref a)])) (fun tt_ kk_ => XS.icmpNo C24.here C24.hx rfl (C24.dec d22_57) rfl (XT.ii_ge_f ((own_lt (by omega) (by omega)).mpr (by omega))) (XS.aloadN C24.here C24.hx rfl (C24.dec d22_60) rfl rfl (XS.iloadN C24.here C24.hx rfl (C24.dec d22_61) rfl kk_))) ?_
      refine C24.virtual (y := (⟨"java/lang/String", "charAt", "(I)C"⟩ : MethodName)) (z := (⟨"java/lang/String", "charAt", "(I)C"⟩ : MethodName)) (W := 0) (a := a) (argsL := [(.int (Int32.ofNat i))]) (rest := []) (W86 hw) (W87 hw) (fun _ q => notFace_of_selects (args := #[]) (mvT q (W89 hw))) (W89 hw) (W88 hw) (W90 hw) (W10 hw) (by decide) (rm_chr l Z a0 EL G a t kb cs i y22 h C24.old S lt22 eg22) (fun _ => rfl) rfl S.exa all0 (by decide) (by decide) (by decide) (by decide) (lenOf pd_28492943 rfl) rfl (Nat.le_of_ble_eq_true rfl) rfl d22_62 (pc' := 65) rfl ?_
      intro vm25 T25 h25 v25 C25 A25 M25 q25
      obtain ⟨rfl, rfl⟩ := q25
      show Endw p e below T25 (mkF m 65 #[.val (.ref a), .val (.int (Int32.ofNat i)), .val (.int (Int32.ofNat i)), .val (.int d), .unset] [(.int y22)]) _
      refine Endw.st (T' := T25) (g' := (mkF m 67 #[.val (.ref a), .val (.int (Int32.ofNat i)), .val (.int (Int32.ofNat i)), .val (.int d), .unset] [(.int (46 : Int32)), (.int y22)])) (fun tt_ kk_ => XS.bipush C25.here C25.hx rfl (C25.dec d22_65) kk_) ?_
      by_cases c26 : y22 = (46 : Int32)
      · refine Endw.st (T' := T25) (g' := (mkF m 74 #[.val (.ref a), .val (.int (Int32.ofNat i)), .val (.int (Int32.ofNat i)), .val (.int d), .unset] [(.int ((Int32.ofNat i) + (1 : Int32))), (.ref a)])) (fun tt_ kk_ => XS.icmpNo C25.here C25.hx rfl (C25.dec d22_67) rfl (XT.ii_ne_f c26) (XS.aloadN C25.here C25.hx rfl (C25.dec d22_70) rfl rfl (XS.iloadN C25.here C25.hx rfl (C25.dec d22_71) rfl (XS.iconst C25.here C25.hx rfl (C25.dec d22_72) (XS.iadd C25.here C25.hx rfl (C25.dec d22_73) rfl kk_))))) ?_
        rw [show ((Int32.ofNat i) + (1 : Int32)) = (Int32.ofNat (i + 1)) from own_inc _]
        refine C25.static (y := (⟨"com/example/cohabit/cohabit/Numbers", "digitsFrom", "(Ljava/lang/String;I)I"⟩ : MethodName)) (W := 0) (argsL := [(.ref a), (.int (Int32.ofNat (i + 1)))]) (rest := []) (W45 hw) (W46 hw) (W47 hw) (W32 hw) (by decide) (rm_df l Z a0 EL G a t kb cs (i + 1) h C25.old S h8 (by omega)) (fun _ => rfl) rfl all0 (by decide) (by decide) (by decide) (by decide) (lenOf pd_15 rfl) rfl (Nat.le_of_ble_eq_true rfl) rfl d22_74 (pc' := 77) rfl ?_
        intro vm27 T27 h27 v27 C27 A27 M27 q27
        obtain ⟨rfl, rfl⟩ := q27
        show Endw p e below T27 (mkF m 77 #[.val (.ref a), .val (.int (Int32.ofNat i)), .val (.int (Int32.ofNat i)), .val (.int d), .unset] [(.int (Int32.ofNat ((i + 1) + own_dg (cs.drop (i + 1)))))]) _
        have bd := own_dgB cs (i + 1)
        by_cases c28 : own_dg (cs.drop (i + 1)) = 0
        · refine Endw.st (T' := T27) (g' := (mkF m 83 #[.val (.ref a), .val (.int (Int32.ofNat ((i + 1) + own_dg (cs.drop (i + 1))))), .val (.int (Int32.ofNat i)), .val (.int d), .unset] [(.int ((Int32.ofNat i) + (1 : Int32))), (.int (Int32.ofNat ((i + 1) + own_dg (cs.drop (i + 1))))), (.int d)])) (fun tt_ kk_ => XS.istoreN C27.here C27.hx rfl (C27.dec d22_77) rfl (l' := #[.val (.ref a), .val (.int (Int32.ofNat ((i + 1) + own_dg (cs.drop (i + 1))))), .val (.int (Int32.ofNat i)), .val (.int d), .unset]) rfl (XS.iloadN C27.here C27.hx rfl (C27.dec d22_78) rfl (XS.iloadN C27.here C27.hx rfl (C27.dec d22_79) rfl (XS.iloadN C27.here C27.hx rfl (C27.dec d22_80) rfl (XS.iconst C27.here C27.hx rfl (C27.dec d22_81) (XS.iadd C27.here C27.hx rfl (C27.dec d22_82) rfl kk_)))))) ?_
          rw [show ((Int32.ofNat i) + (1 : Int32)) = (Int32.ofNat (i + 1)) from own_inc _]
          refine Endw.st (T' := T27) (g' := (mkF m 93 #[.val (.ref a), .val (.int (Int32.ofNat ((i + 1) + own_dg (cs.drop (i + 1))))), .val (.int (Int32.ofNat i)), .val (.int (d ||| (0 : Int32))), .unset] [])) (fun tt_ kk_ => XS.icmpYes C27.here C27.hx rfl (pc0 := 83) rfl (C27.dec d22_83) rfl (XT.ii_le_t (fun q => absurd ((own_lt (by omega) (by omega)).mp q) (by omega))) (by decide) rfl (XS.iconst C27.here C27.hx rfl (C27.dec d22_90) (XS.ior C27.here C27.hx rfl (C27.dec d22_91) rfl (XS.istoreN C27.here C27.hx rfl (C27.dec d22_92) rfl (l' := #[.val (.ref a), .val (.int (Int32.ofNat ((i + 1) + own_dg (cs.drop (i + 1))))), .val (.int (Int32.ofNat i)), .val (.int (d ||| (0 : Int32))), .unset]) rfl kk_)))) ?_
          exact J93 ((i + 1) + own_dg (cs.drop (i + 1))) (d ||| (0 : Int32)) (.val (.int (Int32.ofNat i))) vm27 T27  (by omega) (by rw [← own_dd cs (i + 1) (own_dg (cs.drop (i + 1))), ← hD, ec22, own_D2, if_pos c26, ← er22, if_pos c28]) C27
        · refine Endw.st (T' := T27) (g' := (mkF m 83 #[.val (.ref a), .val (.int (Int32.ofNat ((i + 1) + own_dg (cs.drop (i + 1))))), .val (.int (Int32.ofNat i)), .val (.int d), .unset] [(.int ((Int32.ofNat i) + (1 : Int32))), (.int (Int32.ofNat ((i + 1) + own_dg (cs.drop (i + 1))))), (.int d)])) (fun tt_ kk_ => XS.istoreN C27.here C27.hx rfl (C27.dec d22_77) rfl (l' := #[.val (.ref a), .val (.int (Int32.ofNat ((i + 1) + own_dg (cs.drop (i + 1))))), .val (.int (Int32.ofNat i)), .val (.int d), .unset]) rfl (XS.iloadN C27.here C27.hx rfl (C27.dec d22_78) rfl (XS.iloadN C27.here C27.hx rfl (C27.dec d22_79) rfl (XS.iloadN C27.here C27.hx rfl (C27.dec d22_80) rfl (XS.iconst C27.here C27.hx rfl (C27.dec d22_81) (XS.iadd C27.here C27.hx rfl (C27.dec d22_82) rfl kk_)))))) ?_
          rw [show ((Int32.ofNat i) + (1 : Int32)) = (Int32.ofNat (i + 1)) from own_inc _]
          refine Endw.st (T' := T27) (g' := (mkF m 93 #[.val (.ref a), .val (.int (Int32.ofNat ((i + 1) + own_dg (cs.drop (i + 1))))), .val (.int (Int32.ofNat i)), .val (.int (d ||| (1 : Int32))), .unset] [])) (fun tt_ kk_ => XS.icmpNo C27.here C27.hx rfl (C27.dec d22_83) rfl (XT.ii_le_f ((own_lt (by omega) (by omega)).mpr (by omega))) (XS.iconst C27.here C27.hx rfl (C27.dec d22_86) (XS.goto C27.here C27.hx rfl (pc0 := 87) rfl (C27.dec d22_87) (by decide) rfl (XS.ior C27.here C27.hx rfl (C27.dec d22_91) rfl (XS.istoreN C27.here C27.hx rfl (C27.dec d22_92) rfl (l' := #[.val (.ref a), .val (.int (Int32.ofNat ((i + 1) + own_dg (cs.drop (i + 1))))), .val (.int (Int32.ofNat i)), .val (.int (d ||| (1 : Int32))), .unset]) rfl kk_))))) ?_
          exact J93 ((i + 1) + own_dg (cs.drop (i + 1))) (d ||| (1 : Int32)) (.val (.int (Int32.ofNat i))) vm27 T27  (by omega) (by rw [← own_dd cs (i + 1) (own_dg (cs.drop (i + 1))), ← hD, ec22, own_D2, if_pos c26, ← er22, if_neg c28]) C27
      · refine Endw.st (T' := T25) (g' := (mkF m 93 #[.val (.ref a), .val (.int (Int32.ofNat i)), .val (.int (Int32.ofNat i)), .val (.int d), .unset] [])) (fun tt_ kk_ => XS.icmpYes C25.here C25.hx rfl (pc0 := 67) rfl (C25.dec d22_67) rfl (XT.ii_ne_t c26) (by decide) rfl kk_) ?_
        exact J93 i d (.val (.int (Int32.ofNat i))) vm25 T25  (by omega) (by rw [← hD, ec22, own_D2, if_neg c26]) C25
  have J33 : ∀ (i : Nat) (vm : Vm) (T : State) , (i ≤ cs.length) → (own_D1 (cs.drop i) = own_isDec cs) → Core p l e ({ frames := 6, cells := 0, slots := 0, locals := 80 } : Room) s m #[(.ref a)] below meth c prog_24_method_2_code 5 (some .boolean) "isDecimal" "com/example/cohabit/cohabit/Numbers" Z a0 EL true vm T h 0 0 → Endw p e below T (mkF m 33 #[.val (.ref a), .val (.int (Int32.ofNat i)), .unset, .unset, .unset] []) (Fin s Z EL true (fun r h' => r = some (.int (own_isDec cs)) ∧ h = h') (({ frames := 6, cells := 0, slots := 0, locals := 80 } : Room)).cells (({ frames := 6, cells := 0, slots := 0, locals := 80 } : Room)).slots) := by
    intro i vm T hi hD C
    have bd := own_dgB cs i
    by_cases c29 : own_dg (cs.drop i) = 0
    · refine Endw.st (T' := T) (g' := (mkF m 35 #[.val (.ref a), .val (.int (Int32.ofNat i)), .unset, .unset, .unset] [(.int (Int32.ofNat i)), (.ref a)])) (fun tt_ kk_ => XS.aloadN C.here C.hx rfl (C.dec d22_33) rfl rfl (XS.iloadN C.here C.hx rfl (C.dec d22_34) rfl kk_)) ?_
      refine C.static (y := (⟨"com/example/cohabit/cohabit/Numbers", "digitsFrom", "(Ljava/lang/String;I)I"⟩ : MethodName)) (W := 0) (argsL := [(.ref a), (.int (Int32.ofNat i))]) (rest := []) (W45 hw) (W46 hw) (W47 hw) (W32 hw) (by decide) (rm_df l Z a0 EL G a t kb cs i h C.old S h8 (by omega)) (fun _ => rfl) rfl all0 (by decide) (by decide) (by decide) (by decide) (lenOf pd_15 rfl) rfl (Nat.le_of_ble_eq_true rfl) rfl d22_35 (pc' := 38) rfl ?_
      intro vm30 T30 h30 v30 C30 A30 M30 q30
      obtain ⟨rfl, rfl⟩ := q30
      show Endw p e below T30 (mkF m 38 #[.val (.ref a), .val (.int (Int32.ofNat i)), .unset, .unset, .unset] [(.int (Int32.ofNat (i + own_dg (cs.drop i))))]) _
      refine Endw.st (T' := T30) (g' := (mkF m 52 #[.val (.ref a), .val (.int (Int32.ofNat (i + own_dg (cs.drop i)))), .val (.int (Int32.ofNat (i + own_dg (cs.drop i)))), .val (.int (0 : Int32)), .unset] [])) (fun tt_ kk_ => XS.istoreN C30.here C30.hx rfl (C30.dec d22_38) rfl (l' := #[.val (.ref a), .val (.int (Int32.ofNat i)), .val (.int (Int32.ofNat (i + own_dg (cs.drop i)))), .unset, .unset]) rfl (XS.iloadN C30.here C30.hx rfl (C30.dec d22_39) rfl (XS.iloadN C30.here C30.hx rfl (C30.dec d22_40) rfl (XS.icmpYes C30.here C30.hx rfl (pc0 := 41) rfl (C30.dec d22_41) rfl (XT.ii_le_t (fun q => absurd ((own_lt (by omega) (by omega)).mp q) (by omega))) (by decide) rfl (XS.iconst C30.here C30.hx rfl (C30.dec d22_48) (XS.istoreN C30.here C30.hx rfl (C30.dec d22_49) rfl (l' := #[.val (.ref a), .val (.int (Int32.ofNat i)), .val (.int (Int32.ofNat (i + own_dg (cs.drop i)))), .val (.int (0 : Int32)), .unset]) rfl (XS.iloadN C30.here C30.hx rfl (C30.dec d22_50) rfl (XS.istoreN C30.here C30.hx rfl (C30.dec d22_51) rfl (l' := #[.val (.ref a), .val (.int (Int32.ofNat (i + own_dg (cs.drop i)))), .val (.int (Int32.ofNat (i + own_dg (cs.drop i)))), .val (.int (0 : Int32)), .unset]) rfl kk_)))))))) ?_
      exact J52 (i + own_dg (cs.drop i)) (0 : Int32) vm30 T30  (by omega) (by rw [← own_dd cs i (own_dg (cs.drop i)), ← hD, own_D1, if_pos c29]) C30
    · refine Endw.st (T' := T) (g' := (mkF m 35 #[.val (.ref a), .val (.int (Int32.ofNat i)), .unset, .unset, .unset] [(.int (Int32.ofNat i)), (.ref a)])) (fun tt_ kk_ => XS.aloadN C.here C.hx rfl (C.dec d22_33) rfl rfl (XS.iloadN C.here C.hx rfl (C.dec d22_34) rfl kk_)) ?_
      refine C.static (y := (⟨"com/example/cohabit/cohabit/Numbers", "digitsFrom", "(Ljava/lang/String;I)I"⟩ : MethodName)) (W := 0) (argsL := [(.ref a), (.int (Int32.ofNat i))]) (rest := []) (W45 hw) (W46 hw) (W47 hw) (W32 hw) (by decide) (rm_df l Z a0 EL G a t kb cs i h C.old S h8 (by omega)) (fun _ => rfl) rfl all0 (by decide) (by decide) (by decide) (by decide) (lenOf pd_15 rfl) rfl (Nat.le_of_ble_eq_true rfl) rfl d22_35 (pc' := 38) rfl ?_
      intro vm31 T31 h31 v31 C31 A31 M31 q31
      obtain ⟨rfl, rfl⟩ := q31
      show Endw p e below T31 (mkF m 38 #[.val (.ref a), .val (.int (Int32.ofNat i)), .unset, .unset, .unset] [(.int (Int32.ofNat (i + own_dg (cs.drop i))))]) _
      refine Endw.st (T' := T31) (g' := (mkF m 51 #[.val (.ref a), .val (.int (Int32.ofNat i)), .val (.int (Int32.ofNat (i + own_dg (cs.drop i)))), .val (.int (1 : Int32)), .unset] [(.int (Int32.ofNat (i + own_dg (cs.drop i))))])) (fun tt_ kk_ => XS.istoreN C31.here C31.hx rfl (C31.dec d22_38) rfl (l' := #[.val (.ref a), .val (.int (Int32.ofNat i)), .val (.int (Int32.ofNat (i + own_dg (cs.drop i)))), .unset, .unset]) rfl (XS.iloadN C31.here C31.hx rfl (C31.dec d22_39) rfl (XS.iloadN C31.here C31.hx rfl (C31.dec d22_40) rfl (XS.icmpNo C31.here C31.hx rfl (C31.dec d22_41) rfl (XT.ii_le_f ((own_lt (by omega) (by omega)).mpr (by omega))) (XS.iconst C31.here C31.hx rfl (C31.dec d22_44) (XS.goto C31.here C31.hx rfl (pc0 := 45) rfl (C31.dec d22_45) (by decide) rfl (XS.istoreN C31.here C31.hx rfl (C31.dec d22_49) rfl (l' := #[.val (.ref a), .val (.int (Int32.ofNat i)), .val (.int (Int32.ofNat (i + own_dg (cs.drop i)))), .val (.int (1 : Int32)), .unset]) rfl (XS.iloadN C31.here C31.hx rfl (C31.dec d22_50) rfl kk_)))))))) ?_
      refine Endw.st (T' := T31) (g' := (mkF m 52 #[.val (.ref a), .val (.int (Int32.ofNat (i + own_dg (cs.drop i)))), .val (.int (Int32.ofNat (i + own_dg (cs.drop i)))), .val (.int (1 : Int32)), .unset] [])) (fun tt_ kk_ => XS.istoreN C31.here C31.hx rfl (C31.dec d22_51) rfl (l' := #[.val (.ref a), .val (.int (Int32.ofNat (i + own_dg (cs.drop i)))), .val (.int (Int32.ofNat (i + own_dg (cs.drop i)))), .val (.int (1 : Int32)), .unset]) rfl kk_) ?_
      exact J52 (i + own_dg (cs.drop i)) (1 : Int32) vm31 T31  (by omega) (by rw [← own_dd cs i (own_dg (cs.drop i)), ← hD, own_D1, if_neg c29]) C31
  refine Endw.st (T' := T0) (g' := (mkF m 2 #[.val (.ref a), .val (.int (0 : Int32)), .unset, .unset, .unset] [])) (fun tt_ kk_ => XS.iconst C0.here C0.hx rfl (C0.dec d22_0) (XS.istoreN C0.here C0.hx rfl (C0.dec d22_1) rfl (l' := #[.val (.ref a), .val (.int (0 : Int32)), .unset, .unset, .unset]) rfl kk_)) ?_
  show Endw p e below T0 (mkF m 2 #[.val (.ref a), .val (.int (Int32.ofNat 0)), .unset, .unset, .unset] []) _
  rcases own_at cs (i := 0) (Nat.zero_le _) with ⟨en32, el32⟩ | ⟨y32, r32, ec32, lt32, eg32, er32⟩
  · refine Endw.st (T' := T0) (g' := (mkF m 4 #[.val (.ref a), .val (.int (Int32.ofNat 0)), .unset, .unset, .unset] [(.ref a), (.int (Int32.ofNat 0))])) (fun tt_ kk_ => XS.iloadN C0.here C0.hx rfl (C0.dec d22_2) rfl (XS.aloadN C0.here C0.hx rfl (C0.dec d22_3) rfl rfl kk_)) ?_
    refine C0.virtual (y := (⟨"java/lang/String", "length", "()I"⟩ : MethodName)) (z := (⟨"java/lang/String", "length", "()I"⟩ : MethodName)) (W := 1) (a := a) (argsL := []) (rest := [(.int (Int32.ofNat 0))]) (W34 hw) (W35 hw) (fun _ q => notFace_of_selects (args := #[]) (mvT q (W37 hw))) (W37 hw) (W36 hw) (W38 hw) (W10 hw) (by decide) (rm_len l Z a0 EL G a t kb cs h C0.old S) (fun _ => rfl) rfl S.exa all0 (by decide) (by decide) (by decide) (by decide) (lenOf pd_282949 rfl) rfl (Nat.le_of_ble_eq_true rfl) rfl d22_4 (pc' := 7) rfl ?_
    intro vm33 T33 h33 v33 C33 A33 M33 q33
    obtain ⟨rfl, rfl⟩ := q33
    show Endw p e below T33 (mkF m 7 #[.val (.ref a), .val (.int (Int32.ofNat 0)), .unset, .unset, .unset] [(.int (Int32.ofNat cs.length)), (.int (Int32.ofNat 0))]) _
    refine Endw.st (T' := T33) (g' := (mkF m 33 #[.val (.ref a), .val (.int (Int32.ofNat 0)), .unset, .unset, .unset] [])) (fun tt_ kk_ => XS.icmpYes C33.here C33.hx rfl (pc0 := 7) rfl (C33.dec d22_7) rfl (XT.ii_ge_t (fun q => absurd ((own_lt (by omega) (by omega)).mp q) (by omega))) (by decide) rfl kk_) ?_
    exact J33 0 vm33 T33  (Nat.zero_le _) (by rw [own_isDec, show cs = [] from en32] <;> rfl) C33
  · refine Endw.st (T' := T0) (g' := (mkF m 4 #[.val (.ref a), .val (.int (Int32.ofNat 0)), .unset, .unset, .unset] [(.ref a), (.int (Int32.ofNat 0))])) (fun tt_ kk_ => XS.iloadN C0.here C0.hx rfl (C0.dec d22_2) rfl (XS.aloadN C0.here C0.hx rfl (C0.dec d22_3) rfl rfl kk_)) ?_
    refine C0.virtual (y := (⟨"java/lang/String", "length", "()I"⟩ : MethodName)) (z := (⟨"java/lang/String", "length", "()I"⟩ : MethodName)) (W := 1) (a := a) (argsL := []) (rest := [(.int (Int32.ofNat 0))]) (W34 hw) (W35 hw) (fun _ q => notFace_of_selects (args := #[]) (mvT q (W37 hw))) (W37 hw) (W36 hw) (W38 hw) (W10 hw) (by decide) (rm_len l Z a0 EL G a t kb cs h C0.old S) (fun _ => rfl) rfl S.exa all0 (by decide) (by decide) (by decide) (by decide) (lenOf pd_282949 rfl) rfl (Nat.le_of_ble_eq_true rfl) rfl d22_4 (pc' := 7) rfl ?_
    intro vm34 T34 h34 v34 C34 A34 M34 q34
    obtain ⟨rfl, rfl⟩ := q34
    show Endw p e below T34 (mkF m 7 #[.val (.ref a), .val (.int (Int32.ofNat 0)), .unset, .unset, .unset] [(.int (Int32.ofNat cs.length)), (.int (Int32.ofNat 0))]) _
    refine Endw.st (T' := T34) (g' := (mkF m 12 #[.val (.ref a), .val (.int (Int32.ofNat 0)), .unset, .unset, .unset] [(.int (Int32.ofNat 0)), (.ref a)])) (fun tt_ kk_ => XS.icmpNo C34.here C34.hx rfl (C34.dec d22_7) rfl (XT.ii_ge_f ((own_lt (by omega) (by omega)).mpr (by omega))) (XS.aloadN C34.here C34.hx rfl (C34.dec d22_10) rfl rfl (XS.iloadN C34.here C34.hx rfl (C34.dec d22_11) rfl kk_))) ?_
    refine C34.virtual (y := (⟨"java/lang/String", "charAt", "(I)C"⟩ : MethodName)) (z := (⟨"java/lang/String", "charAt", "(I)C"⟩ : MethodName)) (W := 0) (a := a) (argsL := [(.int (Int32.ofNat 0))]) (rest := []) (W86 hw) (W87 hw) (fun _ q => notFace_of_selects (args := #[]) (mvT q (W89 hw))) (W89 hw) (W88 hw) (W90 hw) (W10 hw) (by decide) (rm_chr l Z a0 EL G a t kb cs 0 y32 h C34.old S lt32 eg32) (fun _ => rfl) rfl S.exa all0 (by decide) (by decide) (by decide) (by decide) (lenOf pd_28492943 rfl) rfl (Nat.le_of_ble_eq_true rfl) rfl d22_12 (pc' := 15) rfl ?_
    intro vm35 T35 h35 v35 C35 A35 M35 q35
    obtain ⟨rfl, rfl⟩ := q35
    show Endw p e below T35 (mkF m 15 #[.val (.ref a), .val (.int (Int32.ofNat 0)), .unset, .unset, .unset] [(.int y32)]) _
    refine Endw.st (T' := T35) (g' := (mkF m 17 #[.val (.ref a), .val (.int (Int32.ofNat 0)), .unset, .unset, .unset] [(.int (43 : Int32)), (.int y32)])) (fun tt_ kk_ => XS.bipush C35.here C35.hx rfl (C35.dec d22_15) kk_) ?_
    by_cases c36 : y32 = (43 : Int32)
    · refine Endw.st (T' := T35) (g' := (mkF m 33 #[.val (.ref a), .val (.int ((Int32.ofNat 0) + (1 : Int32))), .unset, .unset, .unset] [])) (fun tt_ kk_ => XS.icmpYes C35.here C35.hx rfl (pc0 := 17) rfl (C35.dec d22_17) rfl (XT.ii_eq_t c36) (by decide) rfl (XS.iinc C35.here C35.hx rfl (C35.dec d22_30) rfl (l' := #[.val (.ref a), .val (.int ((Int32.ofNat 0) + (1 : Int32))), .unset, .unset, .unset]) rfl kk_)) ?_
      rw [show ((Int32.ofNat 0) + (1 : Int32)) = (Int32.ofNat 1) from own_inc 0]
      exact J33 1 vm35 T35  (by omega) (by rw [own_isDec, show own_sg cs = 1 from by rw [show cs = y32 :: r32 from ec32, own_sg, if_pos c36]]) C35
    · refine Endw.st (T' := T35) (g' := (mkF m 22 #[.val (.ref a), .val (.int (Int32.ofNat 0)), .unset, .unset, .unset] [(.int (Int32.ofNat 0)), (.ref a)])) (fun tt_ kk_ => XS.icmpNo C35.here C35.hx rfl (C35.dec d22_17) rfl (XT.ii_eq_f c36) (XS.aloadN C35.here C35.hx rfl (C35.dec d22_20) rfl rfl (XS.iloadN C35.here C35.hx rfl (C35.dec d22_21) rfl kk_))) ?_
      refine C35.virtual (y := (⟨"java/lang/String", "charAt", "(I)C"⟩ : MethodName)) (z := (⟨"java/lang/String", "charAt", "(I)C"⟩ : MethodName)) (W := 0) (a := a) (argsL := [(.int (Int32.ofNat 0))]) (rest := []) (W86 hw) (W87 hw) (fun _ q => notFace_of_selects (args := #[]) (mvT q (W89 hw))) (W89 hw) (W88 hw) (W90 hw) (W10 hw) (by decide) (rm_chr l Z a0 EL G a t kb cs 0 y32 h C35.old S lt32 eg32) (fun _ => rfl) rfl S.exa all0 (by decide) (by decide) (by decide) (by decide) (lenOf pd_28492943 rfl) rfl (Nat.le_of_ble_eq_true rfl) rfl d22_22 (pc' := 25) rfl ?_
      intro vm37 T37 h37 v37 C37 A37 M37 q37
      obtain ⟨rfl, rfl⟩ := q37
      show Endw p e below T37 (mkF m 25 #[.val (.ref a), .val (.int (Int32.ofNat 0)), .unset, .unset, .unset] [(.int y32)]) _
      refine Endw.st (T' := T37) (g' := (mkF m 27 #[.val (.ref a), .val (.int (Int32.ofNat 0)), .unset, .unset, .unset] [(.int (45 : Int32)), (.int y32)])) (fun tt_ kk_ => XS.bipush C37.here C37.hx rfl (C37.dec d22_25) kk_) ?_
      by_cases c38 : y32 = (45 : Int32)
      · refine Endw.st (T' := T37) (g' := (mkF m 33 #[.val (.ref a), .val (.int ((Int32.ofNat 0) + (1 : Int32))), .unset, .unset, .unset] [])) (fun tt_ kk_ => XS.icmpNo C37.here C37.hx rfl (C37.dec d22_27) rfl (XT.ii_ne_f c38) (XS.iinc C37.here C37.hx rfl (C37.dec d22_30) rfl (l' := #[.val (.ref a), .val (.int ((Int32.ofNat 0) + (1 : Int32))), .unset, .unset, .unset]) rfl kk_)) ?_
        rw [show ((Int32.ofNat 0) + (1 : Int32)) = (Int32.ofNat 1) from own_inc 0]
        exact J33 1 vm37 T37  (by omega) (by rw [own_isDec, show own_sg cs = 1 from by rw [show cs = y32 :: r32 from ec32, own_sg, if_neg c36, if_pos c38]]) C37
      · refine Endw.st (T' := T37) (g' := (mkF m 33 #[.val (.ref a), .val (.int (Int32.ofNat 0)), .unset, .unset, .unset] [])) (fun tt_ kk_ => XS.icmpYes C37.here C37.hx rfl (pc0 := 27) rfl (C37.dec d22_27) rfl (XT.ii_ne_t c38) (by decide) rfl kk_) ?_
        exact J33 0 vm37 T37  (Nat.zero_le _) (by rw [own_isDec, show own_sg cs = 0 from by rw [show cs = y32 :: r32 from ec32, own_sg, if_neg c36, if_neg c38]]) C37
set_option maxRecDepth 65536 in
set_option maxHeartbeats 40000000 in
theorem rm_digit (l : Launch) (Z : State) (a0 : Array Value) (EL : List (String × Nat)) (G : Glob Z a0 EL) (x : Int32) (h : Heap) (O : Ext Z.heap h)  :
    Met l Z EL true (⟨"com/example/cohabit/cohabit/NumbersIsDecimalPinLaw", "digit", "(C)Z"⟩ : MethodName) method_5_code 1 (some .boolean) [] ({ frames := 0, cells := 0, slots := 0, locals := 0 } : Room) #[(.int x)] h [] (fun r h' => r = some (.int (own_dig x)) ∧ h = h') := by
  have hw := G.hw
  obtain ⟨zc, Sc, hzc⟩ := G.cs
  obtain ⟨vf, Sf, hvf⟩ := G.fm
  obtain Sa := G.u1
  obtain Sh := G.u2
  obtain Sl := G.u3
  refine Met.of (plainFor_of_name pn_50696e4c6177_1) G.ew O ?_
  intro p e s m below meth c T0 C0 S0
  refine Endw.eq (g' := mkF m 0 #[.val (.int x)] []) (by first | rfl | (simp [entryFrame, mkF, argsToLocals, own_cI, own_cR, own_cN, own_cJ, own_cD, maxLocals]; done)) ?_
  refine Endw.st (T' := T0) (g' := (mkF m 3 #[.val (.int x)] [(.int (48 : Int32)), (.int x)])) (fun tt_ kk_ => XS.iloadN C0.here C0.hx rfl (C0.dec d23_0) rfl (XS.bipush C0.here C0.hx rfl (C0.dec d23_1) kk_)) ?_
  by_cases c1 : x < (48 : Int32)
  · refine Endw.st (T' := T0) (g' := (mkF m 17 #[.val (.int x)] [(.int (0 : Int32))])) (fun tt_ kk_ => XS.icmpYes C0.here C0.hx rfl (pc0 := 3) rfl (C0.dec d23_3) rfl (XT.ii_lt_t c1) (by decide) rfl (XS.iconst C0.here C0.hx rfl (C0.dec d23_16) kk_)) ?_
    exact C0.retI (t := .boolean) rfl (by simp) rfl d23_17 (by decide) (by decide) ⟨by rw [own_dig, if_pos c1] <;> rfl, rfl⟩
  · refine Endw.st (T' := T0) (g' := (mkF m 9 #[.val (.int x)] [(.int (57 : Int32)), (.int x)])) (fun tt_ kk_ => XS.icmpNo C0.here C0.hx rfl (C0.dec d23_3) rfl (XT.ii_lt_f c1) (XS.iloadN C0.here C0.hx rfl (C0.dec d23_6) rfl (XS.bipush C0.here C0.hx rfl (C0.dec d23_7) kk_))) ?_
    by_cases c2 : (57 : Int32) < x
    · refine Endw.st (T' := T0) (g' := (mkF m 17 #[.val (.int x)] [(.int (0 : Int32))])) (fun tt_ kk_ => XS.icmpYes C0.here C0.hx rfl (pc0 := 9) rfl (C0.dec d23_9) rfl (XT.ii_gt_t c2) (by decide) rfl (XS.iconst C0.here C0.hx rfl (C0.dec d23_16) kk_)) ?_
      exact C0.retI (t := .boolean) rfl (by simp) rfl d23_17 (by decide) (by decide) ⟨by rw [own_dig, if_neg c1, if_pos c2] <;> rfl, rfl⟩
    · refine Endw.st (T' := T0) (g' := (mkF m 17 #[.val (.int x)] [(.int (1 : Int32))])) (fun tt_ kk_ => XS.icmpNo C0.here C0.hx rfl (C0.dec d23_9) rfl (XT.ii_gt_f c2) (XS.iconst C0.here C0.hx rfl (C0.dec d23_12) (XS.goto C0.here C0.hx rfl (pc0 := 13) rfl (C0.dec d23_13) (by decide) rfl kk_))) ?_
      exact C0.retI (t := .boolean) rfl (by simp) rfl d23_17 (by decide) (by decide) ⟨by rw [own_dig, if_neg c1, if_neg c2] <;> rfl, rfl⟩
set_option maxRecDepth 65536 in
set_option maxHeartbeats 40000000 in
theorem rm_sign (l : Launch) (Z : State) (a0 : Array Value) (EL : List (String × Nat)) (G : Glob Z a0 EL) (x : Int32) (h : Heap) (O : Ext Z.heap h)  :
    Met l Z EL true (⟨"com/example/cohabit/cohabit/NumbersIsDecimalPinLaw", "sign", "(C)Z"⟩ : MethodName) method_6_code 1 (some .boolean) [] ({ frames := 0, cells := 0, slots := 0, locals := 0 } : Room) #[(.int x)] h [] (fun r h' => r = some (.int (own_sgn x)) ∧ h = h') := by
  have hw := G.hw
  obtain ⟨zc, Sc, hzc⟩ := G.cs
  obtain ⟨vf, Sf, hvf⟩ := G.fm
  obtain Sa := G.u1
  obtain Sh := G.u2
  obtain Sl := G.u3
  refine Met.of (plainFor_of_name pn_50696e4c6177_1) G.ew O ?_
  intro p e s m below meth c T0 C0 S0
  refine Endw.eq (g' := mkF m 0 #[.val (.int x)] []) (by first | rfl | (simp [entryFrame, mkF, argsToLocals, own_cI, own_cR, own_cN, own_cJ, own_cD, maxLocals]; done)) ?_
  refine Endw.st (T' := T0) (g' := (mkF m 3 #[.val (.int x)] [(.int (43 : Int32)), (.int x)])) (fun tt_ kk_ => XS.iloadN C0.here C0.hx rfl (C0.dec d24_0) rfl (XS.bipush C0.here C0.hx rfl (C0.dec d24_1) kk_)) ?_
  by_cases c1 : x = (43 : Int32)
  · refine Endw.st (T' := T0) (g' := (mkF m 17 #[.val (.int x)] [(.int (1 : Int32))])) (fun tt_ kk_ => XS.icmpYes C0.here C0.hx rfl (pc0 := 3) rfl (C0.dec d24_3) rfl (XT.ii_eq_t c1) (by decide) rfl (XS.iconst C0.here C0.hx rfl (C0.dec d24_12) (XS.goto C0.here C0.hx rfl (pc0 := 13) rfl (C0.dec d24_13) (by decide) rfl kk_))) ?_
    exact C0.retI (t := .boolean) rfl (by simp) rfl d24_17 (by decide) (by decide) ⟨by rw [own_sgn, if_pos c1] <;> rfl, rfl⟩
  · refine Endw.st (T' := T0) (g' := (mkF m 9 #[.val (.int x)] [(.int (45 : Int32)), (.int x)])) (fun tt_ kk_ => XS.icmpNo C0.here C0.hx rfl (C0.dec d24_3) rfl (XT.ii_eq_f c1) (XS.iloadN C0.here C0.hx rfl (C0.dec d24_6) rfl (XS.bipush C0.here C0.hx rfl (C0.dec d24_7) kk_))) ?_
    by_cases c2 : x = (45 : Int32)
    · refine Endw.st (T' := T0) (g' := (mkF m 17 #[.val (.int x)] [(.int (1 : Int32))])) (fun tt_ kk_ => XS.icmpNo C0.here C0.hx rfl (C0.dec d24_9) rfl (XT.ii_ne_f c2) (XS.iconst C0.here C0.hx rfl (C0.dec d24_12) (XS.goto C0.here C0.hx rfl (pc0 := 13) rfl (C0.dec d24_13) (by decide) rfl kk_))) ?_
      exact C0.retI (t := .boolean) rfl (by simp) rfl d24_17 (by decide) (by decide) ⟨by rw [own_sgn, if_neg c1, if_pos c2] <;> rfl, rfl⟩
    · refine Endw.st (T' := T0) (g' := (mkF m 17 #[.val (.int x)] [(.int (0 : Int32))])) (fun tt_ kk_ => XS.icmpYes C0.here C0.hx rfl (pc0 := 9) rfl (C0.dec d24_9) rfl (XT.ii_ne_t c2) (by decide) rfl (XS.iconst C0.here C0.hx rfl (C0.dec d24_16) kk_)) ?_
      exact C0.retI (t := .boolean) rfl (by simp) rfl d24_17 (by decide) (by decide) ⟨by rw [own_sgn, if_neg c1, if_neg c2] <;> rfl, rfl⟩
set_option maxRecDepth 65536 in
set_option maxHeartbeats 40000000 in
theorem rm_expo (l : Launch) (Z : State) (a0 : Array Value) (EL : List (String × Nat)) (G : Glob Z a0 EL) (x : Int32) (h : Heap) (O : Ext Z.heap h)  :
    Met l Z EL true (⟨"com/example/cohabit/cohabit/NumbersIsDecimalPinLaw", "expo", "(C)Z"⟩ : MethodName) method_7_code 1 (some .boolean) [] ({ frames := 0, cells := 0, slots := 0, locals := 0 } : Room) #[(.int x)] h [] (fun r h' => r = some (.int (own_exp x)) ∧ h = h') := by
  have hw := G.hw
  obtain ⟨zc, Sc, hzc⟩ := G.cs
  obtain ⟨vf, Sf, hvf⟩ := G.fm
  obtain Sa := G.u1
  obtain Sh := G.u2
  obtain Sl := G.u3
  refine Met.of (plainFor_of_name pn_50696e4c6177_1) G.ew O ?_
  intro p e s m below meth c T0 C0 S0
  refine Endw.eq (g' := mkF m 0 #[.val (.int x)] []) (by first | rfl | (simp [entryFrame, mkF, argsToLocals, own_cI, own_cR, own_cN, own_cJ, own_cD, maxLocals]; done)) ?_
  refine Endw.st (T' := T0) (g' := (mkF m 3 #[.val (.int x)] [(.int (101 : Int32)), (.int x)])) (fun tt_ kk_ => XS.iloadN C0.here C0.hx rfl (C0.dec d25_0) rfl (XS.bipush C0.here C0.hx rfl (C0.dec d25_1) kk_)) ?_
  by_cases c1 : x = (101 : Int32)
  · refine Endw.st (T' := T0) (g' := (mkF m 17 #[.val (.int x)] [(.int (1 : Int32))])) (fun tt_ kk_ => XS.icmpYes C0.here C0.hx rfl (pc0 := 3) rfl (C0.dec d25_3) rfl (XT.ii_eq_t c1) (by decide) rfl (XS.iconst C0.here C0.hx rfl (C0.dec d25_12) (XS.goto C0.here C0.hx rfl (pc0 := 13) rfl (C0.dec d25_13) (by decide) rfl kk_))) ?_
    exact C0.retI (t := .boolean) rfl (by simp) rfl d25_17 (by decide) (by decide) ⟨by rw [own_exp, if_pos c1] <;> rfl, rfl⟩
  · refine Endw.st (T' := T0) (g' := (mkF m 9 #[.val (.int x)] [(.int (69 : Int32)), (.int x)])) (fun tt_ kk_ => XS.icmpNo C0.here C0.hx rfl (C0.dec d25_3) rfl (XT.ii_eq_f c1) (XS.iloadN C0.here C0.hx rfl (C0.dec d25_6) rfl (XS.bipush C0.here C0.hx rfl (C0.dec d25_7) kk_))) ?_
    by_cases c2 : x = (69 : Int32)
    · refine Endw.st (T' := T0) (g' := (mkF m 17 #[.val (.int x)] [(.int (1 : Int32))])) (fun tt_ kk_ => XS.icmpNo C0.here C0.hx rfl (C0.dec d25_9) rfl (XT.ii_ne_f c2) (XS.iconst C0.here C0.hx rfl (C0.dec d25_12) (XS.goto C0.here C0.hx rfl (pc0 := 13) rfl (C0.dec d25_13) (by decide) rfl kk_))) ?_
      exact C0.retI (t := .boolean) rfl (by simp) rfl d25_17 (by decide) (by decide) ⟨by rw [own_exp, if_neg c1, if_pos c2] <;> rfl, rfl⟩
    · refine Endw.st (T' := T0) (g' := (mkF m 17 #[.val (.int x)] [(.int (0 : Int32))])) (fun tt_ kk_ => XS.icmpYes C0.here C0.hx rfl (pc0 := 9) rfl (C0.dec d25_9) rfl (XT.ii_ne_t c2) (by decide) rfl (XS.iconst C0.here C0.hx rfl (C0.dec d25_16) kk_)) ?_
      exact C0.retI (t := .boolean) rfl (by simp) rfl d25_17 (by decide) (by decide) ⟨by rw [own_exp, if_neg c1, if_neg c2] <;> rfl, rfl⟩
set_option maxRecDepth 65536 in
set_option maxHeartbeats 40000000 in
theorem rm_step (l : Launch) (Z : State) (a0 : Array Value) (EL : List (String × Nat)) (G : Glob Z a0 EL) (u x : Int32) (h : Heap) (O : Ext Z.heap h)  :
    Met l Z EL true (⟨"com/example/cohabit/cohabit/NumbersIsDecimalPinLaw", "step", "(IC)I"⟩ : MethodName) method_8_code 2 (some .int) [] ({ frames := 1, cells := 0, slots := 0, locals := 12 } : Room) #[(.int u), (.int x)] h [] (fun r h' => r = some (.int (own_step u x)) ∧ h = h') := by
  have hw := G.hw
  obtain ⟨zc, Sc, hzc⟩ := G.cs
  obtain ⟨vf, Sf, hvf⟩ := G.fm
  obtain Sa := G.u1
  obtain Sh := G.u2
  obtain Sl := G.u3
  refine Met.of (plainFor_of_name pn_50696e4c6177_1) G.ew O ?_
  intro p e s m below meth c T0 C0 S0
  refine Endw.eq (g' := mkF m 0 #[.val (.int u), .val (.int x)] []) (by first | rfl | (simp [entryFrame, mkF, argsToLocals, own_cI, own_cR, own_cN, own_cJ, own_cD, maxLocals]; done)) ?_
  refine Endw.st (T' := T0) (g' := (mkF m 1 #[.val (.int u), .val (.int x)] [(.int u)])) (fun tt_ kk_ => XS.iloadN C0.here C0.hx rfl (C0.dec d26_0) rfl kk_) ?_
  by_cases c1 : u = (0 : Int32)
  · refine Endw.st (T' := T0) (g' := (mkF m 5 #[.val (.int u), .val (.int x)] [(.int x)])) (fun tt_ kk_ => XS.ifNo C0.here C0.hx rfl (C0.dec d26_1) rfl (XT.i0_ne_f c1) (XS.iloadN C0.here C0.hx rfl (C0.dec d26_4) rfl kk_)) ?_
    refine C0.static (y := (⟨"com/example/cohabit/cohabit/NumbersIsDecimalPinLaw", "digit", "(C)Z"⟩ : MethodName)) (W := 0) (argsL := [(.int x)]) (rest := []) (W80 hw) (W81 hw) (W82 hw) (W3 hw) (by decide) (rm_digit l Z a0 EL G x h C0.old) (fun _ => rfl) rfl all0 (by decide) (by decide) (by decide) (by decide) (lenOf pd_2843295a rfl) rfl (Nat.le_of_ble_eq_true rfl) rfl d26_5 (pc' := 8) rfl ?_
    intro vm2 T2 h2 v2 C2 A2 M2 q2
    obtain ⟨rfl, rfl⟩ := q2
    show Endw p e below T2 (mkF m 8 #[.val (.int u), .val (.int x)] [(.int (own_dig x))]) _
    by_cases c3 : (own_dig x) = (0 : Int32)
    · refine Endw.st (T' := T2) (g' := (mkF m 14 #[.val (.int u), .val (.int x)] [(.int x)])) (fun tt_ kk_ => XS.ifYes C2.here C2.hx rfl (pc0 := 8) rfl (C2.dec d26_8) rfl (XT.i0_eq_t c3) (by decide) rfl (XS.iloadN C2.here C2.hx rfl (C2.dec d26_13) rfl kk_)) ?_
      refine C2.static (y := (⟨"com/example/cohabit/cohabit/NumbersIsDecimalPinLaw", "sign", "(C)Z"⟩ : MethodName)) (W := 0) (argsL := [(.int x)]) (rest := []) (W83 hw) (W84 hw) (W85 hw) (W3 hw) (by decide) (rm_sign l Z a0 EL G x h C2.old) (fun _ => rfl) rfl all0 (by decide) (by decide) (by decide) (by decide) (lenOf pd_2843295a rfl) rfl (Nat.le_of_ble_eq_true rfl) rfl d26_14 (pc' := 17) rfl ?_
      intro vm4 T4 h4 v4 C4 A4 M4 q4
      obtain ⟨rfl, rfl⟩ := q4
      show Endw p e below T4 (mkF m 17 #[.val (.int u), .val (.int x)] [(.int (own_sgn x))]) _
      by_cases c5 : (own_sgn x) = (0 : Int32)
      · refine Endw.st (T' := T4) (g' := (mkF m 25 #[.val (.int u), .val (.int x)] [(.int (46 : Int32)), (.int x)])) (fun tt_ kk_ => XS.ifYes C4.here C4.hx rfl (pc0 := 17) rfl (C4.dec d26_17) rfl (XT.i0_eq_t c5) (by decide) rfl (XS.iloadN C4.here C4.hx rfl (C4.dec d26_22) rfl (XS.bipush C4.here C4.hx rfl (C4.dec d26_23) kk_))) ?_
        by_cases c6 : x = (46 : Int32)
        · refine Endw.st (T' := T4) (g' := (mkF m 29 #[.val (.int u), .val (.int x)] [(.int (3 : Int32))])) (fun tt_ kk_ => XS.icmpNo C4.here C4.hx rfl (C4.dec d26_25) rfl (XT.ii_ne_f c6) (XS.iconst C4.here C4.hx rfl (C4.dec d26_28) kk_)) ?_
          exact C4.retI (t := .int) rfl (by simp) rfl d26_29 (by decide) (by decide) ⟨by rw [own_step, if_pos c1, if_pos c3, if_pos c5, if_pos c6] <;> rfl, rfl⟩
        · refine Endw.st (T' := T4) (g' := (mkF m 32 #[.val (.int u), .val (.int x)] [(.int (8 : Int32))])) (fun tt_ kk_ => XS.icmpYes C4.here C4.hx rfl (pc0 := 25) rfl (C4.dec d26_25) rfl (XT.ii_ne_t c6) (by decide) rfl (XS.bipush C4.here C4.hx rfl (C4.dec d26_30) kk_)) ?_
          exact C4.retI (t := .int) rfl (by simp) rfl d26_32 (by decide) (by decide) ⟨by rw [own_step, if_pos c1, if_pos c3, if_pos c5, if_neg c6] <;> rfl, rfl⟩
      · refine Endw.st (T' := T4) (g' := (mkF m 21 #[.val (.int u), .val (.int x)] [(.int (1 : Int32))])) (fun tt_ kk_ => XS.ifNo C4.here C4.hx rfl (C4.dec d26_17) rfl (XT.i0_eq_f c5) (XS.iconst C4.here C4.hx rfl (C4.dec d26_20) kk_)) ?_
        exact C4.retI (t := .int) rfl (by simp) rfl d26_21 (by decide) (by decide) ⟨by rw [own_step, if_pos c1, if_pos c3, if_neg c5] <;> rfl, rfl⟩
    · refine Endw.st (T' := T2) (g' := (mkF m 12 #[.val (.int u), .val (.int x)] [(.int (2 : Int32))])) (fun tt_ kk_ => XS.ifNo C2.here C2.hx rfl (C2.dec d26_8) rfl (XT.i0_eq_f c3) (XS.iconst C2.here C2.hx rfl (C2.dec d26_11) kk_)) ?_
      exact C2.retI (t := .int) rfl (by simp) rfl d26_12 (by decide) (by decide) ⟨by rw [own_step, if_pos c1, if_neg c3] <;> rfl, rfl⟩
  · refine Endw.st (T' := T0) (g' := (mkF m 35 #[.val (.int u), .val (.int x)] [(.int (1 : Int32)), (.int u)])) (fun tt_ kk_ => XS.ifYes C0.here C0.hx rfl (pc0 := 1) rfl (C0.dec d26_1) rfl (XT.i0_ne_t c1) (by decide) rfl (XS.iloadN C0.here C0.hx rfl (C0.dec d26_33) rfl (XS.iconst C0.here C0.hx rfl (C0.dec d26_34) kk_))) ?_
    by_cases c7 : u = (1 : Int32)
    · refine Endw.st (T' := T0) (g' := (mkF m 39 #[.val (.int u), .val (.int x)] [(.int x)])) (fun tt_ kk_ => XS.icmpNo C0.here C0.hx rfl (C0.dec d26_35) rfl (XT.ii_ne_f c7) (XS.iloadN C0.here C0.hx rfl (C0.dec d26_38) rfl kk_)) ?_
      refine C0.static (y := (⟨"com/example/cohabit/cohabit/NumbersIsDecimalPinLaw", "digit", "(C)Z"⟩ : MethodName)) (W := 0) (argsL := [(.int x)]) (rest := []) (W80 hw) (W81 hw) (W82 hw) (W3 hw) (by decide) (rm_digit l Z a0 EL G x h C0.old) (fun _ => rfl) rfl all0 (by decide) (by decide) (by decide) (by decide) (lenOf pd_2843295a rfl) rfl (Nat.le_of_ble_eq_true rfl) rfl d26_39 (pc' := 42) rfl ?_
      intro vm8 T8 h8 v8 C8 A8 M8 q8
      obtain ⟨rfl, rfl⟩ := q8
      show Endw p e below T8 (mkF m 42 #[.val (.int u), .val (.int x)] [(.int (own_dig x))]) _
      by_cases c9 : (own_dig x) = (0 : Int32)
      · refine Endw.st (T' := T8) (g' := (mkF m 50 #[.val (.int u), .val (.int x)] [(.int (46 : Int32)), (.int x)])) (fun tt_ kk_ => XS.ifYes C8.here C8.hx rfl (pc0 := 42) rfl (C8.dec d26_42) rfl (XT.i0_eq_t c9) (by decide) rfl (XS.iloadN C8.here C8.hx rfl (C8.dec d26_47) rfl (XS.bipush C8.here C8.hx rfl (C8.dec d26_48) kk_))) ?_
        by_cases c10 : x = (46 : Int32)
        · refine Endw.st (T' := T8) (g' := (mkF m 54 #[.val (.int u), .val (.int x)] [(.int (3 : Int32))])) (fun tt_ kk_ => XS.icmpNo C8.here C8.hx rfl (C8.dec d26_50) rfl (XT.ii_ne_f c10) (XS.iconst C8.here C8.hx rfl (C8.dec d26_53) kk_)) ?_
          exact C8.retI (t := .int) rfl (by simp) rfl d26_54 (by decide) (by decide) ⟨by rw [own_step, if_neg c1, if_pos c7, if_pos c9, if_pos c10] <;> rfl, rfl⟩
        · refine Endw.st (T' := T8) (g' := (mkF m 57 #[.val (.int u), .val (.int x)] [(.int (8 : Int32))])) (fun tt_ kk_ => XS.icmpYes C8.here C8.hx rfl (pc0 := 50) rfl (C8.dec d26_50) rfl (XT.ii_ne_t c10) (by decide) rfl (XS.bipush C8.here C8.hx rfl (C8.dec d26_55) kk_)) ?_
          exact C8.retI (t := .int) rfl (by simp) rfl d26_57 (by decide) (by decide) ⟨by rw [own_step, if_neg c1, if_pos c7, if_pos c9, if_neg c10] <;> rfl, rfl⟩
      · refine Endw.st (T' := T8) (g' := (mkF m 46 #[.val (.int u), .val (.int x)] [(.int (2 : Int32))])) (fun tt_ kk_ => XS.ifNo C8.here C8.hx rfl (C8.dec d26_42) rfl (XT.i0_eq_f c9) (XS.iconst C8.here C8.hx rfl (C8.dec d26_45) kk_)) ?_
        exact C8.retI (t := .int) rfl (by simp) rfl d26_46 (by decide) (by decide) ⟨by rw [own_step, if_neg c1, if_pos c7, if_neg c9] <;> rfl, rfl⟩
    · refine Endw.st (T' := T0) (g' := (mkF m 60 #[.val (.int u), .val (.int x)] [(.int (2 : Int32)), (.int u)])) (fun tt_ kk_ => XS.icmpYes C0.here C0.hx rfl (pc0 := 35) rfl (C0.dec d26_35) rfl (XT.ii_ne_t c7) (by decide) rfl (XS.iloadN C0.here C0.hx rfl (C0.dec d26_58) rfl (XS.iconst C0.here C0.hx rfl (C0.dec d26_59) kk_))) ?_
      by_cases c11 : u = (2 : Int32)
      · refine Endw.st (T' := T0) (g' := (mkF m 64 #[.val (.int u), .val (.int x)] [(.int x)])) (fun tt_ kk_ => XS.icmpNo C0.here C0.hx rfl (C0.dec d26_60) rfl (XT.ii_ne_f c11) (XS.iloadN C0.here C0.hx rfl (C0.dec d26_63) rfl kk_)) ?_
        refine C0.static (y := (⟨"com/example/cohabit/cohabit/NumbersIsDecimalPinLaw", "digit", "(C)Z"⟩ : MethodName)) (W := 0) (argsL := [(.int x)]) (rest := []) (W80 hw) (W81 hw) (W82 hw) (W3 hw) (by decide) (rm_digit l Z a0 EL G x h C0.old) (fun _ => rfl) rfl all0 (by decide) (by decide) (by decide) (by decide) (lenOf pd_2843295a rfl) rfl (Nat.le_of_ble_eq_true rfl) rfl d26_64 (pc' := 67) rfl ?_
        intro vm12 T12 h12 v12 C12 A12 M12 q12
        obtain ⟨rfl, rfl⟩ := q12
        show Endw p e below T12 (mkF m 67 #[.val (.int u), .val (.int x)] [(.int (own_dig x))]) _
        by_cases c13 : (own_dig x) = (0 : Int32)
        · refine Endw.st (T' := T12) (g' := (mkF m 75 #[.val (.int u), .val (.int x)] [(.int (46 : Int32)), (.int x)])) (fun tt_ kk_ => XS.ifYes C12.here C12.hx rfl (pc0 := 67) rfl (C12.dec d26_67) rfl (XT.i0_eq_t c13) (by decide) rfl (XS.iloadN C12.here C12.hx rfl (C12.dec d26_72) rfl (XS.bipush C12.here C12.hx rfl (C12.dec d26_73) kk_))) ?_
          by_cases c14 : x = (46 : Int32)
          · refine Endw.st (T' := T12) (g' := (mkF m 79 #[.val (.int u), .val (.int x)] [(.int (4 : Int32))])) (fun tt_ kk_ => XS.icmpNo C12.here C12.hx rfl (C12.dec d26_75) rfl (XT.ii_ne_f c14) (XS.iconst C12.here C12.hx rfl (C12.dec d26_78) kk_)) ?_
            exact C12.retI (t := .int) rfl (by simp) rfl d26_79 (by decide) (by decide) ⟨by rw [own_step, if_neg c1, if_neg c7, if_pos c11, if_pos c13, if_pos c14] <;> rfl, rfl⟩
          · refine Endw.st (T' := T12) (g' := (mkF m 81 #[.val (.int u), .val (.int x)] [(.int x)])) (fun tt_ kk_ => XS.icmpYes C12.here C12.hx rfl (pc0 := 75) rfl (C12.dec d26_75) rfl (XT.ii_ne_t c14) (by decide) rfl (XS.iloadN C12.here C12.hx rfl (C12.dec d26_80) rfl kk_)) ?_
            refine C12.static (y := (⟨"com/example/cohabit/cohabit/NumbersIsDecimalPinLaw", "expo", "(C)Z"⟩ : MethodName)) (W := 0) (argsL := [(.int x)]) (rest := []) (W113 hw) (W114 hw) (W115 hw) (W3 hw) (by decide) (rm_expo l Z a0 EL G x h C12.old) (fun _ => rfl) rfl all0 (by decide) (by decide) (by decide) (by decide) (lenOf pd_2843295a rfl) rfl (Nat.le_of_ble_eq_true rfl) rfl d26_81 (pc' := 84) rfl ?_
            intro vm15 T15 h15 v15 C15 A15 M15 q15
            obtain ⟨rfl, rfl⟩ := q15
            show Endw p e below T15 (mkF m 84 #[.val (.int u), .val (.int x)] [(.int (own_exp x))]) _
            by_cases c16 : (own_exp x) = (0 : Int32)
            · refine Endw.st (T' := T15) (g' := (mkF m 91 #[.val (.int u), .val (.int x)] [(.int (8 : Int32))])) (fun tt_ kk_ => XS.ifYes C15.here C15.hx rfl (pc0 := 84) rfl (C15.dec d26_84) rfl (XT.i0_eq_t c16) (by decide) rfl (XS.bipush C15.here C15.hx rfl (C15.dec d26_89) kk_)) ?_
              exact C15.retI (t := .int) rfl (by simp) rfl d26_91 (by decide) (by decide) ⟨by rw [own_step, if_neg c1, if_neg c7, if_pos c11, if_pos c13, if_neg c14, if_pos c16] <;> rfl, rfl⟩
            · refine Endw.st (T' := T15) (g' := (mkF m 88 #[.val (.int u), .val (.int x)] [(.int (5 : Int32))])) (fun tt_ kk_ => XS.ifNo C15.here C15.hx rfl (C15.dec d26_84) rfl (XT.i0_eq_f c16) (XS.iconst C15.here C15.hx rfl (C15.dec d26_87) kk_)) ?_
              exact C15.retI (t := .int) rfl (by simp) rfl d26_88 (by decide) (by decide) ⟨by rw [own_step, if_neg c1, if_neg c7, if_pos c11, if_pos c13, if_neg c14, if_neg c16] <;> rfl, rfl⟩
        · refine Endw.st (T' := T12) (g' := (mkF m 71 #[.val (.int u), .val (.int x)] [(.int (2 : Int32))])) (fun tt_ kk_ => XS.ifNo C12.here C12.hx rfl (C12.dec d26_67) rfl (XT.i0_eq_f c13) (XS.iconst C12.here C12.hx rfl (C12.dec d26_70) kk_)) ?_
          exact C12.retI (t := .int) rfl (by simp) rfl d26_71 (by decide) (by decide) ⟨by rw [own_step, if_neg c1, if_neg c7, if_pos c11, if_neg c13] <;> rfl, rfl⟩
      · refine Endw.st (T' := T0) (g' := (mkF m 94 #[.val (.int u), .val (.int x)] [(.int (3 : Int32)), (.int u)])) (fun tt_ kk_ => XS.icmpYes C0.here C0.hx rfl (pc0 := 60) rfl (C0.dec d26_60) rfl (XT.ii_ne_t c11) (by decide) rfl (XS.iloadN C0.here C0.hx rfl (C0.dec d26_92) rfl (XS.iconst C0.here C0.hx rfl (C0.dec d26_93) kk_))) ?_
        by_cases c17 : u = (3 : Int32)
        · refine Endw.st (T' := T0) (g' := (mkF m 98 #[.val (.int u), .val (.int x)] [(.int x)])) (fun tt_ kk_ => XS.icmpNo C0.here C0.hx rfl (C0.dec d26_94) rfl (XT.ii_ne_f c17) (XS.iloadN C0.here C0.hx rfl (C0.dec d26_97) rfl kk_)) ?_
          refine C0.static (y := (⟨"com/example/cohabit/cohabit/NumbersIsDecimalPinLaw", "digit", "(C)Z"⟩ : MethodName)) (W := 0) (argsL := [(.int x)]) (rest := []) (W80 hw) (W81 hw) (W82 hw) (W3 hw) (by decide) (rm_digit l Z a0 EL G x h C0.old) (fun _ => rfl) rfl all0 (by decide) (by decide) (by decide) (by decide) (lenOf pd_2843295a rfl) rfl (Nat.le_of_ble_eq_true rfl) rfl d26_98 (pc' := 101) rfl ?_
          intro vm18 T18 h18 v18 C18 A18 M18 q18
          obtain ⟨rfl, rfl⟩ := q18
          show Endw p e below T18 (mkF m 101 #[.val (.int u), .val (.int x)] [(.int (own_dig x))]) _
          by_cases c19 : (own_dig x) = (0 : Int32)
          · refine Endw.st (T' := T18) (g' := (mkF m 108 #[.val (.int u), .val (.int x)] [(.int (8 : Int32))])) (fun tt_ kk_ => XS.ifYes C18.here C18.hx rfl (pc0 := 101) rfl (C18.dec d26_101) rfl (XT.i0_eq_t c19) (by decide) rfl (XS.bipush C18.here C18.hx rfl (C18.dec d26_106) kk_)) ?_
            exact C18.retI (t := .int) rfl (by simp) rfl d26_108 (by decide) (by decide) ⟨by rw [own_step, if_neg c1, if_neg c7, if_neg c11, if_pos c17, if_pos c19] <;> rfl, rfl⟩
          · refine Endw.st (T' := T18) (g' := (mkF m 105 #[.val (.int u), .val (.int x)] [(.int (4 : Int32))])) (fun tt_ kk_ => XS.ifNo C18.here C18.hx rfl (C18.dec d26_101) rfl (XT.i0_eq_f c19) (XS.iconst C18.here C18.hx rfl (C18.dec d26_104) kk_)) ?_
            exact C18.retI (t := .int) rfl (by simp) rfl d26_105 (by decide) (by decide) ⟨by rw [own_step, if_neg c1, if_neg c7, if_neg c11, if_pos c17, if_neg c19] <;> rfl, rfl⟩
        · refine Endw.st (T' := T0) (g' := (mkF m 111 #[.val (.int u), .val (.int x)] [(.int (4 : Int32)), (.int u)])) (fun tt_ kk_ => XS.icmpYes C0.here C0.hx rfl (pc0 := 94) rfl (C0.dec d26_94) rfl (XT.ii_ne_t c17) (by decide) rfl (XS.iloadN C0.here C0.hx rfl (C0.dec d26_109) rfl (XS.iconst C0.here C0.hx rfl (C0.dec d26_110) kk_))) ?_
          by_cases c20 : u = (4 : Int32)
          · refine Endw.st (T' := T0) (g' := (mkF m 115 #[.val (.int u), .val (.int x)] [(.int x)])) (fun tt_ kk_ => XS.icmpNo C0.here C0.hx rfl (C0.dec d26_111) rfl (XT.ii_ne_f c20) (XS.iloadN C0.here C0.hx rfl (C0.dec d26_114) rfl kk_)) ?_
            refine C0.static (y := (⟨"com/example/cohabit/cohabit/NumbersIsDecimalPinLaw", "digit", "(C)Z"⟩ : MethodName)) (W := 0) (argsL := [(.int x)]) (rest := []) (W80 hw) (W81 hw) (W82 hw) (W3 hw) (by decide) (rm_digit l Z a0 EL G x h C0.old) (fun _ => rfl) rfl all0 (by decide) (by decide) (by decide) (by decide) (lenOf pd_2843295a rfl) rfl (Nat.le_of_ble_eq_true rfl) rfl d26_115 (pc' := 118) rfl ?_
            intro vm21 T21 h21 v21 C21 A21 M21 q21
            obtain ⟨rfl, rfl⟩ := q21
            show Endw p e below T21 (mkF m 118 #[.val (.int u), .val (.int x)] [(.int (own_dig x))]) _
            by_cases c22 : (own_dig x) = (0 : Int32)
            · refine Endw.st (T' := T21) (g' := (mkF m 124 #[.val (.int u), .val (.int x)] [(.int x)])) (fun tt_ kk_ => XS.ifYes C21.here C21.hx rfl (pc0 := 118) rfl (C21.dec d26_118) rfl (XT.i0_eq_t c22) (by decide) rfl (XS.iloadN C21.here C21.hx rfl (C21.dec d26_123) rfl kk_)) ?_
              refine C21.static (y := (⟨"com/example/cohabit/cohabit/NumbersIsDecimalPinLaw", "expo", "(C)Z"⟩ : MethodName)) (W := 0) (argsL := [(.int x)]) (rest := []) (W113 hw) (W114 hw) (W115 hw) (W3 hw) (by decide) (rm_expo l Z a0 EL G x h C21.old) (fun _ => rfl) rfl all0 (by decide) (by decide) (by decide) (by decide) (lenOf pd_2843295a rfl) rfl (Nat.le_of_ble_eq_true rfl) rfl d26_124 (pc' := 127) rfl ?_
              intro vm23 T23 h23 v23 C23 A23 M23 q23
              obtain ⟨rfl, rfl⟩ := q23
              show Endw p e below T23 (mkF m 127 #[.val (.int u), .val (.int x)] [(.int (own_exp x))]) _
              by_cases c24 : (own_exp x) = (0 : Int32)
              · refine Endw.st (T' := T23) (g' := (mkF m 134 #[.val (.int u), .val (.int x)] [(.int (8 : Int32))])) (fun tt_ kk_ => XS.ifYes C23.here C23.hx rfl (pc0 := 127) rfl (C23.dec d26_127) rfl (XT.i0_eq_t c24) (by decide) rfl (XS.bipush C23.here C23.hx rfl (C23.dec d26_132) kk_)) ?_
                exact C23.retI (t := .int) rfl (by simp) rfl d26_134 (by decide) (by decide) ⟨by rw [own_step, if_neg c1, if_neg c7, if_neg c11, if_neg c17, if_pos c20, if_pos c22, if_pos c24] <;> rfl, rfl⟩
              · refine Endw.st (T' := T23) (g' := (mkF m 131 #[.val (.int u), .val (.int x)] [(.int (5 : Int32))])) (fun tt_ kk_ => XS.ifNo C23.here C23.hx rfl (C23.dec d26_127) rfl (XT.i0_eq_f c24) (XS.iconst C23.here C23.hx rfl (C23.dec d26_130) kk_)) ?_
                exact C23.retI (t := .int) rfl (by simp) rfl d26_131 (by decide) (by decide) ⟨by rw [own_step, if_neg c1, if_neg c7, if_neg c11, if_neg c17, if_pos c20, if_pos c22, if_neg c24] <;> rfl, rfl⟩
            · refine Endw.st (T' := T21) (g' := (mkF m 122 #[.val (.int u), .val (.int x)] [(.int (4 : Int32))])) (fun tt_ kk_ => XS.ifNo C21.here C21.hx rfl (C21.dec d26_118) rfl (XT.i0_eq_f c22) (XS.iconst C21.here C21.hx rfl (C21.dec d26_121) kk_)) ?_
              exact C21.retI (t := .int) rfl (by simp) rfl d26_122 (by decide) (by decide) ⟨by rw [own_step, if_neg c1, if_neg c7, if_neg c11, if_neg c17, if_pos c20, if_neg c22] <;> rfl, rfl⟩
          · refine Endw.st (T' := T0) (g' := (mkF m 137 #[.val (.int u), .val (.int x)] [(.int (5 : Int32)), (.int u)])) (fun tt_ kk_ => XS.icmpYes C0.here C0.hx rfl (pc0 := 111) rfl (C0.dec d26_111) rfl (XT.ii_ne_t c20) (by decide) rfl (XS.iloadN C0.here C0.hx rfl (C0.dec d26_135) rfl (XS.iconst C0.here C0.hx rfl (C0.dec d26_136) kk_))) ?_
            by_cases c25 : u = (5 : Int32)
            · refine Endw.st (T' := T0) (g' := (mkF m 141 #[.val (.int u), .val (.int x)] [(.int x)])) (fun tt_ kk_ => XS.icmpNo C0.here C0.hx rfl (C0.dec d26_137) rfl (XT.ii_ne_f c25) (XS.iloadN C0.here C0.hx rfl (C0.dec d26_140) rfl kk_)) ?_
              refine C0.static (y := (⟨"com/example/cohabit/cohabit/NumbersIsDecimalPinLaw", "sign", "(C)Z"⟩ : MethodName)) (W := 0) (argsL := [(.int x)]) (rest := []) (W83 hw) (W84 hw) (W85 hw) (W3 hw) (by decide) (rm_sign l Z a0 EL G x h C0.old) (fun _ => rfl) rfl all0 (by decide) (by decide) (by decide) (by decide) (lenOf pd_2843295a rfl) rfl (Nat.le_of_ble_eq_true rfl) rfl d26_141 (pc' := 144) rfl ?_
              intro vm26 T26 h26 v26 C26 A26 M26 q26
              obtain ⟨rfl, rfl⟩ := q26
              show Endw p e below T26 (mkF m 144 #[.val (.int u), .val (.int x)] [(.int (own_sgn x))]) _
              by_cases c27 : (own_sgn x) = (0 : Int32)
              · refine Endw.st (T' := T26) (g' := (mkF m 151 #[.val (.int u), .val (.int x)] [(.int x)])) (fun tt_ kk_ => XS.ifYes C26.here C26.hx rfl (pc0 := 144) rfl (C26.dec d26_144) rfl (XT.i0_eq_t c27) (by decide) rfl (XS.iloadN C26.here C26.hx rfl (C26.dec d26_150) rfl kk_)) ?_
                refine C26.static (y := (⟨"com/example/cohabit/cohabit/NumbersIsDecimalPinLaw", "digit", "(C)Z"⟩ : MethodName)) (W := 0) (argsL := [(.int x)]) (rest := []) (W80 hw) (W81 hw) (W82 hw) (W3 hw) (by decide) (rm_digit l Z a0 EL G x h C26.old) (fun _ => rfl) rfl all0 (by decide) (by decide) (by decide) (by decide) (lenOf pd_2843295a rfl) rfl (Nat.le_of_ble_eq_true rfl) rfl d26_151 (pc' := 154) rfl ?_
                intro vm28 T28 h28 v28 C28 A28 M28 q28
                obtain ⟨rfl, rfl⟩ := q28
                show Endw p e below T28 (mkF m 154 #[.val (.int u), .val (.int x)] [(.int (own_dig x))]) _
                by_cases c29 : (own_dig x) = (0 : Int32)
                · refine Endw.st (T' := T28) (g' := (mkF m 162 #[.val (.int u), .val (.int x)] [(.int (8 : Int32))])) (fun tt_ kk_ => XS.ifYes C28.here C28.hx rfl (pc0 := 154) rfl (C28.dec d26_154) rfl (XT.i0_eq_t c29) (by decide) rfl (XS.bipush C28.here C28.hx rfl (C28.dec d26_160) kk_)) ?_
                  exact C28.retI (t := .int) rfl (by simp) rfl d26_162 (by decide) (by decide) ⟨by rw [own_step, if_neg c1, if_neg c7, if_neg c11, if_neg c17, if_neg c20, if_pos c25, if_pos c27, if_pos c29] <;> rfl, rfl⟩
                · refine Endw.st (T' := T28) (g' := (mkF m 159 #[.val (.int u), .val (.int x)] [(.int (7 : Int32))])) (fun tt_ kk_ => XS.ifNo C28.here C28.hx rfl (C28.dec d26_154) rfl (XT.i0_eq_f c29) (XS.bipush C28.here C28.hx rfl (C28.dec d26_157) kk_)) ?_
                  exact C28.retI (t := .int) rfl (by simp) rfl d26_159 (by decide) (by decide) ⟨by rw [own_step, if_neg c1, if_neg c7, if_neg c11, if_neg c17, if_neg c20, if_pos c25, if_pos c27, if_neg c29] <;> rfl, rfl⟩
              · refine Endw.st (T' := T26) (g' := (mkF m 149 #[.val (.int u), .val (.int x)] [(.int (6 : Int32))])) (fun tt_ kk_ => XS.ifNo C26.here C26.hx rfl (C26.dec d26_144) rfl (XT.i0_eq_f c27) (XS.bipush C26.here C26.hx rfl (C26.dec d26_147) kk_)) ?_
                exact C26.retI (t := .int) rfl (by simp) rfl d26_149 (by decide) (by decide) ⟨by rw [own_step, if_neg c1, if_neg c7, if_neg c11, if_neg c17, if_neg c20, if_pos c25, if_neg c27] <;> rfl, rfl⟩
            · refine Endw.st (T' := T0) (g' := (mkF m 166 #[.val (.int u), .val (.int x)] [(.int (6 : Int32)), (.int u)])) (fun tt_ kk_ => XS.icmpYes C0.here C0.hx rfl (pc0 := 137) rfl (C0.dec d26_137) rfl (XT.ii_ne_t c25) (by decide) rfl (XS.iloadN C0.here C0.hx rfl (C0.dec d26_163) rfl (XS.bipush C0.here C0.hx rfl (C0.dec d26_164) kk_))) ?_
              by_cases c30 : u = (6 : Int32)
              · refine Endw.st (T' := T0) (g' := (mkF m 170 #[.val (.int u), .val (.int x)] [(.int x)])) (fun tt_ kk_ => XS.icmpNo C0.here C0.hx rfl (C0.dec d26_166) rfl (XT.ii_ne_f c30) (XS.iloadN C0.here C0.hx rfl (C0.dec d26_169) rfl kk_)) ?_
                refine C0.static (y := (⟨"com/example/cohabit/cohabit/NumbersIsDecimalPinLaw", "digit", "(C)Z"⟩ : MethodName)) (W := 0) (argsL := [(.int x)]) (rest := []) (W80 hw) (W81 hw) (W82 hw) (W3 hw) (by decide) (rm_digit l Z a0 EL G x h C0.old) (fun _ => rfl) rfl all0 (by decide) (by decide) (by decide) (by decide) (lenOf pd_2843295a rfl) rfl (Nat.le_of_ble_eq_true rfl) rfl d26_170 (pc' := 173) rfl ?_
                intro vm31 T31 h31 v31 C31 A31 M31 q31
                obtain ⟨rfl, rfl⟩ := q31
                show Endw p e below T31 (mkF m 173 #[.val (.int u), .val (.int x)] [(.int (own_dig x))]) _
                by_cases c32 : (own_dig x) = (0 : Int32)
                · refine Endw.st (T' := T31) (g' := (mkF m 181 #[.val (.int u), .val (.int x)] [(.int (8 : Int32))])) (fun tt_ kk_ => XS.ifYes C31.here C31.hx rfl (pc0 := 173) rfl (C31.dec d26_173) rfl (XT.i0_eq_t c32) (by decide) rfl (XS.bipush C31.here C31.hx rfl (C31.dec d26_179) kk_)) ?_
                  exact C31.retI (t := .int) rfl (by simp) rfl d26_181 (by decide) (by decide) ⟨by rw [own_step, if_neg c1, if_neg c7, if_neg c11, if_neg c17, if_neg c20, if_neg c25, if_pos c30, if_pos c32] <;> rfl, rfl⟩
                · refine Endw.st (T' := T31) (g' := (mkF m 178 #[.val (.int u), .val (.int x)] [(.int (7 : Int32))])) (fun tt_ kk_ => XS.ifNo C31.here C31.hx rfl (C31.dec d26_173) rfl (XT.i0_eq_f c32) (XS.bipush C31.here C31.hx rfl (C31.dec d26_176) kk_)) ?_
                  exact C31.retI (t := .int) rfl (by simp) rfl d26_178 (by decide) (by decide) ⟨by rw [own_step, if_neg c1, if_neg c7, if_neg c11, if_neg c17, if_neg c20, if_neg c25, if_pos c30, if_neg c32] <;> rfl, rfl⟩
              · refine Endw.st (T' := T0) (g' := (mkF m 185 #[.val (.int u), .val (.int x)] [(.int (7 : Int32)), (.int u)])) (fun tt_ kk_ => XS.icmpYes C0.here C0.hx rfl (pc0 := 166) rfl (C0.dec d26_166) rfl (XT.ii_ne_t c30) (by decide) rfl (XS.iloadN C0.here C0.hx rfl (C0.dec d26_182) rfl (XS.bipush C0.here C0.hx rfl (C0.dec d26_183) kk_))) ?_
                by_cases c33 : u = (7 : Int32)
                · refine Endw.st (T' := T0) (g' := (mkF m 189 #[.val (.int u), .val (.int x)] [(.int x)])) (fun tt_ kk_ => XS.icmpNo C0.here C0.hx rfl (C0.dec d26_185) rfl (XT.ii_ne_f c33) (XS.iloadN C0.here C0.hx rfl (C0.dec d26_188) rfl kk_)) ?_
                  refine C0.static (y := (⟨"com/example/cohabit/cohabit/NumbersIsDecimalPinLaw", "digit", "(C)Z"⟩ : MethodName)) (W := 0) (argsL := [(.int x)]) (rest := []) (W80 hw) (W81 hw) (W82 hw) (W3 hw) (by decide) (rm_digit l Z a0 EL G x h C0.old) (fun _ => rfl) rfl all0 (by decide) (by decide) (by decide) (by decide) (lenOf pd_2843295a rfl) rfl (Nat.le_of_ble_eq_true rfl) rfl d26_189 (pc' := 192) rfl ?_
                  intro vm34 T34 h34 v34 C34 A34 M34 q34
                  obtain ⟨rfl, rfl⟩ := q34
                  show Endw p e below T34 (mkF m 192 #[.val (.int u), .val (.int x)] [(.int (own_dig x))]) _
                  by_cases c35 : (own_dig x) = (0 : Int32)
                  · refine Endw.st (T' := T34) (g' := (mkF m 200 #[.val (.int u), .val (.int x)] [(.int (8 : Int32))])) (fun tt_ kk_ => XS.ifYes C34.here C34.hx rfl (pc0 := 192) rfl (C34.dec d26_192) rfl (XT.i0_eq_t c35) (by decide) rfl (XS.bipush C34.here C34.hx rfl (C34.dec d26_198) kk_)) ?_
                    exact C34.retI (t := .int) rfl (by simp) rfl d26_200 (by decide) (by decide) ⟨by rw [own_step, if_neg c1, if_neg c7, if_neg c11, if_neg c17, if_neg c20, if_neg c25, if_neg c30, if_pos c33, if_pos c35] <;> rfl, rfl⟩
                  · refine Endw.st (T' := T34) (g' := (mkF m 197 #[.val (.int u), .val (.int x)] [(.int (7 : Int32))])) (fun tt_ kk_ => XS.ifNo C34.here C34.hx rfl (C34.dec d26_192) rfl (XT.i0_eq_f c35) (XS.bipush C34.here C34.hx rfl (C34.dec d26_195) kk_)) ?_
                    exact C34.retI (t := .int) rfl (by simp) rfl d26_197 (by decide) (by decide) ⟨by rw [own_step, if_neg c1, if_neg c7, if_neg c11, if_neg c17, if_neg c20, if_neg c25, if_neg c30, if_pos c33, if_neg c35] <;> rfl, rfl⟩
                · refine Endw.st (T' := T0) (g' := (mkF m 203 #[.val (.int u), .val (.int x)] [(.int (8 : Int32))])) (fun tt_ kk_ => XS.icmpYes C0.here C0.hx rfl (pc0 := 185) rfl (C0.dec d26_185) rfl (XT.ii_ne_t c33) (by decide) rfl (XS.bipush C0.here C0.hx rfl (C0.dec d26_201) kk_)) ?_
                  exact C0.retI (t := .int) rfl (by simp) rfl d26_203 (by decide) (by decide) ⟨by rw [own_step, if_neg c1, if_neg c7, if_neg c11, if_neg c17, if_neg c20, if_neg c25, if_neg c30, if_neg c33] <;> rfl, rfl⟩
set_option maxRecDepth 65536 in
set_option maxHeartbeats 40000000 in
theorem rm_ch (l : Launch) (Z : State) (a0 : Array Value) (EL : List (String × Nat)) (G : Glob Z a0 EL) (u : Int32) (h : Heap) (O : Ext Z.heap h)  :
    Met l Z EL true (⟨"com/example/cohabit/cohabit/NumbersIsDecimalPinLaw", "ch", "(I)C"⟩ : MethodName) method_3_code 2 (some .char) [] ({ frames := 0, cells := 0, slots := 0, locals := 0 } : Room) #[(.int u)] h [] (fun r h' => ∃ x : Int32, r = some (.int x) ∧ C16 x ∧ h = h') := by
  have hw := G.hw
  obtain ⟨zc, Sc, hzc⟩ := G.cs
  obtain ⟨vf, Sf, hvf⟩ := G.fm
  obtain Sa := G.u1
  obtain Sh := G.u2
  obtain Sl := G.u3
  refine Met.of (plainFor_of_name pn_50696e4c6177_1) G.ew O ?_
  intro p e s m below meth c T0 C0 S0
  refine Endw.eq (g' := mkF m 0 #[.val (.int u), .unset] []) (by first | rfl | (simp [entryFrame, mkF, argsToLocals, own_cI, own_cR, own_cN, own_cJ, own_cD, maxLocals]; done)) ?_
  refine Endw.st (T' := T0) (g' := (mkF m 7 #[.val (.int u), .val (.int (u &&& (15 : Int32)))] [(.int (4 : Int32)), (.int (u &&& (15 : Int32)))])) (fun tt_ kk_ => XS.iloadN C0.here C0.hx rfl (C0.dec d27_0) rfl (XS.bipush C0.here C0.hx rfl (C0.dec d27_1) (XS.iand C0.here C0.hx rfl (C0.dec d27_3) rfl (XS.istoreN C0.here C0.hx rfl (C0.dec d27_4) rfl (l' := #[.val (.int u), .val (.int (u &&& (15 : Int32)))]) rfl (XS.iloadN C0.here C0.hx rfl (C0.dec d27_5) rfl (XS.iconst C0.here C0.hx rfl (C0.dec d27_6) kk_)))))) ?_
  by_cases c1 : (u &&& (15 : Int32)) < (4 : Int32)
  · refine Endw.st (T' := T0) (g' := (mkF m 20 #[.val (.int u), .val (.int (u &&& (15 : Int32)))] [(.int (10 : Int32)), (.int (((u.toUInt32 >>> ((4 : Int32) &&& 31).toUInt32).toInt32) &&& (15 : Int32))), (.int (48 : Int32))])) (fun tt_ kk_ => XS.icmpNo C0.here C0.hx rfl (C0.dec d27_7) rfl (XT.ii_ge_f c1) (XS.bipush C0.here C0.hx rfl (C0.dec d27_10) (XS.iloadN C0.here C0.hx rfl (C0.dec d27_12) rfl (XS.iconst C0.here C0.hx rfl (C0.dec d27_13) (XS.iushr C0.here C0.hx rfl (C0.dec d27_14) rfl (XS.bipush C0.here C0.hx rfl (C0.dec d27_15) (XS.iand C0.here C0.hx rfl (C0.dec d27_17) rfl (XS.bipush C0.here C0.hx rfl (C0.dec d27_18) kk_)))))))) ?_
    refine Endw.st (T' := T0) (g' := (mkF m 23 #[.val (.int u), .val (.int (u &&& (15 : Int32)))] [(.int (((48 : Int32) + ((((u.toUInt32 >>> ((4 : Int32) &&& 31).toUInt32).toInt32) &&& (15 : Int32)) % (10 : Int32))).toUInt32.toUInt16.toUInt32.toInt32))])) (fun tt_ kk_ => own_irem C0 rfl d27_20 rfl (by decide) (XS.iadd C0.here C0.hx rfl (C0.dec d27_21) rfl (XS.i2c C0.here C0.hx rfl (C0.dec d27_22) rfl kk_))) ?_
    exact C0.retI (t := .char) rfl (by simp) (own_narCi _) d27_23 (by decide) (by decide) ⟨_, rfl, own_c16i _, rfl⟩
  · refine Endw.st (T' := T0) (g' := (mkF m 26 #[.val (.int u), .val (.int (u &&& (15 : Int32)))] [(.int (4 : Int32)), (.int (u &&& (15 : Int32)))])) (fun tt_ kk_ => XS.icmpYes C0.here C0.hx rfl (pc0 := 7) rfl (C0.dec d27_7) rfl (XT.ii_ge_t c1) (by decide) rfl (XS.iloadN C0.here C0.hx rfl (C0.dec d27_24) rfl (XS.iconst C0.here C0.hx rfl (C0.dec d27_25) kk_))) ?_
    by_cases c2 : (u &&& (15 : Int32)) = (4 : Int32)
    · refine Endw.st (T' := T0) (g' := (mkF m 31 #[.val (.int u), .val (.int (u &&& (15 : Int32)))] [(.int (43 : Int32))])) (fun tt_ kk_ => XS.icmpNo C0.here C0.hx rfl (C0.dec d27_26) rfl (XT.ii_ne_f c2) (XS.bipush C0.here C0.hx rfl (C0.dec d27_29) kk_)) ?_
      exact C0.retI (t := .char) rfl (by simp) rfl d27_31 (by decide) (by decide) ⟨_, rfl, ⟨by decide, by decide⟩, rfl⟩
    · refine Endw.st (T' := T0) (g' := (mkF m 34 #[.val (.int u), .val (.int (u &&& (15 : Int32)))] [(.int (5 : Int32)), (.int (u &&& (15 : Int32)))])) (fun tt_ kk_ => XS.icmpYes C0.here C0.hx rfl (pc0 := 26) rfl (C0.dec d27_26) rfl (XT.ii_ne_t c2) (by decide) rfl (XS.iloadN C0.here C0.hx rfl (C0.dec d27_32) rfl (XS.iconst C0.here C0.hx rfl (C0.dec d27_33) kk_))) ?_
      by_cases c3 : (u &&& (15 : Int32)) = (5 : Int32)
      · refine Endw.st (T' := T0) (g' := (mkF m 39 #[.val (.int u), .val (.int (u &&& (15 : Int32)))] [(.int (45 : Int32))])) (fun tt_ kk_ => XS.icmpNo C0.here C0.hx rfl (C0.dec d27_34) rfl (XT.ii_ne_f c3) (XS.bipush C0.here C0.hx rfl (C0.dec d27_37) kk_)) ?_
        exact C0.retI (t := .char) rfl (by simp) rfl d27_39 (by decide) (by decide) ⟨_, rfl, ⟨by decide, by decide⟩, rfl⟩
      · refine Endw.st (T' := T0) (g' := (mkF m 43 #[.val (.int u), .val (.int (u &&& (15 : Int32)))] [(.int (6 : Int32)), (.int (u &&& (15 : Int32)))])) (fun tt_ kk_ => XS.icmpYes C0.here C0.hx rfl (pc0 := 34) rfl (C0.dec d27_34) rfl (XT.ii_ne_t c3) (by decide) rfl (XS.iloadN C0.here C0.hx rfl (C0.dec d27_40) rfl (XS.bipush C0.here C0.hx rfl (C0.dec d27_41) kk_))) ?_
        by_cases c4 : (u &&& (15 : Int32)) = (6 : Int32)
        · refine Endw.st (T' := T0) (g' := (mkF m 48 #[.val (.int u), .val (.int (u &&& (15 : Int32)))] [(.int (46 : Int32))])) (fun tt_ kk_ => XS.icmpNo C0.here C0.hx rfl (C0.dec d27_43) rfl (XT.ii_ne_f c4) (XS.bipush C0.here C0.hx rfl (C0.dec d27_46) kk_)) ?_
          exact C0.retI (t := .char) rfl (by simp) rfl d27_48 (by decide) (by decide) ⟨_, rfl, ⟨by decide, by decide⟩, rfl⟩
        · refine Endw.st (T' := T0) (g' := (mkF m 52 #[.val (.int u), .val (.int (u &&& (15 : Int32)))] [(.int (7 : Int32)), (.int (u &&& (15 : Int32)))])) (fun tt_ kk_ => XS.icmpYes C0.here C0.hx rfl (pc0 := 43) rfl (C0.dec d27_43) rfl (XT.ii_ne_t c4) (by decide) rfl (XS.iloadN C0.here C0.hx rfl (C0.dec d27_49) rfl (XS.bipush C0.here C0.hx rfl (C0.dec d27_50) kk_))) ?_
          by_cases c5 : (u &&& (15 : Int32)) = (7 : Int32)
          · refine Endw.st (T' := T0) (g' := (mkF m 57 #[.val (.int u), .val (.int (u &&& (15 : Int32)))] [(.int (101 : Int32))])) (fun tt_ kk_ => XS.icmpNo C0.here C0.hx rfl (C0.dec d27_52) rfl (XT.ii_ne_f c5) (XS.bipush C0.here C0.hx rfl (C0.dec d27_55) kk_)) ?_
            exact C0.retI (t := .char) rfl (by simp) rfl d27_57 (by decide) (by decide) ⟨_, rfl, ⟨by decide, by decide⟩, rfl⟩
          · refine Endw.st (T' := T0) (g' := (mkF m 61 #[.val (.int u), .val (.int (u &&& (15 : Int32)))] [(.int (8 : Int32)), (.int (u &&& (15 : Int32)))])) (fun tt_ kk_ => XS.icmpYes C0.here C0.hx rfl (pc0 := 52) rfl (C0.dec d27_52) rfl (XT.ii_ne_t c5) (by decide) rfl (XS.iloadN C0.here C0.hx rfl (C0.dec d27_58) rfl (XS.bipush C0.here C0.hx rfl (C0.dec d27_59) kk_))) ?_
            by_cases c6 : (u &&& (15 : Int32)) = (8 : Int32)
            · refine Endw.st (T' := T0) (g' := (mkF m 66 #[.val (.int u), .val (.int (u &&& (15 : Int32)))] [(.int (69 : Int32))])) (fun tt_ kk_ => XS.icmpNo C0.here C0.hx rfl (C0.dec d27_61) rfl (XT.ii_ne_f c6) (XS.bipush C0.here C0.hx rfl (C0.dec d27_64) kk_)) ?_
              exact C0.retI (t := .char) rfl (by simp) rfl d27_66 (by decide) (by decide) ⟨_, rfl, ⟨by decide, by decide⟩, rfl⟩
            · refine Endw.st (T' := T0) (g' := (mkF m 72 #[.val (.int u), .val (.int (u &&& (15 : Int32)))] [(.int (((u.toUInt32 >>> ((16 : Int32) &&& 31).toUInt32).toInt32).toUInt32.toUInt16.toUInt32.toInt32))])) (fun tt_ kk_ => XS.icmpYes C0.here C0.hx rfl (pc0 := 61) rfl (C0.dec d27_61) rfl (XT.ii_ne_t c6) (by decide) rfl (XS.iloadN C0.here C0.hx rfl (C0.dec d27_67) rfl (XS.bipush C0.here C0.hx rfl (C0.dec d27_68) (XS.iushr C0.here C0.hx rfl (C0.dec d27_70) rfl (XS.i2c C0.here C0.hx rfl (C0.dec d27_71) rfl kk_))))) ?_
              exact C0.retI (t := .char) rfl (by simp) (own_narCi _) d27_72 (by decide) (by decide) ⟨_, rfl, own_c16i _, rfl⟩
set_option maxRecDepth 65536 in
set_option maxHeartbeats 40000000 in
theorem rm_law (l : Launch) (Z : State) (a0 : Array Value) (EL : List (String × Nat)) (G : Glob Z a0 EL) (i0 : Int32) (i1 i2 i3 i4 : Int64) (h : Heap) (O : Ext Z.heap h)  :
    Met l Z EL false x code maxLocals ret tables_1 room_1 #[(.int i0), (.long i1), (.long i2), (.long i3), (.long i4)] h [] (fun r h' => r = some (.int 1)) := by
  have hw := G.hw
  obtain ⟨zc, Sc, hzc⟩ := G.cs
  obtain ⟨vf, Sf, hvf⟩ := G.fm
  obtain Sa := G.u1
  obtain Sh := G.u2
  obtain Sl := G.u3
  refine Met.of (plainFor_of_name pn_50696e4c6177_1) G.ew O ?_
  intro p e s m below meth c T0 C0 S0
  refine Endw.eq (g' := mkF m 0 #[.val (.int i0), .val (.long i1), .second, .val (.long i2), .second, .val (.long i3), .second, .val (.long i4), .second, .unset, .unset, .unset, .unset, .unset, .unset, .unset, .unset, .unset, .unset, .unset, .unset] []) (by simp [entryFrame, mkF, argsToLocals, own_cI, own_cR, own_cN, own_cJ, own_cD, maxLocals]) ?_
  have J228 : ∀ (l9 : Slot) (l10 : Slot) (l11 : Slot) (l12 : Slot) (l13 : Slot) (l14 : Slot) (l15 : Slot) (l16 : Slot) (l17 : Slot) (a : Addr) (t : Addr) (kb : ClassId) (cs : List Int32) (u : Int32) (vm : Vm) (T : State) (hh : Heap), (Txt Z hh a t kb cs) → (cs.length ≤ 8) → (own_acc u = own_isDec cs) → (Keep h hh []) → (CHr Z EL s.vm h vm hh) → Core p l e room_1 s m #[(.int i0), (.long i1), (.long i2), (.long i3), (.long i4)] below meth c code 21 (some .boolean) "law" "com/example/cohabit/cohabit/NumbersIsDecimalPinLaw" Z a0 EL false vm T hh 6 36 → Endw p e below T (mkF m 228 #[.val (.int i0), .val (.long i1), .second, .val (.long i2), .second, .val (.long i3), .second, .val (.long i4), .second, l9, l10, l11, l12, l13, l14, l15, l16, l17, .val (.ref a), .val (.int u), .unset] []) (Fin s Z EL false (fun r h' => r = some (.int 1)) (room_1).cells (room_1).slots) := by
    intro l9 l10 l11 l12 l13 l14 l15 l16 l17 a t kb cs u vm T hh Y h8 hu K A C
    refine Endw.st (T' := T) (g' := (mkF m 231 #[.val (.int i0), .val (.long i1), .second, .val (.long i2), .second, .val (.long i3), .second, .val (.long i4), .second, l9, l10, l11, l12, l13, l14, l15, l16, l17, .val (.ref a), .val (.int u), .unset] [(.int (2 : Int32)), (.int u)])) (fun tt_ kk_ => XS.iload C.here C.hx rfl (C.dec at_228) rfl (XS.iconst C.here C.hx rfl (C.dec at_230) kk_)) ?_
    by_cases c1 : u = (2 : Int32)
    · refine Endw.st (T' := T) (g' := (mkF m 256 #[.val (.int i0), .val (.long i1), .second, .val (.long i2), .second, .val (.long i3), .second, .val (.long i4), .second, l9, l10, l11, l12, l13, l14, l15, l16, l17, .val (.ref a), .val (.int u), .val (.int (1 : Int32))] [(.ref a)])) (fun tt_ kk_ => XS.icmpYes C.here C.hx rfl (pc0 := 231) rfl (C.dec at_231) rfl (XT.ii_eq_t c1) (by decide) rfl (XS.iconst C.here C.hx rfl (C.dec at_247) (XS.goto C.here C.hx rfl (pc0 := 248) rfl (C.dec at_248) (by decide) rfl (XS.istore C.here C.hx rfl (C.dec at_252) rfl (l' := #[.val (.int i0), .val (.long i1), .second, .val (.long i2), .second, .val (.long i3), .second, .val (.long i4), .second, l9, l10, l11, l12, l13, l14, l15, l16, l17, .val (.ref a), .val (.int u), .val (.int (1 : Int32))]) rfl (XS.aload C.here C.hx rfl (C.dec at_254) rfl rfl kk_))))) ?_
      refine C.static (y := (⟨"com/example/cohabit/cohabit/Numbers", "isDecimal", "(Ljava/lang/String;)Z"⟩ : MethodName)) (W := 0) (argsL := [(.ref a)]) (rest := []) (W30 hw) (W31 hw) (W33 hw) (W32 hw) (by decide) (rm_isDec l Z a0 EL G a t kb cs hh C.old Y h8) (fun _ => rfl) rfl all0 (by decide) (by decide) (by decide) (by decide) (lenOf pd_14 rfl) rfl (Nat.le_of_ble_eq_true rfl) rfl at_256 (pc' := 259) rfl ?_
      intro vm2 T2 h2 v2 C2 A2 M2 q2
      obtain ⟨rfl, rfl⟩ := q2
      show Endw p e below T2 (mkF m 259 #[.val (.int i0), .val (.long i1), .second, .val (.long i2), .second, .val (.long i3), .second, .val (.long i4), .second, l9, l10, l11, l12, l13, l14, l15, l16, l17, .val (.ref a), .val (.int u), .val (.int (1 : Int32))] [(.int (own_isDec cs))]) _
      refine Endw.st (T' := T2) (g' := (mkF m 269 #[.val (.int i0), .val (.long i1), .second, .val (.long i2), .second, .val (.long i3), .second, .val (.long i4), .second, l9, l10, l11, l12, l13, l14, l15, l16, l17, .val (.ref a), .val (.int u), .val (.int (1 : Int32))] [(.int (1 : Int32))])) (fun tt_ kk_ => XS.iload C2.here C2.hx rfl (C2.dec at_259) rfl (XS.icmpNo C2.here C2.hx rfl (C2.dec at_261) rfl (XT.ii_ne_f (by rw [← hu, own_acc, if_pos c1] <;> rfl)) (XS.iconst C2.here C2.hx rfl (C2.dec at_264) (XS.goto C2.here C2.hx rfl (pc0 := 265) rfl (C2.dec at_265) (by decide) rfl kk_)))) ?_
      exact C2.retI (t := .boolean) rfl (by simp) rfl at_269 (by decide) (by decide) rfl
    · refine Endw.st (T' := T) (g' := (mkF m 237 #[.val (.int i0), .val (.long i1), .second, .val (.long i2), .second, .val (.long i3), .second, .val (.long i4), .second, l9, l10, l11, l12, l13, l14, l15, l16, l17, .val (.ref a), .val (.int u), .unset] [(.int (4 : Int32)), (.int u)])) (fun tt_ kk_ => XS.icmpNo C.here C.hx rfl (C.dec at_231) rfl (XT.ii_eq_f c1) (XS.iload C.here C.hx rfl (C.dec at_234) rfl (XS.iconst C.here C.hx rfl (C.dec at_236) kk_))) ?_
      by_cases c3 : u = (4 : Int32)
      · refine Endw.st (T' := T) (g' := (mkF m 256 #[.val (.int i0), .val (.long i1), .second, .val (.long i2), .second, .val (.long i3), .second, .val (.long i4), .second, l9, l10, l11, l12, l13, l14, l15, l16, l17, .val (.ref a), .val (.int u), .val (.int (1 : Int32))] [(.ref a)])) (fun tt_ kk_ => XS.icmpYes C.here C.hx rfl (pc0 := 237) rfl (C.dec at_237) rfl (XT.ii_eq_t c3) (by decide) rfl (XS.iconst C.here C.hx rfl (C.dec at_247) (XS.goto C.here C.hx rfl (pc0 := 248) rfl (C.dec at_248) (by decide) rfl (XS.istore C.here C.hx rfl (C.dec at_252) rfl (l' := #[.val (.int i0), .val (.long i1), .second, .val (.long i2), .second, .val (.long i3), .second, .val (.long i4), .second, l9, l10, l11, l12, l13, l14, l15, l16, l17, .val (.ref a), .val (.int u), .val (.int (1 : Int32))]) rfl (XS.aload C.here C.hx rfl (C.dec at_254) rfl rfl kk_))))) ?_
        refine C.static (y := (⟨"com/example/cohabit/cohabit/Numbers", "isDecimal", "(Ljava/lang/String;)Z"⟩ : MethodName)) (W := 0) (argsL := [(.ref a)]) (rest := []) (W30 hw) (W31 hw) (W33 hw) (W32 hw) (by decide) (rm_isDec l Z a0 EL G a t kb cs hh C.old Y h8) (fun _ => rfl) rfl all0 (by decide) (by decide) (by decide) (by decide) (lenOf pd_14 rfl) rfl (Nat.le_of_ble_eq_true rfl) rfl at_256 (pc' := 259) rfl ?_
        intro vm4 T4 h4 v4 C4 A4 M4 q4
        obtain ⟨rfl, rfl⟩ := q4
        show Endw p e below T4 (mkF m 259 #[.val (.int i0), .val (.long i1), .second, .val (.long i2), .second, .val (.long i3), .second, .val (.long i4), .second, l9, l10, l11, l12, l13, l14, l15, l16, l17, .val (.ref a), .val (.int u), .val (.int (1 : Int32))] [(.int (own_isDec cs))]) _
        refine Endw.st (T' := T4) (g' := (mkF m 269 #[.val (.int i0), .val (.long i1), .second, .val (.long i2), .second, .val (.long i3), .second, .val (.long i4), .second, l9, l10, l11, l12, l13, l14, l15, l16, l17, .val (.ref a), .val (.int u), .val (.int (1 : Int32))] [(.int (1 : Int32))])) (fun tt_ kk_ => XS.iload C4.here C4.hx rfl (C4.dec at_259) rfl (XS.icmpNo C4.here C4.hx rfl (C4.dec at_261) rfl (XT.ii_ne_f (by rw [← hu, own_acc, if_neg c1, if_pos c3] <;> rfl)) (XS.iconst C4.here C4.hx rfl (C4.dec at_264) (XS.goto C4.here C4.hx rfl (pc0 := 265) rfl (C4.dec at_265) (by decide) rfl kk_)))) ?_
        exact C4.retI (t := .boolean) rfl (by simp) rfl at_269 (by decide) (by decide) rfl
      · refine Endw.st (T' := T) (g' := (mkF m 244 #[.val (.int i0), .val (.long i1), .second, .val (.long i2), .second, .val (.long i3), .second, .val (.long i4), .second, l9, l10, l11, l12, l13, l14, l15, l16, l17, .val (.ref a), .val (.int u), .unset] [(.int (7 : Int32)), (.int u)])) (fun tt_ kk_ => XS.icmpNo C.here C.hx rfl (C.dec at_237) rfl (XT.ii_eq_f c3) (XS.iload C.here C.hx rfl (C.dec at_240) rfl (XS.bipush C.here C.hx rfl (C.dec at_242) kk_))) ?_
        by_cases c5 : u = (7 : Int32)
        · refine Endw.st (T' := T) (g' := (mkF m 256 #[.val (.int i0), .val (.long i1), .second, .val (.long i2), .second, .val (.long i3), .second, .val (.long i4), .second, l9, l10, l11, l12, l13, l14, l15, l16, l17, .val (.ref a), .val (.int u), .val (.int (1 : Int32))] [(.ref a)])) (fun tt_ kk_ => XS.icmpNo C.here C.hx rfl (C.dec at_244) rfl (XT.ii_ne_f c5) (XS.iconst C.here C.hx rfl (C.dec at_247) (XS.goto C.here C.hx rfl (pc0 := 248) rfl (C.dec at_248) (by decide) rfl (XS.istore C.here C.hx rfl (C.dec at_252) rfl (l' := #[.val (.int i0), .val (.long i1), .second, .val (.long i2), .second, .val (.long i3), .second, .val (.long i4), .second, l9, l10, l11, l12, l13, l14, l15, l16, l17, .val (.ref a), .val (.int u), .val (.int (1 : Int32))]) rfl (XS.aload C.here C.hx rfl (C.dec at_254) rfl rfl kk_))))) ?_
          refine C.static (y := (⟨"com/example/cohabit/cohabit/Numbers", "isDecimal", "(Ljava/lang/String;)Z"⟩ : MethodName)) (W := 0) (argsL := [(.ref a)]) (rest := []) (W30 hw) (W31 hw) (W33 hw) (W32 hw) (by decide) (rm_isDec l Z a0 EL G a t kb cs hh C.old Y h8) (fun _ => rfl) rfl all0 (by decide) (by decide) (by decide) (by decide) (lenOf pd_14 rfl) rfl (Nat.le_of_ble_eq_true rfl) rfl at_256 (pc' := 259) rfl ?_
          intro vm6 T6 h6 v6 C6 A6 M6 q6
          obtain ⟨rfl, rfl⟩ := q6
          show Endw p e below T6 (mkF m 259 #[.val (.int i0), .val (.long i1), .second, .val (.long i2), .second, .val (.long i3), .second, .val (.long i4), .second, l9, l10, l11, l12, l13, l14, l15, l16, l17, .val (.ref a), .val (.int u), .val (.int (1 : Int32))] [(.int (own_isDec cs))]) _
          refine Endw.st (T' := T6) (g' := (mkF m 269 #[.val (.int i0), .val (.long i1), .second, .val (.long i2), .second, .val (.long i3), .second, .val (.long i4), .second, l9, l10, l11, l12, l13, l14, l15, l16, l17, .val (.ref a), .val (.int u), .val (.int (1 : Int32))] [(.int (1 : Int32))])) (fun tt_ kk_ => XS.iload C6.here C6.hx rfl (C6.dec at_259) rfl (XS.icmpNo C6.here C6.hx rfl (C6.dec at_261) rfl (XT.ii_ne_f (by rw [← hu, own_acc, if_neg c1, if_neg c3, if_pos c5] <;> rfl)) (XS.iconst C6.here C6.hx rfl (C6.dec at_264) (XS.goto C6.here C6.hx rfl (pc0 := 265) rfl (C6.dec at_265) (by decide) rfl kk_)))) ?_
          exact C6.retI (t := .boolean) rfl (by simp) rfl at_269 (by decide) (by decide) rfl
        · refine Endw.st (T' := T) (g' := (mkF m 256 #[.val (.int i0), .val (.long i1), .second, .val (.long i2), .second, .val (.long i3), .second, .val (.long i4), .second, l9, l10, l11, l12, l13, l14, l15, l16, l17, .val (.ref a), .val (.int u), .val (.int (0 : Int32))] [(.ref a)])) (fun tt_ kk_ => XS.icmpYes C.here C.hx rfl (pc0 := 244) rfl (C.dec at_244) rfl (XT.ii_ne_t c5) (by decide) rfl (XS.iconst C.here C.hx rfl (C.dec at_251) (XS.istore C.here C.hx rfl (C.dec at_252) rfl (l' := #[.val (.int i0), .val (.long i1), .second, .val (.long i2), .second, .val (.long i3), .second, .val (.long i4), .second, l9, l10, l11, l12, l13, l14, l15, l16, l17, .val (.ref a), .val (.int u), .val (.int (0 : Int32))]) rfl (XS.aload C.here C.hx rfl (C.dec at_254) rfl rfl kk_)))) ?_
          refine C.static (y := (⟨"com/example/cohabit/cohabit/Numbers", "isDecimal", "(Ljava/lang/String;)Z"⟩ : MethodName)) (W := 0) (argsL := [(.ref a)]) (rest := []) (W30 hw) (W31 hw) (W33 hw) (W32 hw) (by decide) (rm_isDec l Z a0 EL G a t kb cs hh C.old Y h8) (fun _ => rfl) rfl all0 (by decide) (by decide) (by decide) (by decide) (lenOf pd_14 rfl) rfl (Nat.le_of_ble_eq_true rfl) rfl at_256 (pc' := 259) rfl ?_
          intro vm7 T7 h7 v7 C7 A7 M7 q7
          obtain ⟨rfl, rfl⟩ := q7
          show Endw p e below T7 (mkF m 259 #[.val (.int i0), .val (.long i1), .second, .val (.long i2), .second, .val (.long i3), .second, .val (.long i4), .second, l9, l10, l11, l12, l13, l14, l15, l16, l17, .val (.ref a), .val (.int u), .val (.int (0 : Int32))] [(.int (own_isDec cs))]) _
          refine Endw.st (T' := T7) (g' := (mkF m 269 #[.val (.int i0), .val (.long i1), .second, .val (.long i2), .second, .val (.long i3), .second, .val (.long i4), .second, l9, l10, l11, l12, l13, l14, l15, l16, l17, .val (.ref a), .val (.int u), .val (.int (0 : Int32))] [(.int (1 : Int32))])) (fun tt_ kk_ => XS.iload C7.here C7.hx rfl (C7.dec at_259) rfl (XS.icmpNo C7.here C7.hx rfl (C7.dec at_261) rfl (XT.ii_ne_f (by rw [← hu, own_acc, if_neg c1, if_neg c3, if_neg c5] <;> rfl)) (XS.iconst C7.here C7.hx rfl (C7.dec at_264) (XS.goto C7.here C7.hx rfl (pc0 := 265) rfl (C7.dec at_265) (by decide) rfl kk_)))) ?_
          exact C7.retI (t := .boolean) rfl (by simp) rfl at_269 (by decide) (by decide) rfl
  refine Endw.st (T' := T0) (g' := (mkF m 11 #[.val (.int i0), .val (.long i1), .second, .val (.long i2), .second, .val (.long i3), .second, .val (.long i4), .second, .val (.int ((i0 &&& (2147483647 : Int32)) % (9 : Int32))), .unset, .unset, .unset, .unset, .unset, .unset, .unset, .unset, .unset, .unset, .unset] [(.int (i1.toInt32))])) (fun tt_ kk_ => XS.iloadN C0.here C0.hx rfl (C0.dec at_0) rfl (own_ldcI C0 (W0 hw) rfl at_1 (XS.iand C0.here C0.hx rfl (C0.dec at_3) rfl (XS.bipush C0.here C0.hx rfl (C0.dec at_4) (own_irem C0 rfl at_6 rfl (by decide) (XS.istore C0.here C0.hx rfl (C0.dec at_7) rfl (l' := #[.val (.int i0), .val (.long i1), .second, .val (.long i2), .second, .val (.long i3), .second, .val (.long i4), .second, .val (.int ((i0 &&& (2147483647 : Int32)) % (9 : Int32))), .unset, .unset, .unset, .unset, .unset, .unset, .unset, .unset, .unset, .unset, .unset]) rfl (XS.lloadN C0.here C0.hx rfl (C0.dec at_9) rfl (XS.l2i C0.here C0.hx rfl (C0.dec at_10) rfl kk_)))))))) ?_
  refine C0.static (y := (⟨"com/example/cohabit/cohabit/NumbersIsDecimalPinLaw", "ch", "(I)C"⟩ : MethodName)) (W := 0) (argsL := [(.int (i1.toInt32))]) (rest := []) (W1 hw) (W2 hw) (W4 hw) (W3 hw) (by decide) (rm_ch l Z a0 EL G (i1.toInt32) h C0.old) (fun _ => rfl) rfl all0 (by decide) (by decide) (by decide) (by decide) (lenOf pd_28492943 rfl) rfl (Nat.le_of_ble_eq_true rfl) rfl at_11 (pc' := 14) rfl ?_
  intro vm8 T8 h8 v8 C8 A8 M8 q8
  obtain ⟨z8, rfl, pz8, rfl⟩ := q8
  show Endw p e below T8 (mkF m 14 #[.val (.int i0), .val (.long i1), .second, .val (.long i2), .second, .val (.long i3), .second, .val (.long i4), .second, .val (.int ((i0 &&& (2147483647 : Int32)) % (9 : Int32))), .unset, .unset, .unset, .unset, .unset, .unset, .unset, .unset, .unset, .unset, .unset] [(.int z8)]) _
  refine Endw.st (T' := T8) (g' := (mkF m 21 #[.val (.int i0), .val (.long i1), .second, .val (.long i2), .second, .val (.long i3), .second, .val (.long i4), .second, .val (.int ((i0 &&& (2147483647 : Int32)) % (9 : Int32))), .val (.int z8), .unset, .unset, .unset, .unset, .unset, .unset, .unset, .unset, .unset, .unset] [(.int (((i1.toUInt64 >>> ((32 : Int32) &&& 0x3f).toInt64.toUInt64).toInt64).toInt32))])) (fun tt_ kk_ => XS.istore C8.here C8.hx rfl (C8.dec at_14) rfl (l' := #[.val (.int i0), .val (.long i1), .second, .val (.long i2), .second, .val (.long i3), .second, .val (.long i4), .second, .val (.int ((i0 &&& (2147483647 : Int32)) % (9 : Int32))), .val (.int z8), .unset, .unset, .unset, .unset, .unset, .unset, .unset, .unset, .unset, .unset]) rfl (XS.lloadN C8.here C8.hx rfl (C8.dec at_16) rfl (XS.bipush C8.here C8.hx rfl (C8.dec at_17) (XS.lushr C8.here C8.hx rfl (C8.dec at_19) rfl (XS.l2i C8.here C8.hx rfl (C8.dec at_20) rfl kk_))))) ?_
  refine C8.static (y := (⟨"com/example/cohabit/cohabit/NumbersIsDecimalPinLaw", "ch", "(I)C"⟩ : MethodName)) (W := 0) (argsL := [(.int (((i1.toUInt64 >>> ((32 : Int32) &&& 0x3f).toInt64.toUInt64).toInt64).toInt32))]) (rest := []) (W1 hw) (W2 hw) (W4 hw) (W3 hw) (by decide) (rm_ch l Z a0 EL G (((i1.toUInt64 >>> ((32 : Int32) &&& 0x3f).toInt64.toUInt64).toInt64).toInt32) h C8.old) (fun _ => rfl) rfl all0 (by decide) (by decide) (by decide) (by decide) (lenOf pd_28492943 rfl) rfl (Nat.le_of_ble_eq_true rfl) rfl at_21 (pc' := 24) rfl ?_
  intro vm9 T9 h9 v9 C9 A9 M9 q9
  obtain ⟨z9, rfl, pz9, rfl⟩ := q9
  show Endw p e below T9 (mkF m 24 #[.val (.int i0), .val (.long i1), .second, .val (.long i2), .second, .val (.long i3), .second, .val (.long i4), .second, .val (.int ((i0 &&& (2147483647 : Int32)) % (9 : Int32))), .val (.int z8), .unset, .unset, .unset, .unset, .unset, .unset, .unset, .unset, .unset, .unset] [(.int z9)]) _
  refine Endw.st (T' := T9) (g' := (mkF m 28 #[.val (.int i0), .val (.long i1), .second, .val (.long i2), .second, .val (.long i3), .second, .val (.long i4), .second, .val (.int ((i0 &&& (2147483647 : Int32)) % (9 : Int32))), .val (.int z8), .val (.int z9), .unset, .unset, .unset, .unset, .unset, .unset, .unset, .unset, .unset] [(.int (i2.toInt32))])) (fun tt_ kk_ => XS.istore C9.here C9.hx rfl (C9.dec at_24) rfl (l' := #[.val (.int i0), .val (.long i1), .second, .val (.long i2), .second, .val (.long i3), .second, .val (.long i4), .second, .val (.int ((i0 &&& (2147483647 : Int32)) % (9 : Int32))), .val (.int z8), .val (.int z9), .unset, .unset, .unset, .unset, .unset, .unset, .unset, .unset, .unset]) rfl (XS.lloadN C9.here C9.hx rfl (C9.dec at_26) rfl (XS.l2i C9.here C9.hx rfl (C9.dec at_27) rfl kk_))) ?_
  refine C9.static (y := (⟨"com/example/cohabit/cohabit/NumbersIsDecimalPinLaw", "ch", "(I)C"⟩ : MethodName)) (W := 0) (argsL := [(.int (i2.toInt32))]) (rest := []) (W1 hw) (W2 hw) (W4 hw) (W3 hw) (by decide) (rm_ch l Z a0 EL G (i2.toInt32) h C9.old) (fun _ => rfl) rfl all0 (by decide) (by decide) (by decide) (by decide) (lenOf pd_28492943 rfl) rfl (Nat.le_of_ble_eq_true rfl) rfl at_28 (pc' := 31) rfl ?_
  intro vm10 T10 h10 v10 C10 A10 M10 q10
  obtain ⟨z10, rfl, pz10, rfl⟩ := q10
  show Endw p e below T10 (mkF m 31 #[.val (.int i0), .val (.long i1), .second, .val (.long i2), .second, .val (.long i3), .second, .val (.long i4), .second, .val (.int ((i0 &&& (2147483647 : Int32)) % (9 : Int32))), .val (.int z8), .val (.int z9), .unset, .unset, .unset, .unset, .unset, .unset, .unset, .unset, .unset] [(.int z10)]) _
  refine Endw.st (T' := T10) (g' := (mkF m 38 #[.val (.int i0), .val (.long i1), .second, .val (.long i2), .second, .val (.long i3), .second, .val (.long i4), .second, .val (.int ((i0 &&& (2147483647 : Int32)) % (9 : Int32))), .val (.int z8), .val (.int z9), .val (.int z10), .unset, .unset, .unset, .unset, .unset, .unset, .unset, .unset] [(.int (((i2.toUInt64 >>> ((32 : Int32) &&& 0x3f).toInt64.toUInt64).toInt64).toInt32))])) (fun tt_ kk_ => XS.istore C10.here C10.hx rfl (C10.dec at_31) rfl (l' := #[.val (.int i0), .val (.long i1), .second, .val (.long i2), .second, .val (.long i3), .second, .val (.long i4), .second, .val (.int ((i0 &&& (2147483647 : Int32)) % (9 : Int32))), .val (.int z8), .val (.int z9), .val (.int z10), .unset, .unset, .unset, .unset, .unset, .unset, .unset, .unset]) rfl (XS.lloadN C10.here C10.hx rfl (C10.dec at_33) rfl (XS.bipush C10.here C10.hx rfl (C10.dec at_34) (XS.lushr C10.here C10.hx rfl (C10.dec at_36) rfl (XS.l2i C10.here C10.hx rfl (C10.dec at_37) rfl kk_))))) ?_
  refine C10.static (y := (⟨"com/example/cohabit/cohabit/NumbersIsDecimalPinLaw", "ch", "(I)C"⟩ : MethodName)) (W := 0) (argsL := [(.int (((i2.toUInt64 >>> ((32 : Int32) &&& 0x3f).toInt64.toUInt64).toInt64).toInt32))]) (rest := []) (W1 hw) (W2 hw) (W4 hw) (W3 hw) (by decide) (rm_ch l Z a0 EL G (((i2.toUInt64 >>> ((32 : Int32) &&& 0x3f).toInt64.toUInt64).toInt64).toInt32) h C10.old) (fun _ => rfl) rfl all0 (by decide) (by decide) (by decide) (by decide) (lenOf pd_28492943 rfl) rfl (Nat.le_of_ble_eq_true rfl) rfl at_38 (pc' := 41) rfl ?_
  intro vm11 T11 h11 v11 C11 A11 M11 q11
  obtain ⟨z11, rfl, pz11, rfl⟩ := q11
  show Endw p e below T11 (mkF m 41 #[.val (.int i0), .val (.long i1), .second, .val (.long i2), .second, .val (.long i3), .second, .val (.long i4), .second, .val (.int ((i0 &&& (2147483647 : Int32)) % (9 : Int32))), .val (.int z8), .val (.int z9), .val (.int z10), .unset, .unset, .unset, .unset, .unset, .unset, .unset, .unset] [(.int z11)]) _
  refine Endw.st (T' := T11) (g' := (mkF m 46 #[.val (.int i0), .val (.long i1), .second, .val (.long i2), .second, .val (.long i3), .second, .val (.long i4), .second, .val (.int ((i0 &&& (2147483647 : Int32)) % (9 : Int32))), .val (.int z8), .val (.int z9), .val (.int z10), .val (.int z11), .unset, .unset, .unset, .unset, .unset, .unset, .unset] [(.int (i3.toInt32))])) (fun tt_ kk_ => XS.istore C11.here C11.hx rfl (C11.dec at_41) rfl (l' := #[.val (.int i0), .val (.long i1), .second, .val (.long i2), .second, .val (.long i3), .second, .val (.long i4), .second, .val (.int ((i0 &&& (2147483647 : Int32)) % (9 : Int32))), .val (.int z8), .val (.int z9), .val (.int z10), .val (.int z11), .unset, .unset, .unset, .unset, .unset, .unset, .unset]) rfl (XS.lload C11.here C11.hx rfl (C11.dec at_43) rfl (XS.l2i C11.here C11.hx rfl (C11.dec at_45) rfl kk_))) ?_
  refine C11.static (y := (⟨"com/example/cohabit/cohabit/NumbersIsDecimalPinLaw", "ch", "(I)C"⟩ : MethodName)) (W := 0) (argsL := [(.int (i3.toInt32))]) (rest := []) (W1 hw) (W2 hw) (W4 hw) (W3 hw) (by decide) (rm_ch l Z a0 EL G (i3.toInt32) h C11.old) (fun _ => rfl) rfl all0 (by decide) (by decide) (by decide) (by decide) (lenOf pd_28492943 rfl) rfl (Nat.le_of_ble_eq_true rfl) rfl at_46 (pc' := 49) rfl ?_
  intro vm12 T12 h12 v12 C12 A12 M12 q12
  obtain ⟨z12, rfl, pz12, rfl⟩ := q12
  show Endw p e below T12 (mkF m 49 #[.val (.int i0), .val (.long i1), .second, .val (.long i2), .second, .val (.long i3), .second, .val (.long i4), .second, .val (.int ((i0 &&& (2147483647 : Int32)) % (9 : Int32))), .val (.int z8), .val (.int z9), .val (.int z10), .val (.int z11), .unset, .unset, .unset, .unset, .unset, .unset, .unset] [(.int z12)]) _
  refine Endw.st (T' := T12) (g' := (mkF m 57 #[.val (.int i0), .val (.long i1), .second, .val (.long i2), .second, .val (.long i3), .second, .val (.long i4), .second, .val (.int ((i0 &&& (2147483647 : Int32)) % (9 : Int32))), .val (.int z8), .val (.int z9), .val (.int z10), .val (.int z11), .val (.int z12), .unset, .unset, .unset, .unset, .unset, .unset] [(.int (((i3.toUInt64 >>> ((32 : Int32) &&& 0x3f).toInt64.toUInt64).toInt64).toInt32))])) (fun tt_ kk_ => XS.istore C12.here C12.hx rfl (C12.dec at_49) rfl (l' := #[.val (.int i0), .val (.long i1), .second, .val (.long i2), .second, .val (.long i3), .second, .val (.long i4), .second, .val (.int ((i0 &&& (2147483647 : Int32)) % (9 : Int32))), .val (.int z8), .val (.int z9), .val (.int z10), .val (.int z11), .val (.int z12), .unset, .unset, .unset, .unset, .unset, .unset]) rfl (XS.lload C12.here C12.hx rfl (C12.dec at_51) rfl (XS.bipush C12.here C12.hx rfl (C12.dec at_53) (XS.lushr C12.here C12.hx rfl (C12.dec at_55) rfl (XS.l2i C12.here C12.hx rfl (C12.dec at_56) rfl kk_))))) ?_
  refine C12.static (y := (⟨"com/example/cohabit/cohabit/NumbersIsDecimalPinLaw", "ch", "(I)C"⟩ : MethodName)) (W := 0) (argsL := [(.int (((i3.toUInt64 >>> ((32 : Int32) &&& 0x3f).toInt64.toUInt64).toInt64).toInt32))]) (rest := []) (W1 hw) (W2 hw) (W4 hw) (W3 hw) (by decide) (rm_ch l Z a0 EL G (((i3.toUInt64 >>> ((32 : Int32) &&& 0x3f).toInt64.toUInt64).toInt64).toInt32) h C12.old) (fun _ => rfl) rfl all0 (by decide) (by decide) (by decide) (by decide) (lenOf pd_28492943 rfl) rfl (Nat.le_of_ble_eq_true rfl) rfl at_57 (pc' := 60) rfl ?_
  intro vm13 T13 h13 v13 C13 A13 M13 q13
  obtain ⟨z13, rfl, pz13, rfl⟩ := q13
  show Endw p e below T13 (mkF m 60 #[.val (.int i0), .val (.long i1), .second, .val (.long i2), .second, .val (.long i3), .second, .val (.long i4), .second, .val (.int ((i0 &&& (2147483647 : Int32)) % (9 : Int32))), .val (.int z8), .val (.int z9), .val (.int z10), .val (.int z11), .val (.int z12), .unset, .unset, .unset, .unset, .unset, .unset] [(.int z13)]) _
  refine Endw.st (T' := T13) (g' := (mkF m 65 #[.val (.int i0), .val (.long i1), .second, .val (.long i2), .second, .val (.long i3), .second, .val (.long i4), .second, .val (.int ((i0 &&& (2147483647 : Int32)) % (9 : Int32))), .val (.int z8), .val (.int z9), .val (.int z10), .val (.int z11), .val (.int z12), .val (.int z13), .unset, .unset, .unset, .unset, .unset] [(.int (i4.toInt32))])) (fun tt_ kk_ => XS.istore C13.here C13.hx rfl (C13.dec at_60) rfl (l' := #[.val (.int i0), .val (.long i1), .second, .val (.long i2), .second, .val (.long i3), .second, .val (.long i4), .second, .val (.int ((i0 &&& (2147483647 : Int32)) % (9 : Int32))), .val (.int z8), .val (.int z9), .val (.int z10), .val (.int z11), .val (.int z12), .val (.int z13), .unset, .unset, .unset, .unset, .unset]) rfl (XS.lload C13.here C13.hx rfl (C13.dec at_62) rfl (XS.l2i C13.here C13.hx rfl (C13.dec at_64) rfl kk_))) ?_
  refine C13.static (y := (⟨"com/example/cohabit/cohabit/NumbersIsDecimalPinLaw", "ch", "(I)C"⟩ : MethodName)) (W := 0) (argsL := [(.int (i4.toInt32))]) (rest := []) (W1 hw) (W2 hw) (W4 hw) (W3 hw) (by decide) (rm_ch l Z a0 EL G (i4.toInt32) h C13.old) (fun _ => rfl) rfl all0 (by decide) (by decide) (by decide) (by decide) (lenOf pd_28492943 rfl) rfl (Nat.le_of_ble_eq_true rfl) rfl at_65 (pc' := 68) rfl ?_
  intro vm14 T14 h14 v14 C14 A14 M14 q14
  obtain ⟨z14, rfl, pz14, rfl⟩ := q14
  show Endw p e below T14 (mkF m 68 #[.val (.int i0), .val (.long i1), .second, .val (.long i2), .second, .val (.long i3), .second, .val (.long i4), .second, .val (.int ((i0 &&& (2147483647 : Int32)) % (9 : Int32))), .val (.int z8), .val (.int z9), .val (.int z10), .val (.int z11), .val (.int z12), .val (.int z13), .unset, .unset, .unset, .unset, .unset] [(.int z14)]) _
  refine Endw.st (T' := T14) (g' := (mkF m 76 #[.val (.int i0), .val (.long i1), .second, .val (.long i2), .second, .val (.long i3), .second, .val (.long i4), .second, .val (.int ((i0 &&& (2147483647 : Int32)) % (9 : Int32))), .val (.int z8), .val (.int z9), .val (.int z10), .val (.int z11), .val (.int z12), .val (.int z13), .val (.int z14), .unset, .unset, .unset, .unset] [(.int (((i4.toUInt64 >>> ((32 : Int32) &&& 0x3f).toInt64.toUInt64).toInt64).toInt32))])) (fun tt_ kk_ => XS.istore C14.here C14.hx rfl (C14.dec at_68) rfl (l' := #[.val (.int i0), .val (.long i1), .second, .val (.long i2), .second, .val (.long i3), .second, .val (.long i4), .second, .val (.int ((i0 &&& (2147483647 : Int32)) % (9 : Int32))), .val (.int z8), .val (.int z9), .val (.int z10), .val (.int z11), .val (.int z12), .val (.int z13), .val (.int z14), .unset, .unset, .unset, .unset]) rfl (XS.lload C14.here C14.hx rfl (C14.dec at_70) rfl (XS.bipush C14.here C14.hx rfl (C14.dec at_72) (XS.lushr C14.here C14.hx rfl (C14.dec at_74) rfl (XS.l2i C14.here C14.hx rfl (C14.dec at_75) rfl kk_))))) ?_
  refine C14.static (y := (⟨"com/example/cohabit/cohabit/NumbersIsDecimalPinLaw", "ch", "(I)C"⟩ : MethodName)) (W := 0) (argsL := [(.int (((i4.toUInt64 >>> ((32 : Int32) &&& 0x3f).toInt64.toUInt64).toInt64).toInt32))]) (rest := []) (W1 hw) (W2 hw) (W4 hw) (W3 hw) (by decide) (rm_ch l Z a0 EL G (((i4.toUInt64 >>> ((32 : Int32) &&& 0x3f).toInt64.toUInt64).toInt64).toInt32) h C14.old) (fun _ => rfl) rfl all0 (by decide) (by decide) (by decide) (by decide) (lenOf pd_28492943 rfl) rfl (Nat.le_of_ble_eq_true rfl) rfl at_76 (pc' := 79) rfl ?_
  intro vm15 T15 h15 v15 C15 A15 M15 q15
  obtain ⟨z15, rfl, pz15, rfl⟩ := q15
  show Endw p e below T15 (mkF m 79 #[.val (.int i0), .val (.long i1), .second, .val (.long i2), .second, .val (.long i3), .second, .val (.long i4), .second, .val (.int ((i0 &&& (2147483647 : Int32)) % (9 : Int32))), .val (.int z8), .val (.int z9), .val (.int z10), .val (.int z11), .val (.int z12), .val (.int z13), .val (.int z14), .unset, .unset, .unset, .unset] [(.int z15)]) _
  refine Endw.st (T' := T15) (g' := (mkF m 81 #[.val (.int i0), .val (.long i1), .second, .val (.long i2), .second, .val (.long i3), .second, .val (.long i4), .second, .val (.int ((i0 &&& (2147483647 : Int32)) % (9 : Int32))), .val (.int z8), .val (.int z9), .val (.int z10), .val (.int z11), .val (.int z12), .val (.int z13), .val (.int z14), .val (.int z15), .unset, .unset, .unset] [])) (fun tt_ kk_ => XS.istore C15.here C15.hx rfl (C15.dec at_79) rfl (l' := #[.val (.int i0), .val (.long i1), .second, .val (.long i2), .second, .val (.long i3), .second, .val (.long i4), .second, .val (.int ((i0 &&& (2147483647 : Int32)) % (9 : Int32))), .val (.int z8), .val (.int z9), .val (.int z10), .val (.int z11), .val (.int z12), .val (.int z13), .val (.int z14), .val (.int z15), .unset, .unset, .unset]) rfl kk_) ?_
  rcases own_mod9 i0 with e9 | e9 | e9 | e9 | e9 | e9 | e9 | e9 | e9
  · rw [e9]
    show Endw p e below T15 (mkF m 81 #[.val (.int i0), .val (.long i1), .second, .val (.long i2), .second, .val (.long i3), .second, .val (.long i4), .second, .val (.int (0 : Int32)), .val (.int z8), .val (.int z9), .val (.int z10), .val (.int z11), .val (.int z12), .val (.int z13), .val (.int z14), .val (.int z15), .unset, .unset, .unset] []) _
    refine Endw.st (T' := T15) (g' := (mkF m 97 #[.val (.int i0), .val (.long i1), .second, .val (.long i2), .second, .val (.long i3), .second, .val (.long i4), .second, .val (.int (0 : Int32)), .val (.int z8), .val (.int z9), .val (.int z10), .val (.int z11), .val (.int z12), .val (.int z13), .val (.int z14), .val (.int z15), .unset, .unset, .unset] [(.int z14), (.int z13), (.int z12), (.int z11), (.int z10), (.int z9), (.int z8), (.int (0 : Int32))])) (fun tt_ kk_ => XS.iload C15.here C15.hx rfl (C15.dec at_81) rfl (XS.iload C15.here C15.hx rfl (C15.dec at_83) rfl (XS.iload C15.here C15.hx rfl (C15.dec at_85) rfl (XS.iload C15.here C15.hx rfl (C15.dec at_87) rfl (XS.iload C15.here C15.hx rfl (C15.dec at_89) rfl (XS.iload C15.here C15.hx rfl (C15.dec at_91) rfl (XS.iload C15.here C15.hx rfl (C15.dec at_93) rfl (XS.iload C15.here C15.hx rfl (C15.dec at_95) rfl kk_)))))))) ?_
    refine Endw.st (T' := T15) (g' := (mkF m 99 #[.val (.int i0), .val (.long i1), .second, .val (.long i2), .second, .val (.long i3), .second, .val (.long i4), .second, .val (.int (0 : Int32)), .val (.int z8), .val (.int z9), .val (.int z10), .val (.int z11), .val (.int z12), .val (.int z13), .val (.int z14), .val (.int z15), .unset, .unset, .unset] [(.int z15), (.int z14), (.int z13), (.int z12), (.int z11), (.int z10), (.int z9), (.int z8), (.int (0 : Int32))])) (fun tt_ kk_ => XS.iload C15.here C15.hx rfl (C15.dec at_97) rfl kk_) ?_
    refine C15.static (y := (⟨"com/example/cohabit/cohabit/NumbersIsDecimalPinLaw", "make", "(ICCCCCCCC)Ljava/lang/String;"⟩ : MethodName)) (W := 0) (argsL := [(.int (0 : Int32)), (.int z8), (.int z9), (.int z10), (.int z11), (.int z12), (.int z13), (.int z14), (.int z15)]) (rest := []) (W5 hw) (W6 hw) (W7 hw) (W3 hw) (by decide) (rm_make0 l Z a0 EL G z8 z9 z10 z11 z12 z13 z14 z15 h C15.old ) (fun z => nomatch z) rfl all0 (by decide) (by decide) (by decide) (by decide) (lenOf pd_9 rfl) rfl (Nat.le_of_ble_eq_true rfl) rfl at_99 (pc' := 102) rfl ?_
    intro vm16 T16 h16 v16 C16 A16 M16 q16
    obtain ⟨a16, t16, kb16, rfl, K16, ge16, Y16⟩ := q16
    show Endw p e below T16 (mkF m 102 #[.val (.int i0), .val (.long i1), .second, .val (.long i2), .second, .val (.long i3), .second, .val (.long i4), .second, .val (.int (0 : Int32)), .val (.int z8), .val (.int z9), .val (.int z10), .val (.int z11), .val (.int z12), .val (.int z13), .val (.int z14), .val (.int z15), .unset, .unset, .unset] [(.ref a16)]) _
    refine Endw.st (T' := T16) (g' := (mkF m 136 #[.val (.int i0), .val (.long i1), .second, .val (.long i2), .second, .val (.long i3), .second, .val (.long i4), .second, .val (.int (0 : Int32)), .val (.int z8), .val (.int z9), .val (.int z10), .val (.int z11), .val (.int z12), .val (.int z13), .val (.int z14), .val (.int z15), .val (.ref a16), .val (.int (0 : Int32)), .unset] [])) (fun tt_ kk_ => XS.astore C16.here C16.hx rfl (C16.dec at_102) rfl rfl (l' := #[.val (.int i0), .val (.long i1), .second, .val (.long i2), .second, .val (.long i3), .second, .val (.long i4), .second, .val (.int (0 : Int32)), .val (.int z8), .val (.int z9), .val (.int z10), .val (.int z11), .val (.int z12), .val (.int z13), .val (.int z14), .val (.int z15), .val (.ref a16), .unset, .unset]) rfl (XS.iconst C16.here C16.hx rfl (C16.dec at_104) (XS.istore C16.here C16.hx rfl (C16.dec at_105) rfl (l' := #[.val (.int i0), .val (.long i1), .second, .val (.long i2), .second, .val (.long i3), .second, .val (.long i4), .second, .val (.int (0 : Int32)), .val (.int z8), .val (.int z9), .val (.int z10), .val (.int z11), .val (.int z12), .val (.int z13), .val (.int z14), .val (.int z15), .val (.ref a16), .val (.int (0 : Int32)), .unset]) rfl (XS.iload C16.here C16.hx rfl (C16.dec at_107) rfl (XS.ifYes C16.here C16.hx rfl (pc0 := 109) rfl (C16.dec at_109) rfl (XT.i0_le_t (by decide)) (by decide) rfl (XS.iload C16.here C16.hx rfl (C16.dec at_121) rfl (XS.iconst C16.here C16.hx rfl (C16.dec at_123) (XS.icmpYes C16.here C16.hx rfl (pc0 := 124) rfl (C16.dec at_124) rfl (XT.ii_le_t (by decide)) (by decide) rfl kk_)))))))) ?_
    refine Endw.st (T' := T16) (g' := (mkF m 169 #[.val (.int i0), .val (.long i1), .second, .val (.long i2), .second, .val (.long i3), .second, .val (.long i4), .second, .val (.int (0 : Int32)), .val (.int z8), .val (.int z9), .val (.int z10), .val (.int z11), .val (.int z12), .val (.int z13), .val (.int z14), .val (.int z15), .val (.ref a16), .val (.int (0 : Int32)), .unset] [(.int (4 : Int32)), (.int (0 : Int32))])) (fun tt_ kk_ => XS.iload C16.here C16.hx rfl (C16.dec at_136) rfl (XS.iconst C16.here C16.hx rfl (C16.dec at_138) (XS.icmpYes C16.here C16.hx rfl (pc0 := 139) rfl (C16.dec at_139) rfl (XT.ii_le_t (by decide)) (by decide) rfl (XS.iload C16.here C16.hx rfl (C16.dec at_151) rfl (XS.iconst C16.here C16.hx rfl (C16.dec at_153) (XS.icmpYes C16.here C16.hx rfl (pc0 := 154) rfl (C16.dec at_154) rfl (XT.ii_le_t (by decide)) (by decide) rfl (XS.iload C16.here C16.hx rfl (C16.dec at_166) rfl (XS.iconst C16.here C16.hx rfl (C16.dec at_168) kk_)))))))) ?_
    refine Endw.st (T' := T16) (g' := (mkF m 214 #[.val (.int i0), .val (.long i1), .second, .val (.long i2), .second, .val (.long i3), .second, .val (.long i4), .second, .val (.int (0 : Int32)), .val (.int z8), .val (.int z9), .val (.int z10), .val (.int z11), .val (.int z12), .val (.int z13), .val (.int z14), .val (.int z15), .val (.ref a16), .val (.int (0 : Int32)), .unset] [(.int (0 : Int32))])) (fun tt_ kk_ => XS.icmpYes C16.here C16.hx rfl (pc0 := 169) rfl (C16.dec at_169) rfl (XT.ii_le_t (by decide)) (by decide) rfl (XS.iload C16.here C16.hx rfl (C16.dec at_181) rfl (XS.iconst C16.here C16.hx rfl (C16.dec at_183) (XS.icmpYes C16.here C16.hx rfl (pc0 := 184) rfl (C16.dec at_184) rfl (XT.ii_le_t (by decide)) (by decide) rfl (XS.iload C16.here C16.hx rfl (C16.dec at_196) rfl (XS.bipush C16.here C16.hx rfl (C16.dec at_198) (XS.icmpYes C16.here C16.hx rfl (pc0 := 200) rfl (C16.dec at_200) rfl (XT.ii_le_t (by decide)) (by decide) rfl (XS.iload C16.here C16.hx rfl (C16.dec at_212) rfl kk_)))))))) ?_
    refine Endw.st (T' := T16) (g' := (mkF m 228 #[.val (.int i0), .val (.long i1), .second, .val (.long i2), .second, .val (.long i3), .second, .val (.long i4), .second, .val (.int (0 : Int32)), .val (.int z8), .val (.int z9), .val (.int z10), .val (.int z11), .val (.int z12), .val (.int z13), .val (.int z14), .val (.int z15), .val (.ref a16), .val (.int (0 : Int32)), .unset] [])) (fun tt_ kk_ => XS.bipush C16.here C16.hx rfl (C16.dec at_214) (XS.icmpYes C16.here C16.hx rfl (pc0 := 216) rfl (C16.dec at_216) rfl (XT.ii_le_t (by decide)) (by decide) rfl kk_)) ?_
    exact J228 (.val (.int (0 : Int32))) (.val (.int z8)) (.val (.int z9)) (.val (.int z10)) (.val (.int z11)) (.val (.int z12)) (.val (.int z13)) (.val (.int z14)) (.val (.int z15)) a16 t16 kb16 [] (0 : Int32) vm16 T16 h16 Y16 (Nat.le_of_ble_eq_true rfl) (by have q := own_run0 []; simp only [List.foldl_cons, List.foldl_nil] at q; exact q) (Keep.trans (Keep.refl h []) K16 all0) (CHr.trans (CHr.trans (CHr.trans (CHr.trans (CHr.trans (CHr.trans (CHr.trans (CHr.trans A8 A9) A10) A11) A12) A13) A14) A15) A16) (C16.more (k' := 6) (n' := 36) (by decide) (by decide))
  · rw [e9]
    show Endw p e below T15 (mkF m 81 #[.val (.int i0), .val (.long i1), .second, .val (.long i2), .second, .val (.long i3), .second, .val (.long i4), .second, .val (.int (1 : Int32)), .val (.int z8), .val (.int z9), .val (.int z10), .val (.int z11), .val (.int z12), .val (.int z13), .val (.int z14), .val (.int z15), .unset, .unset, .unset] []) _
    refine Endw.st (T' := T15) (g' := (mkF m 97 #[.val (.int i0), .val (.long i1), .second, .val (.long i2), .second, .val (.long i3), .second, .val (.long i4), .second, .val (.int (1 : Int32)), .val (.int z8), .val (.int z9), .val (.int z10), .val (.int z11), .val (.int z12), .val (.int z13), .val (.int z14), .val (.int z15), .unset, .unset, .unset] [(.int z14), (.int z13), (.int z12), (.int z11), (.int z10), (.int z9), (.int z8), (.int (1 : Int32))])) (fun tt_ kk_ => XS.iload C15.here C15.hx rfl (C15.dec at_81) rfl (XS.iload C15.here C15.hx rfl (C15.dec at_83) rfl (XS.iload C15.here C15.hx rfl (C15.dec at_85) rfl (XS.iload C15.here C15.hx rfl (C15.dec at_87) rfl (XS.iload C15.here C15.hx rfl (C15.dec at_89) rfl (XS.iload C15.here C15.hx rfl (C15.dec at_91) rfl (XS.iload C15.here C15.hx rfl (C15.dec at_93) rfl (XS.iload C15.here C15.hx rfl (C15.dec at_95) rfl kk_)))))))) ?_
    refine Endw.st (T' := T15) (g' := (mkF m 99 #[.val (.int i0), .val (.long i1), .second, .val (.long i2), .second, .val (.long i3), .second, .val (.long i4), .second, .val (.int (1 : Int32)), .val (.int z8), .val (.int z9), .val (.int z10), .val (.int z11), .val (.int z12), .val (.int z13), .val (.int z14), .val (.int z15), .unset, .unset, .unset] [(.int z15), (.int z14), (.int z13), (.int z12), (.int z11), (.int z10), (.int z9), (.int z8), (.int (1 : Int32))])) (fun tt_ kk_ => XS.iload C15.here C15.hx rfl (C15.dec at_97) rfl kk_) ?_
    refine C15.static (y := (⟨"com/example/cohabit/cohabit/NumbersIsDecimalPinLaw", "make", "(ICCCCCCCC)Ljava/lang/String;"⟩ : MethodName)) (W := 0) (argsL := [(.int (1 : Int32)), (.int z8), (.int z9), (.int z10), (.int z11), (.int z12), (.int z13), (.int z14), (.int z15)]) (rest := []) (W5 hw) (W6 hw) (W7 hw) (W3 hw) (by decide) (rm_make1 l Z a0 EL G z8 z9 z10 z11 z12 z13 z14 z15 h C15.old pz8) (fun _ => rfl) rfl all0 (by decide) (by decide) (by decide) (by decide) (lenOf pd_9 rfl) rfl (Nat.le_of_ble_eq_true rfl) rfl at_99 (pc' := 102) rfl ?_
    intro vm17 T17 h17 v17 C17 A17 M17 q17
    obtain ⟨a17, t17, kb17, rfl, K17, ge17, Y17⟩ := q17
    show Endw p e below T17 (mkF m 102 #[.val (.int i0), .val (.long i1), .second, .val (.long i2), .second, .val (.long i3), .second, .val (.long i4), .second, .val (.int (1 : Int32)), .val (.int z8), .val (.int z9), .val (.int z10), .val (.int z11), .val (.int z12), .val (.int z13), .val (.int z14), .val (.int z15), .unset, .unset, .unset] [(.ref a17)]) _
    refine Endw.st (T' := T17) (g' := (mkF m 116 #[.val (.int i0), .val (.long i1), .second, .val (.long i2), .second, .val (.long i3), .second, .val (.long i4), .second, .val (.int (1 : Int32)), .val (.int z8), .val (.int z9), .val (.int z10), .val (.int z11), .val (.int z12), .val (.int z13), .val (.int z14), .val (.int z15), .val (.ref a17), .val (.int (0 : Int32)), .unset] [(.int z8), (.int (0 : Int32))])) (fun tt_ kk_ => XS.astore C17.here C17.hx rfl (C17.dec at_102) rfl rfl (l' := #[.val (.int i0), .val (.long i1), .second, .val (.long i2), .second, .val (.long i3), .second, .val (.long i4), .second, .val (.int (1 : Int32)), .val (.int z8), .val (.int z9), .val (.int z10), .val (.int z11), .val (.int z12), .val (.int z13), .val (.int z14), .val (.int z15), .val (.ref a17), .unset, .unset]) rfl (XS.iconst C17.here C17.hx rfl (C17.dec at_104) (XS.istore C17.here C17.hx rfl (C17.dec at_105) rfl (l' := #[.val (.int i0), .val (.long i1), .second, .val (.long i2), .second, .val (.long i3), .second, .val (.long i4), .second, .val (.int (1 : Int32)), .val (.int z8), .val (.int z9), .val (.int z10), .val (.int z11), .val (.int z12), .val (.int z13), .val (.int z14), .val (.int z15), .val (.ref a17), .val (.int (0 : Int32)), .unset]) rfl (XS.iload C17.here C17.hx rfl (C17.dec at_107) rfl (XS.ifNo C17.here C17.hx rfl (C17.dec at_109) rfl (XT.i0_le_f (by decide)) (XS.iload C17.here C17.hx rfl (C17.dec at_112) rfl (XS.iload C17.here C17.hx rfl (C17.dec at_114) rfl kk_))))))) ?_
    refine C17.static (y := (⟨"com/example/cohabit/cohabit/NumbersIsDecimalPinLaw", "step", "(IC)I"⟩ : MethodName)) (W := 0) (argsL := [(.int (0 : Int32)), (.int z8)]) (rest := []) (W77 hw) (W78 hw) (W79 hw) (W3 hw) (by decide) (rm_step l Z a0 EL G (0 : Int32) z8 h17 C17.old) (fun _ => rfl) rfl all0 (by decide) (by decide) (by decide) (by decide) (lenOf pd_2849432949 rfl) rfl (Nat.le_of_ble_eq_true rfl) rfl at_116 (pc' := 119) rfl ?_
    intro vm18 T18 h18 v18 C18 A18 M18 q18
    obtain ⟨rfl, rfl⟩ := q18
    show Endw p e below T18 (mkF m 119 #[.val (.int i0), .val (.long i1), .second, .val (.long i2), .second, .val (.long i3), .second, .val (.long i4), .second, .val (.int (1 : Int32)), .val (.int z8), .val (.int z9), .val (.int z10), .val (.int z11), .val (.int z12), .val (.int z13), .val (.int z14), .val (.int z15), .val (.ref a17), .val (.int (0 : Int32)), .unset] [(.int (own_step (0 : Int32) z8))]) _
    refine Endw.st (T' := T18) (g' := (mkF m 153 #[.val (.int i0), .val (.long i1), .second, .val (.long i2), .second, .val (.long i3), .second, .val (.long i4), .second, .val (.int (1 : Int32)), .val (.int z8), .val (.int z9), .val (.int z10), .val (.int z11), .val (.int z12), .val (.int z13), .val (.int z14), .val (.int z15), .val (.ref a17), .val (.int (own_step (0 : Int32) z8)), .unset] [(.int (1 : Int32))])) (fun tt_ kk_ => XS.istore C18.here C18.hx rfl (C18.dec at_119) rfl (l' := #[.val (.int i0), .val (.long i1), .second, .val (.long i2), .second, .val (.long i3), .second, .val (.long i4), .second, .val (.int (1 : Int32)), .val (.int z8), .val (.int z9), .val (.int z10), .val (.int z11), .val (.int z12), .val (.int z13), .val (.int z14), .val (.int z15), .val (.ref a17), .val (.int (own_step (0 : Int32) z8)), .unset]) rfl (XS.iload C18.here C18.hx rfl (C18.dec at_121) rfl (XS.iconst C18.here C18.hx rfl (C18.dec at_123) (XS.icmpYes C18.here C18.hx rfl (pc0 := 124) rfl (C18.dec at_124) rfl (XT.ii_le_t (by decide)) (by decide) rfl (XS.iload C18.here C18.hx rfl (C18.dec at_136) rfl (XS.iconst C18.here C18.hx rfl (C18.dec at_138) (XS.icmpYes C18.here C18.hx rfl (pc0 := 139) rfl (C18.dec at_139) rfl (XT.ii_le_t (by decide)) (by decide) rfl (XS.iload C18.here C18.hx rfl (C18.dec at_151) rfl kk_)))))))) ?_
    refine Endw.st (T' := T18) (g' := (mkF m 196 #[.val (.int i0), .val (.long i1), .second, .val (.long i2), .second, .val (.long i3), .second, .val (.long i4), .second, .val (.int (1 : Int32)), .val (.int z8), .val (.int z9), .val (.int z10), .val (.int z11), .val (.int z12), .val (.int z13), .val (.int z14), .val (.int z15), .val (.ref a17), .val (.int (own_step (0 : Int32) z8)), .unset] [])) (fun tt_ kk_ => XS.iconst C18.here C18.hx rfl (C18.dec at_153) (XS.icmpYes C18.here C18.hx rfl (pc0 := 154) rfl (C18.dec at_154) rfl (XT.ii_le_t (by decide)) (by decide) rfl (XS.iload C18.here C18.hx rfl (C18.dec at_166) rfl (XS.iconst C18.here C18.hx rfl (C18.dec at_168) (XS.icmpYes C18.here C18.hx rfl (pc0 := 169) rfl (C18.dec at_169) rfl (XT.ii_le_t (by decide)) (by decide) rfl (XS.iload C18.here C18.hx rfl (C18.dec at_181) rfl (XS.iconst C18.here C18.hx rfl (C18.dec at_183) (XS.icmpYes C18.here C18.hx rfl (pc0 := 184) rfl (C18.dec at_184) rfl (XT.ii_le_t (by decide)) (by decide) rfl kk_)))))))) ?_
    refine Endw.st (T' := T18) (g' := (mkF m 228 #[.val (.int i0), .val (.long i1), .second, .val (.long i2), .second, .val (.long i3), .second, .val (.long i4), .second, .val (.int (1 : Int32)), .val (.int z8), .val (.int z9), .val (.int z10), .val (.int z11), .val (.int z12), .val (.int z13), .val (.int z14), .val (.int z15), .val (.ref a17), .val (.int (own_step (0 : Int32) z8)), .unset] [])) (fun tt_ kk_ => XS.iload C18.here C18.hx rfl (C18.dec at_196) rfl (XS.bipush C18.here C18.hx rfl (C18.dec at_198) (XS.icmpYes C18.here C18.hx rfl (pc0 := 200) rfl (C18.dec at_200) rfl (XT.ii_le_t (by decide)) (by decide) rfl (XS.iload C18.here C18.hx rfl (C18.dec at_212) rfl (XS.bipush C18.here C18.hx rfl (C18.dec at_214) (XS.icmpYes C18.here C18.hx rfl (pc0 := 216) rfl (C18.dec at_216) rfl (XT.ii_le_t (by decide)) (by decide) rfl kk_)))))) ?_
    exact J228 (.val (.int (1 : Int32))) (.val (.int z8)) (.val (.int z9)) (.val (.int z10)) (.val (.int z11)) (.val (.int z12)) (.val (.int z13)) (.val (.int z14)) (.val (.int z15)) a17 t17 kb17 [z8] (own_step (0 : Int32) z8) vm18 T18 h17 Y17 (Nat.le_of_ble_eq_true rfl) (by have q := own_run0 [z8]; simp only [List.foldl_cons, List.foldl_nil] at q; exact q) (Keep.trans (Keep.refl h []) K17 all0) (CHr.trans (CHr.trans (CHr.trans (CHr.trans (CHr.trans (CHr.trans (CHr.trans (CHr.trans (CHr.trans A8 A9) A10) A11) A12) A13) A14) A15) A17) A18) (C18.more (k' := 6) (n' := 36) (by decide) (by decide))
  · rw [e9]
    show Endw p e below T15 (mkF m 81 #[.val (.int i0), .val (.long i1), .second, .val (.long i2), .second, .val (.long i3), .second, .val (.long i4), .second, .val (.int (2 : Int32)), .val (.int z8), .val (.int z9), .val (.int z10), .val (.int z11), .val (.int z12), .val (.int z13), .val (.int z14), .val (.int z15), .unset, .unset, .unset] []) _
    refine Endw.st (T' := T15) (g' := (mkF m 97 #[.val (.int i0), .val (.long i1), .second, .val (.long i2), .second, .val (.long i3), .second, .val (.long i4), .second, .val (.int (2 : Int32)), .val (.int z8), .val (.int z9), .val (.int z10), .val (.int z11), .val (.int z12), .val (.int z13), .val (.int z14), .val (.int z15), .unset, .unset, .unset] [(.int z14), (.int z13), (.int z12), (.int z11), (.int z10), (.int z9), (.int z8), (.int (2 : Int32))])) (fun tt_ kk_ => XS.iload C15.here C15.hx rfl (C15.dec at_81) rfl (XS.iload C15.here C15.hx rfl (C15.dec at_83) rfl (XS.iload C15.here C15.hx rfl (C15.dec at_85) rfl (XS.iload C15.here C15.hx rfl (C15.dec at_87) rfl (XS.iload C15.here C15.hx rfl (C15.dec at_89) rfl (XS.iload C15.here C15.hx rfl (C15.dec at_91) rfl (XS.iload C15.here C15.hx rfl (C15.dec at_93) rfl (XS.iload C15.here C15.hx rfl (C15.dec at_95) rfl kk_)))))))) ?_
    refine Endw.st (T' := T15) (g' := (mkF m 99 #[.val (.int i0), .val (.long i1), .second, .val (.long i2), .second, .val (.long i3), .second, .val (.long i4), .second, .val (.int (2 : Int32)), .val (.int z8), .val (.int z9), .val (.int z10), .val (.int z11), .val (.int z12), .val (.int z13), .val (.int z14), .val (.int z15), .unset, .unset, .unset] [(.int z15), (.int z14), (.int z13), (.int z12), (.int z11), (.int z10), (.int z9), (.int z8), (.int (2 : Int32))])) (fun tt_ kk_ => XS.iload C15.here C15.hx rfl (C15.dec at_97) rfl kk_) ?_
    refine C15.static (y := (⟨"com/example/cohabit/cohabit/NumbersIsDecimalPinLaw", "make", "(ICCCCCCCC)Ljava/lang/String;"⟩ : MethodName)) (W := 0) (argsL := [(.int (2 : Int32)), (.int z8), (.int z9), (.int z10), (.int z11), (.int z12), (.int z13), (.int z14), (.int z15)]) (rest := []) (W5 hw) (W6 hw) (W7 hw) (W3 hw) (by decide) (rm_make2 l Z a0 EL G z8 z9 z10 z11 z12 z13 z14 z15 h C15.old pz8 pz9) (fun _ => rfl) rfl all0 (by decide) (by decide) (by decide) (by decide) (lenOf pd_9 rfl) rfl (Nat.le_of_ble_eq_true rfl) rfl at_99 (pc' := 102) rfl ?_
    intro vm19 T19 h19 v19 C19 A19 M19 q19
    obtain ⟨a19, t19, kb19, rfl, K19, ge19, Y19⟩ := q19
    show Endw p e below T19 (mkF m 102 #[.val (.int i0), .val (.long i1), .second, .val (.long i2), .second, .val (.long i3), .second, .val (.long i4), .second, .val (.int (2 : Int32)), .val (.int z8), .val (.int z9), .val (.int z10), .val (.int z11), .val (.int z12), .val (.int z13), .val (.int z14), .val (.int z15), .unset, .unset, .unset] [(.ref a19)]) _
    refine Endw.st (T' := T19) (g' := (mkF m 116 #[.val (.int i0), .val (.long i1), .second, .val (.long i2), .second, .val (.long i3), .second, .val (.long i4), .second, .val (.int (2 : Int32)), .val (.int z8), .val (.int z9), .val (.int z10), .val (.int z11), .val (.int z12), .val (.int z13), .val (.int z14), .val (.int z15), .val (.ref a19), .val (.int (0 : Int32)), .unset] [(.int z8), (.int (0 : Int32))])) (fun tt_ kk_ => XS.astore C19.here C19.hx rfl (C19.dec at_102) rfl rfl (l' := #[.val (.int i0), .val (.long i1), .second, .val (.long i2), .second, .val (.long i3), .second, .val (.long i4), .second, .val (.int (2 : Int32)), .val (.int z8), .val (.int z9), .val (.int z10), .val (.int z11), .val (.int z12), .val (.int z13), .val (.int z14), .val (.int z15), .val (.ref a19), .unset, .unset]) rfl (XS.iconst C19.here C19.hx rfl (C19.dec at_104) (XS.istore C19.here C19.hx rfl (C19.dec at_105) rfl (l' := #[.val (.int i0), .val (.long i1), .second, .val (.long i2), .second, .val (.long i3), .second, .val (.long i4), .second, .val (.int (2 : Int32)), .val (.int z8), .val (.int z9), .val (.int z10), .val (.int z11), .val (.int z12), .val (.int z13), .val (.int z14), .val (.int z15), .val (.ref a19), .val (.int (0 : Int32)), .unset]) rfl (XS.iload C19.here C19.hx rfl (C19.dec at_107) rfl (XS.ifNo C19.here C19.hx rfl (C19.dec at_109) rfl (XT.i0_le_f (by decide)) (XS.iload C19.here C19.hx rfl (C19.dec at_112) rfl (XS.iload C19.here C19.hx rfl (C19.dec at_114) rfl kk_))))))) ?_
    refine C19.static (y := (⟨"com/example/cohabit/cohabit/NumbersIsDecimalPinLaw", "step", "(IC)I"⟩ : MethodName)) (W := 0) (argsL := [(.int (0 : Int32)), (.int z8)]) (rest := []) (W77 hw) (W78 hw) (W79 hw) (W3 hw) (by decide) (rm_step l Z a0 EL G (0 : Int32) z8 h19 C19.old) (fun _ => rfl) rfl all0 (by decide) (by decide) (by decide) (by decide) (lenOf pd_2849432949 rfl) rfl (Nat.le_of_ble_eq_true rfl) rfl at_116 (pc' := 119) rfl ?_
    intro vm20 T20 h20 v20 C20 A20 M20 q20
    obtain ⟨rfl, rfl⟩ := q20
    show Endw p e below T20 (mkF m 119 #[.val (.int i0), .val (.long i1), .second, .val (.long i2), .second, .val (.long i3), .second, .val (.long i4), .second, .val (.int (2 : Int32)), .val (.int z8), .val (.int z9), .val (.int z10), .val (.int z11), .val (.int z12), .val (.int z13), .val (.int z14), .val (.int z15), .val (.ref a19), .val (.int (0 : Int32)), .unset] [(.int (own_step (0 : Int32) z8))]) _
    refine Endw.st (T' := T20) (g' := (mkF m 131 #[.val (.int i0), .val (.long i1), .second, .val (.long i2), .second, .val (.long i3), .second, .val (.long i4), .second, .val (.int (2 : Int32)), .val (.int z8), .val (.int z9), .val (.int z10), .val (.int z11), .val (.int z12), .val (.int z13), .val (.int z14), .val (.int z15), .val (.ref a19), .val (.int (own_step (0 : Int32) z8)), .unset] [(.int z9), (.int (own_step (0 : Int32) z8))])) (fun tt_ kk_ => XS.istore C20.here C20.hx rfl (C20.dec at_119) rfl (l' := #[.val (.int i0), .val (.long i1), .second, .val (.long i2), .second, .val (.long i3), .second, .val (.long i4), .second, .val (.int (2 : Int32)), .val (.int z8), .val (.int z9), .val (.int z10), .val (.int z11), .val (.int z12), .val (.int z13), .val (.int z14), .val (.int z15), .val (.ref a19), .val (.int (own_step (0 : Int32) z8)), .unset]) rfl (XS.iload C20.here C20.hx rfl (C20.dec at_121) rfl (XS.iconst C20.here C20.hx rfl (C20.dec at_123) (XS.icmpNo C20.here C20.hx rfl (C20.dec at_124) rfl (XT.ii_le_f (by decide)) (XS.iload C20.here C20.hx rfl (C20.dec at_127) rfl (XS.iload C20.here C20.hx rfl (C20.dec at_129) rfl kk_)))))) ?_
    refine C20.static (y := (⟨"com/example/cohabit/cohabit/NumbersIsDecimalPinLaw", "step", "(IC)I"⟩ : MethodName)) (W := 0) (argsL := [(.int (own_step (0 : Int32) z8)), (.int z9)]) (rest := []) (W77 hw) (W78 hw) (W79 hw) (W3 hw) (by decide) (rm_step l Z a0 EL G (own_step (0 : Int32) z8) z9 h19 C20.old) (fun _ => rfl) rfl all0 (by decide) (by decide) (by decide) (by decide) (lenOf pd_2849432949 rfl) rfl (Nat.le_of_ble_eq_true rfl) rfl at_131 (pc' := 134) rfl ?_
    intro vm21 T21 h21 v21 C21 A21 M21 q21
    obtain ⟨rfl, rfl⟩ := q21
    show Endw p e below T21 (mkF m 134 #[.val (.int i0), .val (.long i1), .second, .val (.long i2), .second, .val (.long i3), .second, .val (.long i4), .second, .val (.int (2 : Int32)), .val (.int z8), .val (.int z9), .val (.int z10), .val (.int z11), .val (.int z12), .val (.int z13), .val (.int z14), .val (.int z15), .val (.ref a19), .val (.int (own_step (0 : Int32) z8)), .unset] [(.int (own_step (own_step (0 : Int32) z8) z9))]) _
    refine Endw.st (T' := T21) (g' := (mkF m 168 #[.val (.int i0), .val (.long i1), .second, .val (.long i2), .second, .val (.long i3), .second, .val (.long i4), .second, .val (.int (2 : Int32)), .val (.int z8), .val (.int z9), .val (.int z10), .val (.int z11), .val (.int z12), .val (.int z13), .val (.int z14), .val (.int z15), .val (.ref a19), .val (.int (own_step (own_step (0 : Int32) z8) z9)), .unset] [(.int (2 : Int32))])) (fun tt_ kk_ => XS.istore C21.here C21.hx rfl (C21.dec at_134) rfl (l' := #[.val (.int i0), .val (.long i1), .second, .val (.long i2), .second, .val (.long i3), .second, .val (.long i4), .second, .val (.int (2 : Int32)), .val (.int z8), .val (.int z9), .val (.int z10), .val (.int z11), .val (.int z12), .val (.int z13), .val (.int z14), .val (.int z15), .val (.ref a19), .val (.int (own_step (own_step (0 : Int32) z8) z9)), .unset]) rfl (XS.iload C21.here C21.hx rfl (C21.dec at_136) rfl (XS.iconst C21.here C21.hx rfl (C21.dec at_138) (XS.icmpYes C21.here C21.hx rfl (pc0 := 139) rfl (C21.dec at_139) rfl (XT.ii_le_t (by decide)) (by decide) rfl (XS.iload C21.here C21.hx rfl (C21.dec at_151) rfl (XS.iconst C21.here C21.hx rfl (C21.dec at_153) (XS.icmpYes C21.here C21.hx rfl (pc0 := 154) rfl (C21.dec at_154) rfl (XT.ii_le_t (by decide)) (by decide) rfl (XS.iload C21.here C21.hx rfl (C21.dec at_166) rfl kk_)))))))) ?_
    refine Endw.st (T' := T21) (g' := (mkF m 212 #[.val (.int i0), .val (.long i1), .second, .val (.long i2), .second, .val (.long i3), .second, .val (.long i4), .second, .val (.int (2 : Int32)), .val (.int z8), .val (.int z9), .val (.int z10), .val (.int z11), .val (.int z12), .val (.int z13), .val (.int z14), .val (.int z15), .val (.ref a19), .val (.int (own_step (own_step (0 : Int32) z8) z9)), .unset] [])) (fun tt_ kk_ => XS.iconst C21.here C21.hx rfl (C21.dec at_168) (XS.icmpYes C21.here C21.hx rfl (pc0 := 169) rfl (C21.dec at_169) rfl (XT.ii_le_t (by decide)) (by decide) rfl (XS.iload C21.here C21.hx rfl (C21.dec at_181) rfl (XS.iconst C21.here C21.hx rfl (C21.dec at_183) (XS.icmpYes C21.here C21.hx rfl (pc0 := 184) rfl (C21.dec at_184) rfl (XT.ii_le_t (by decide)) (by decide) rfl (XS.iload C21.here C21.hx rfl (C21.dec at_196) rfl (XS.bipush C21.here C21.hx rfl (C21.dec at_198) (XS.icmpYes C21.here C21.hx rfl (pc0 := 200) rfl (C21.dec at_200) rfl (XT.ii_le_t (by decide)) (by decide) rfl kk_)))))))) ?_
    refine Endw.st (T' := T21) (g' := (mkF m 228 #[.val (.int i0), .val (.long i1), .second, .val (.long i2), .second, .val (.long i3), .second, .val (.long i4), .second, .val (.int (2 : Int32)), .val (.int z8), .val (.int z9), .val (.int z10), .val (.int z11), .val (.int z12), .val (.int z13), .val (.int z14), .val (.int z15), .val (.ref a19), .val (.int (own_step (own_step (0 : Int32) z8) z9)), .unset] [])) (fun tt_ kk_ => XS.iload C21.here C21.hx rfl (C21.dec at_212) rfl (XS.bipush C21.here C21.hx rfl (C21.dec at_214) (XS.icmpYes C21.here C21.hx rfl (pc0 := 216) rfl (C21.dec at_216) rfl (XT.ii_le_t (by decide)) (by decide) rfl kk_))) ?_
    exact J228 (.val (.int (2 : Int32))) (.val (.int z8)) (.val (.int z9)) (.val (.int z10)) (.val (.int z11)) (.val (.int z12)) (.val (.int z13)) (.val (.int z14)) (.val (.int z15)) a19 t19 kb19 [z8, z9] (own_step (own_step (0 : Int32) z8) z9) vm21 T21 h19 Y19 (Nat.le_of_ble_eq_true rfl) (by have q := own_run0 [z8, z9]; simp only [List.foldl_cons, List.foldl_nil] at q; exact q) (Keep.trans (Keep.refl h []) K19 all0) (CHr.trans (CHr.trans (CHr.trans (CHr.trans (CHr.trans (CHr.trans (CHr.trans (CHr.trans (CHr.trans (CHr.trans A8 A9) A10) A11) A12) A13) A14) A15) A19) A20) A21) (C21.more (k' := 6) (n' := 36) (by decide) (by decide))
  · rw [e9]
    show Endw p e below T15 (mkF m 81 #[.val (.int i0), .val (.long i1), .second, .val (.long i2), .second, .val (.long i3), .second, .val (.long i4), .second, .val (.int (3 : Int32)), .val (.int z8), .val (.int z9), .val (.int z10), .val (.int z11), .val (.int z12), .val (.int z13), .val (.int z14), .val (.int z15), .unset, .unset, .unset] []) _
    refine Endw.st (T' := T15) (g' := (mkF m 97 #[.val (.int i0), .val (.long i1), .second, .val (.long i2), .second, .val (.long i3), .second, .val (.long i4), .second, .val (.int (3 : Int32)), .val (.int z8), .val (.int z9), .val (.int z10), .val (.int z11), .val (.int z12), .val (.int z13), .val (.int z14), .val (.int z15), .unset, .unset, .unset] [(.int z14), (.int z13), (.int z12), (.int z11), (.int z10), (.int z9), (.int z8), (.int (3 : Int32))])) (fun tt_ kk_ => XS.iload C15.here C15.hx rfl (C15.dec at_81) rfl (XS.iload C15.here C15.hx rfl (C15.dec at_83) rfl (XS.iload C15.here C15.hx rfl (C15.dec at_85) rfl (XS.iload C15.here C15.hx rfl (C15.dec at_87) rfl (XS.iload C15.here C15.hx rfl (C15.dec at_89) rfl (XS.iload C15.here C15.hx rfl (C15.dec at_91) rfl (XS.iload C15.here C15.hx rfl (C15.dec at_93) rfl (XS.iload C15.here C15.hx rfl (C15.dec at_95) rfl kk_)))))))) ?_
    refine Endw.st (T' := T15) (g' := (mkF m 99 #[.val (.int i0), .val (.long i1), .second, .val (.long i2), .second, .val (.long i3), .second, .val (.long i4), .second, .val (.int (3 : Int32)), .val (.int z8), .val (.int z9), .val (.int z10), .val (.int z11), .val (.int z12), .val (.int z13), .val (.int z14), .val (.int z15), .unset, .unset, .unset] [(.int z15), (.int z14), (.int z13), (.int z12), (.int z11), (.int z10), (.int z9), (.int z8), (.int (3 : Int32))])) (fun tt_ kk_ => XS.iload C15.here C15.hx rfl (C15.dec at_97) rfl kk_) ?_
    refine C15.static (y := (⟨"com/example/cohabit/cohabit/NumbersIsDecimalPinLaw", "make", "(ICCCCCCCC)Ljava/lang/String;"⟩ : MethodName)) (W := 0) (argsL := [(.int (3 : Int32)), (.int z8), (.int z9), (.int z10), (.int z11), (.int z12), (.int z13), (.int z14), (.int z15)]) (rest := []) (W5 hw) (W6 hw) (W7 hw) (W3 hw) (by decide) (rm_make3 l Z a0 EL G z8 z9 z10 z11 z12 z13 z14 z15 h C15.old pz8 pz9 pz10) (fun _ => rfl) rfl all0 (by decide) (by decide) (by decide) (by decide) (lenOf pd_9 rfl) rfl (Nat.le_of_ble_eq_true rfl) rfl at_99 (pc' := 102) rfl ?_
    intro vm22 T22 h22 v22 C22 A22 M22 q22
    obtain ⟨a22, t22, kb22, rfl, K22, ge22, Y22⟩ := q22
    show Endw p e below T22 (mkF m 102 #[.val (.int i0), .val (.long i1), .second, .val (.long i2), .second, .val (.long i3), .second, .val (.long i4), .second, .val (.int (3 : Int32)), .val (.int z8), .val (.int z9), .val (.int z10), .val (.int z11), .val (.int z12), .val (.int z13), .val (.int z14), .val (.int z15), .unset, .unset, .unset] [(.ref a22)]) _
    refine Endw.st (T' := T22) (g' := (mkF m 116 #[.val (.int i0), .val (.long i1), .second, .val (.long i2), .second, .val (.long i3), .second, .val (.long i4), .second, .val (.int (3 : Int32)), .val (.int z8), .val (.int z9), .val (.int z10), .val (.int z11), .val (.int z12), .val (.int z13), .val (.int z14), .val (.int z15), .val (.ref a22), .val (.int (0 : Int32)), .unset] [(.int z8), (.int (0 : Int32))])) (fun tt_ kk_ => XS.astore C22.here C22.hx rfl (C22.dec at_102) rfl rfl (l' := #[.val (.int i0), .val (.long i1), .second, .val (.long i2), .second, .val (.long i3), .second, .val (.long i4), .second, .val (.int (3 : Int32)), .val (.int z8), .val (.int z9), .val (.int z10), .val (.int z11), .val (.int z12), .val (.int z13), .val (.int z14), .val (.int z15), .val (.ref a22), .unset, .unset]) rfl (XS.iconst C22.here C22.hx rfl (C22.dec at_104) (XS.istore C22.here C22.hx rfl (C22.dec at_105) rfl (l' := #[.val (.int i0), .val (.long i1), .second, .val (.long i2), .second, .val (.long i3), .second, .val (.long i4), .second, .val (.int (3 : Int32)), .val (.int z8), .val (.int z9), .val (.int z10), .val (.int z11), .val (.int z12), .val (.int z13), .val (.int z14), .val (.int z15), .val (.ref a22), .val (.int (0 : Int32)), .unset]) rfl (XS.iload C22.here C22.hx rfl (C22.dec at_107) rfl (XS.ifNo C22.here C22.hx rfl (C22.dec at_109) rfl (XT.i0_le_f (by decide)) (XS.iload C22.here C22.hx rfl (C22.dec at_112) rfl (XS.iload C22.here C22.hx rfl (C22.dec at_114) rfl kk_))))))) ?_
    refine C22.static (y := (⟨"com/example/cohabit/cohabit/NumbersIsDecimalPinLaw", "step", "(IC)I"⟩ : MethodName)) (W := 0) (argsL := [(.int (0 : Int32)), (.int z8)]) (rest := []) (W77 hw) (W78 hw) (W79 hw) (W3 hw) (by decide) (rm_step l Z a0 EL G (0 : Int32) z8 h22 C22.old) (fun _ => rfl) rfl all0 (by decide) (by decide) (by decide) (by decide) (lenOf pd_2849432949 rfl) rfl (Nat.le_of_ble_eq_true rfl) rfl at_116 (pc' := 119) rfl ?_
    intro vm23 T23 h23 v23 C23 A23 M23 q23
    obtain ⟨rfl, rfl⟩ := q23
    show Endw p e below T23 (mkF m 119 #[.val (.int i0), .val (.long i1), .second, .val (.long i2), .second, .val (.long i3), .second, .val (.long i4), .second, .val (.int (3 : Int32)), .val (.int z8), .val (.int z9), .val (.int z10), .val (.int z11), .val (.int z12), .val (.int z13), .val (.int z14), .val (.int z15), .val (.ref a22), .val (.int (0 : Int32)), .unset] [(.int (own_step (0 : Int32) z8))]) _
    refine Endw.st (T' := T23) (g' := (mkF m 131 #[.val (.int i0), .val (.long i1), .second, .val (.long i2), .second, .val (.long i3), .second, .val (.long i4), .second, .val (.int (3 : Int32)), .val (.int z8), .val (.int z9), .val (.int z10), .val (.int z11), .val (.int z12), .val (.int z13), .val (.int z14), .val (.int z15), .val (.ref a22), .val (.int (own_step (0 : Int32) z8)), .unset] [(.int z9), (.int (own_step (0 : Int32) z8))])) (fun tt_ kk_ => XS.istore C23.here C23.hx rfl (C23.dec at_119) rfl (l' := #[.val (.int i0), .val (.long i1), .second, .val (.long i2), .second, .val (.long i3), .second, .val (.long i4), .second, .val (.int (3 : Int32)), .val (.int z8), .val (.int z9), .val (.int z10), .val (.int z11), .val (.int z12), .val (.int z13), .val (.int z14), .val (.int z15), .val (.ref a22), .val (.int (own_step (0 : Int32) z8)), .unset]) rfl (XS.iload C23.here C23.hx rfl (C23.dec at_121) rfl (XS.iconst C23.here C23.hx rfl (C23.dec at_123) (XS.icmpNo C23.here C23.hx rfl (C23.dec at_124) rfl (XT.ii_le_f (by decide)) (XS.iload C23.here C23.hx rfl (C23.dec at_127) rfl (XS.iload C23.here C23.hx rfl (C23.dec at_129) rfl kk_)))))) ?_
    refine C23.static (y := (⟨"com/example/cohabit/cohabit/NumbersIsDecimalPinLaw", "step", "(IC)I"⟩ : MethodName)) (W := 0) (argsL := [(.int (own_step (0 : Int32) z8)), (.int z9)]) (rest := []) (W77 hw) (W78 hw) (W79 hw) (W3 hw) (by decide) (rm_step l Z a0 EL G (own_step (0 : Int32) z8) z9 h22 C23.old) (fun _ => rfl) rfl all0 (by decide) (by decide) (by decide) (by decide) (lenOf pd_2849432949 rfl) rfl (Nat.le_of_ble_eq_true rfl) rfl at_131 (pc' := 134) rfl ?_
    intro vm24 T24 h24 v24 C24 A24 M24 q24
    obtain ⟨rfl, rfl⟩ := q24
    show Endw p e below T24 (mkF m 134 #[.val (.int i0), .val (.long i1), .second, .val (.long i2), .second, .val (.long i3), .second, .val (.long i4), .second, .val (.int (3 : Int32)), .val (.int z8), .val (.int z9), .val (.int z10), .val (.int z11), .val (.int z12), .val (.int z13), .val (.int z14), .val (.int z15), .val (.ref a22), .val (.int (own_step (0 : Int32) z8)), .unset] [(.int (own_step (own_step (0 : Int32) z8) z9))]) _
    refine Endw.st (T' := T24) (g' := (mkF m 146 #[.val (.int i0), .val (.long i1), .second, .val (.long i2), .second, .val (.long i3), .second, .val (.long i4), .second, .val (.int (3 : Int32)), .val (.int z8), .val (.int z9), .val (.int z10), .val (.int z11), .val (.int z12), .val (.int z13), .val (.int z14), .val (.int z15), .val (.ref a22), .val (.int (own_step (own_step (0 : Int32) z8) z9)), .unset] [(.int z10), (.int (own_step (own_step (0 : Int32) z8) z9))])) (fun tt_ kk_ => XS.istore C24.here C24.hx rfl (C24.dec at_134) rfl (l' := #[.val (.int i0), .val (.long i1), .second, .val (.long i2), .second, .val (.long i3), .second, .val (.long i4), .second, .val (.int (3 : Int32)), .val (.int z8), .val (.int z9), .val (.int z10), .val (.int z11), .val (.int z12), .val (.int z13), .val (.int z14), .val (.int z15), .val (.ref a22), .val (.int (own_step (own_step (0 : Int32) z8) z9)), .unset]) rfl (XS.iload C24.here C24.hx rfl (C24.dec at_136) rfl (XS.iconst C24.here C24.hx rfl (C24.dec at_138) (XS.icmpNo C24.here C24.hx rfl (C24.dec at_139) rfl (XT.ii_le_f (by decide)) (XS.iload C24.here C24.hx rfl (C24.dec at_142) rfl (XS.iload C24.here C24.hx rfl (C24.dec at_144) rfl kk_)))))) ?_
    refine C24.static (y := (⟨"com/example/cohabit/cohabit/NumbersIsDecimalPinLaw", "step", "(IC)I"⟩ : MethodName)) (W := 0) (argsL := [(.int (own_step (own_step (0 : Int32) z8) z9)), (.int z10)]) (rest := []) (W77 hw) (W78 hw) (W79 hw) (W3 hw) (by decide) (rm_step l Z a0 EL G (own_step (own_step (0 : Int32) z8) z9) z10 h22 C24.old) (fun _ => rfl) rfl all0 (by decide) (by decide) (by decide) (by decide) (lenOf pd_2849432949 rfl) rfl (Nat.le_of_ble_eq_true rfl) rfl at_146 (pc' := 149) rfl ?_
    intro vm25 T25 h25 v25 C25 A25 M25 q25
    obtain ⟨rfl, rfl⟩ := q25
    show Endw p e below T25 (mkF m 149 #[.val (.int i0), .val (.long i1), .second, .val (.long i2), .second, .val (.long i3), .second, .val (.long i4), .second, .val (.int (3 : Int32)), .val (.int z8), .val (.int z9), .val (.int z10), .val (.int z11), .val (.int z12), .val (.int z13), .val (.int z14), .val (.int z15), .val (.ref a22), .val (.int (own_step (own_step (0 : Int32) z8) z9)), .unset] [(.int (own_step (own_step (own_step (0 : Int32) z8) z9) z10))]) _
    refine Endw.st (T' := T25) (g' := (mkF m 183 #[.val (.int i0), .val (.long i1), .second, .val (.long i2), .second, .val (.long i3), .second, .val (.long i4), .second, .val (.int (3 : Int32)), .val (.int z8), .val (.int z9), .val (.int z10), .val (.int z11), .val (.int z12), .val (.int z13), .val (.int z14), .val (.int z15), .val (.ref a22), .val (.int (own_step (own_step (own_step (0 : Int32) z8) z9) z10)), .unset] [(.int (3 : Int32))])) (fun tt_ kk_ => XS.istore C25.here C25.hx rfl (C25.dec at_149) rfl (l' := #[.val (.int i0), .val (.long i1), .second, .val (.long i2), .second, .val (.long i3), .second, .val (.long i4), .second, .val (.int (3 : Int32)), .val (.int z8), .val (.int z9), .val (.int z10), .val (.int z11), .val (.int z12), .val (.int z13), .val (.int z14), .val (.int z15), .val (.ref a22), .val (.int (own_step (own_step (own_step (0 : Int32) z8) z9) z10)), .unset]) rfl (XS.iload C25.here C25.hx rfl (C25.dec at_151) rfl (XS.iconst C25.here C25.hx rfl (C25.dec at_153) (XS.icmpYes C25.here C25.hx rfl (pc0 := 154) rfl (C25.dec at_154) rfl (XT.ii_le_t (by decide)) (by decide) rfl (XS.iload C25.here C25.hx rfl (C25.dec at_166) rfl (XS.iconst C25.here C25.hx rfl (C25.dec at_168) (XS.icmpYes C25.here C25.hx rfl (pc0 := 169) rfl (C25.dec at_169) rfl (XT.ii_le_t (by decide)) (by decide) rfl (XS.iload C25.here C25.hx rfl (C25.dec at_181) rfl kk_)))))))) ?_
    refine Endw.st (T' := T25) (g' := (mkF m 228 #[.val (.int i0), .val (.long i1), .second, .val (.long i2), .second, .val (.long i3), .second, .val (.long i4), .second, .val (.int (3 : Int32)), .val (.int z8), .val (.int z9), .val (.int z10), .val (.int z11), .val (.int z12), .val (.int z13), .val (.int z14), .val (.int z15), .val (.ref a22), .val (.int (own_step (own_step (own_step (0 : Int32) z8) z9) z10)), .unset] [])) (fun tt_ kk_ => XS.iconst C25.here C25.hx rfl (C25.dec at_183) (XS.icmpYes C25.here C25.hx rfl (pc0 := 184) rfl (C25.dec at_184) rfl (XT.ii_le_t (by decide)) (by decide) rfl (XS.iload C25.here C25.hx rfl (C25.dec at_196) rfl (XS.bipush C25.here C25.hx rfl (C25.dec at_198) (XS.icmpYes C25.here C25.hx rfl (pc0 := 200) rfl (C25.dec at_200) rfl (XT.ii_le_t (by decide)) (by decide) rfl (XS.iload C25.here C25.hx rfl (C25.dec at_212) rfl (XS.bipush C25.here C25.hx rfl (C25.dec at_214) (XS.icmpYes C25.here C25.hx rfl (pc0 := 216) rfl (C25.dec at_216) rfl (XT.ii_le_t (by decide)) (by decide) rfl kk_)))))))) ?_
    exact J228 (.val (.int (3 : Int32))) (.val (.int z8)) (.val (.int z9)) (.val (.int z10)) (.val (.int z11)) (.val (.int z12)) (.val (.int z13)) (.val (.int z14)) (.val (.int z15)) a22 t22 kb22 [z8, z9, z10] (own_step (own_step (own_step (0 : Int32) z8) z9) z10) vm25 T25 h22 Y22 (Nat.le_of_ble_eq_true rfl) (by have q := own_run0 [z8, z9, z10]; simp only [List.foldl_cons, List.foldl_nil] at q; exact q) (Keep.trans (Keep.refl h []) K22 all0) (CHr.trans (CHr.trans (CHr.trans (CHr.trans (CHr.trans (CHr.trans (CHr.trans (CHr.trans (CHr.trans (CHr.trans (CHr.trans A8 A9) A10) A11) A12) A13) A14) A15) A22) A23) A24) A25) (C25.more (k' := 6) (n' := 36) (by decide) (by decide))
  · rw [e9]
    show Endw p e below T15 (mkF m 81 #[.val (.int i0), .val (.long i1), .second, .val (.long i2), .second, .val (.long i3), .second, .val (.long i4), .second, .val (.int (4 : Int32)), .val (.int z8), .val (.int z9), .val (.int z10), .val (.int z11), .val (.int z12), .val (.int z13), .val (.int z14), .val (.int z15), .unset, .unset, .unset] []) _
    refine Endw.st (T' := T15) (g' := (mkF m 97 #[.val (.int i0), .val (.long i1), .second, .val (.long i2), .second, .val (.long i3), .second, .val (.long i4), .second, .val (.int (4 : Int32)), .val (.int z8), .val (.int z9), .val (.int z10), .val (.int z11), .val (.int z12), .val (.int z13), .val (.int z14), .val (.int z15), .unset, .unset, .unset] [(.int z14), (.int z13), (.int z12), (.int z11), (.int z10), (.int z9), (.int z8), (.int (4 : Int32))])) (fun tt_ kk_ => XS.iload C15.here C15.hx rfl (C15.dec at_81) rfl (XS.iload C15.here C15.hx rfl (C15.dec at_83) rfl (XS.iload C15.here C15.hx rfl (C15.dec at_85) rfl (XS.iload C15.here C15.hx rfl (C15.dec at_87) rfl (XS.iload C15.here C15.hx rfl (C15.dec at_89) rfl (XS.iload C15.here C15.hx rfl (C15.dec at_91) rfl (XS.iload C15.here C15.hx rfl (C15.dec at_93) rfl (XS.iload C15.here C15.hx rfl (C15.dec at_95) rfl kk_)))))))) ?_
    refine Endw.st (T' := T15) (g' := (mkF m 99 #[.val (.int i0), .val (.long i1), .second, .val (.long i2), .second, .val (.long i3), .second, .val (.long i4), .second, .val (.int (4 : Int32)), .val (.int z8), .val (.int z9), .val (.int z10), .val (.int z11), .val (.int z12), .val (.int z13), .val (.int z14), .val (.int z15), .unset, .unset, .unset] [(.int z15), (.int z14), (.int z13), (.int z12), (.int z11), (.int z10), (.int z9), (.int z8), (.int (4 : Int32))])) (fun tt_ kk_ => XS.iload C15.here C15.hx rfl (C15.dec at_97) rfl kk_) ?_
    refine C15.static (y := (⟨"com/example/cohabit/cohabit/NumbersIsDecimalPinLaw", "make", "(ICCCCCCCC)Ljava/lang/String;"⟩ : MethodName)) (W := 0) (argsL := [(.int (4 : Int32)), (.int z8), (.int z9), (.int z10), (.int z11), (.int z12), (.int z13), (.int z14), (.int z15)]) (rest := []) (W5 hw) (W6 hw) (W7 hw) (W3 hw) (by decide) (rm_make4 l Z a0 EL G z8 z9 z10 z11 z12 z13 z14 z15 h C15.old pz8 pz9 pz10 pz11) (fun _ => rfl) rfl all0 (by decide) (by decide) (by decide) (by decide) (lenOf pd_9 rfl) rfl (Nat.le_of_ble_eq_true rfl) rfl at_99 (pc' := 102) rfl ?_
    intro vm26 T26 h26 v26 C26 A26 M26 q26
    obtain ⟨a26, t26, kb26, rfl, K26, ge26, Y26⟩ := q26
    show Endw p e below T26 (mkF m 102 #[.val (.int i0), .val (.long i1), .second, .val (.long i2), .second, .val (.long i3), .second, .val (.long i4), .second, .val (.int (4 : Int32)), .val (.int z8), .val (.int z9), .val (.int z10), .val (.int z11), .val (.int z12), .val (.int z13), .val (.int z14), .val (.int z15), .unset, .unset, .unset] [(.ref a26)]) _
    refine Endw.st (T' := T26) (g' := (mkF m 116 #[.val (.int i0), .val (.long i1), .second, .val (.long i2), .second, .val (.long i3), .second, .val (.long i4), .second, .val (.int (4 : Int32)), .val (.int z8), .val (.int z9), .val (.int z10), .val (.int z11), .val (.int z12), .val (.int z13), .val (.int z14), .val (.int z15), .val (.ref a26), .val (.int (0 : Int32)), .unset] [(.int z8), (.int (0 : Int32))])) (fun tt_ kk_ => XS.astore C26.here C26.hx rfl (C26.dec at_102) rfl rfl (l' := #[.val (.int i0), .val (.long i1), .second, .val (.long i2), .second, .val (.long i3), .second, .val (.long i4), .second, .val (.int (4 : Int32)), .val (.int z8), .val (.int z9), .val (.int z10), .val (.int z11), .val (.int z12), .val (.int z13), .val (.int z14), .val (.int z15), .val (.ref a26), .unset, .unset]) rfl (XS.iconst C26.here C26.hx rfl (C26.dec at_104) (XS.istore C26.here C26.hx rfl (C26.dec at_105) rfl (l' := #[.val (.int i0), .val (.long i1), .second, .val (.long i2), .second, .val (.long i3), .second, .val (.long i4), .second, .val (.int (4 : Int32)), .val (.int z8), .val (.int z9), .val (.int z10), .val (.int z11), .val (.int z12), .val (.int z13), .val (.int z14), .val (.int z15), .val (.ref a26), .val (.int (0 : Int32)), .unset]) rfl (XS.iload C26.here C26.hx rfl (C26.dec at_107) rfl (XS.ifNo C26.here C26.hx rfl (C26.dec at_109) rfl (XT.i0_le_f (by decide)) (XS.iload C26.here C26.hx rfl (C26.dec at_112) rfl (XS.iload C26.here C26.hx rfl (C26.dec at_114) rfl kk_))))))) ?_
    refine C26.static (y := (⟨"com/example/cohabit/cohabit/NumbersIsDecimalPinLaw", "step", "(IC)I"⟩ : MethodName)) (W := 0) (argsL := [(.int (0 : Int32)), (.int z8)]) (rest := []) (W77 hw) (W78 hw) (W79 hw) (W3 hw) (by decide) (rm_step l Z a0 EL G (0 : Int32) z8 h26 C26.old) (fun _ => rfl) rfl all0 (by decide) (by decide) (by decide) (by decide) (lenOf pd_2849432949 rfl) rfl (Nat.le_of_ble_eq_true rfl) rfl at_116 (pc' := 119) rfl ?_
    intro vm27 T27 h27 v27 C27 A27 M27 q27
    obtain ⟨rfl, rfl⟩ := q27
    show Endw p e below T27 (mkF m 119 #[.val (.int i0), .val (.long i1), .second, .val (.long i2), .second, .val (.long i3), .second, .val (.long i4), .second, .val (.int (4 : Int32)), .val (.int z8), .val (.int z9), .val (.int z10), .val (.int z11), .val (.int z12), .val (.int z13), .val (.int z14), .val (.int z15), .val (.ref a26), .val (.int (0 : Int32)), .unset] [(.int (own_step (0 : Int32) z8))]) _
    refine Endw.st (T' := T27) (g' := (mkF m 131 #[.val (.int i0), .val (.long i1), .second, .val (.long i2), .second, .val (.long i3), .second, .val (.long i4), .second, .val (.int (4 : Int32)), .val (.int z8), .val (.int z9), .val (.int z10), .val (.int z11), .val (.int z12), .val (.int z13), .val (.int z14), .val (.int z15), .val (.ref a26), .val (.int (own_step (0 : Int32) z8)), .unset] [(.int z9), (.int (own_step (0 : Int32) z8))])) (fun tt_ kk_ => XS.istore C27.here C27.hx rfl (C27.dec at_119) rfl (l' := #[.val (.int i0), .val (.long i1), .second, .val (.long i2), .second, .val (.long i3), .second, .val (.long i4), .second, .val (.int (4 : Int32)), .val (.int z8), .val (.int z9), .val (.int z10), .val (.int z11), .val (.int z12), .val (.int z13), .val (.int z14), .val (.int z15), .val (.ref a26), .val (.int (own_step (0 : Int32) z8)), .unset]) rfl (XS.iload C27.here C27.hx rfl (C27.dec at_121) rfl (XS.iconst C27.here C27.hx rfl (C27.dec at_123) (XS.icmpNo C27.here C27.hx rfl (C27.dec at_124) rfl (XT.ii_le_f (by decide)) (XS.iload C27.here C27.hx rfl (C27.dec at_127) rfl (XS.iload C27.here C27.hx rfl (C27.dec at_129) rfl kk_)))))) ?_
    refine C27.static (y := (⟨"com/example/cohabit/cohabit/NumbersIsDecimalPinLaw", "step", "(IC)I"⟩ : MethodName)) (W := 0) (argsL := [(.int (own_step (0 : Int32) z8)), (.int z9)]) (rest := []) (W77 hw) (W78 hw) (W79 hw) (W3 hw) (by decide) (rm_step l Z a0 EL G (own_step (0 : Int32) z8) z9 h26 C27.old) (fun _ => rfl) rfl all0 (by decide) (by decide) (by decide) (by decide) (lenOf pd_2849432949 rfl) rfl (Nat.le_of_ble_eq_true rfl) rfl at_131 (pc' := 134) rfl ?_
    intro vm28 T28 h28 v28 C28 A28 M28 q28
    obtain ⟨rfl, rfl⟩ := q28
    show Endw p e below T28 (mkF m 134 #[.val (.int i0), .val (.long i1), .second, .val (.long i2), .second, .val (.long i3), .second, .val (.long i4), .second, .val (.int (4 : Int32)), .val (.int z8), .val (.int z9), .val (.int z10), .val (.int z11), .val (.int z12), .val (.int z13), .val (.int z14), .val (.int z15), .val (.ref a26), .val (.int (own_step (0 : Int32) z8)), .unset] [(.int (own_step (own_step (0 : Int32) z8) z9))]) _
    refine Endw.st (T' := T28) (g' := (mkF m 146 #[.val (.int i0), .val (.long i1), .second, .val (.long i2), .second, .val (.long i3), .second, .val (.long i4), .second, .val (.int (4 : Int32)), .val (.int z8), .val (.int z9), .val (.int z10), .val (.int z11), .val (.int z12), .val (.int z13), .val (.int z14), .val (.int z15), .val (.ref a26), .val (.int (own_step (own_step (0 : Int32) z8) z9)), .unset] [(.int z10), (.int (own_step (own_step (0 : Int32) z8) z9))])) (fun tt_ kk_ => XS.istore C28.here C28.hx rfl (C28.dec at_134) rfl (l' := #[.val (.int i0), .val (.long i1), .second, .val (.long i2), .second, .val (.long i3), .second, .val (.long i4), .second, .val (.int (4 : Int32)), .val (.int z8), .val (.int z9), .val (.int z10), .val (.int z11), .val (.int z12), .val (.int z13), .val (.int z14), .val (.int z15), .val (.ref a26), .val (.int (own_step (own_step (0 : Int32) z8) z9)), .unset]) rfl (XS.iload C28.here C28.hx rfl (C28.dec at_136) rfl (XS.iconst C28.here C28.hx rfl (C28.dec at_138) (XS.icmpNo C28.here C28.hx rfl (C28.dec at_139) rfl (XT.ii_le_f (by decide)) (XS.iload C28.here C28.hx rfl (C28.dec at_142) rfl (XS.iload C28.here C28.hx rfl (C28.dec at_144) rfl kk_)))))) ?_
    refine C28.static (y := (⟨"com/example/cohabit/cohabit/NumbersIsDecimalPinLaw", "step", "(IC)I"⟩ : MethodName)) (W := 0) (argsL := [(.int (own_step (own_step (0 : Int32) z8) z9)), (.int z10)]) (rest := []) (W77 hw) (W78 hw) (W79 hw) (W3 hw) (by decide) (rm_step l Z a0 EL G (own_step (own_step (0 : Int32) z8) z9) z10 h26 C28.old) (fun _ => rfl) rfl all0 (by decide) (by decide) (by decide) (by decide) (lenOf pd_2849432949 rfl) rfl (Nat.le_of_ble_eq_true rfl) rfl at_146 (pc' := 149) rfl ?_
    intro vm29 T29 h29 v29 C29 A29 M29 q29
    obtain ⟨rfl, rfl⟩ := q29
    show Endw p e below T29 (mkF m 149 #[.val (.int i0), .val (.long i1), .second, .val (.long i2), .second, .val (.long i3), .second, .val (.long i4), .second, .val (.int (4 : Int32)), .val (.int z8), .val (.int z9), .val (.int z10), .val (.int z11), .val (.int z12), .val (.int z13), .val (.int z14), .val (.int z15), .val (.ref a26), .val (.int (own_step (own_step (0 : Int32) z8) z9)), .unset] [(.int (own_step (own_step (own_step (0 : Int32) z8) z9) z10))]) _
    refine Endw.st (T' := T29) (g' := (mkF m 161 #[.val (.int i0), .val (.long i1), .second, .val (.long i2), .second, .val (.long i3), .second, .val (.long i4), .second, .val (.int (4 : Int32)), .val (.int z8), .val (.int z9), .val (.int z10), .val (.int z11), .val (.int z12), .val (.int z13), .val (.int z14), .val (.int z15), .val (.ref a26), .val (.int (own_step (own_step (own_step (0 : Int32) z8) z9) z10)), .unset] [(.int z11), (.int (own_step (own_step (own_step (0 : Int32) z8) z9) z10))])) (fun tt_ kk_ => XS.istore C29.here C29.hx rfl (C29.dec at_149) rfl (l' := #[.val (.int i0), .val (.long i1), .second, .val (.long i2), .second, .val (.long i3), .second, .val (.long i4), .second, .val (.int (4 : Int32)), .val (.int z8), .val (.int z9), .val (.int z10), .val (.int z11), .val (.int z12), .val (.int z13), .val (.int z14), .val (.int z15), .val (.ref a26), .val (.int (own_step (own_step (own_step (0 : Int32) z8) z9) z10)), .unset]) rfl (XS.iload C29.here C29.hx rfl (C29.dec at_151) rfl (XS.iconst C29.here C29.hx rfl (C29.dec at_153) (XS.icmpNo C29.here C29.hx rfl (C29.dec at_154) rfl (XT.ii_le_f (by decide)) (XS.iload C29.here C29.hx rfl (C29.dec at_157) rfl (XS.iload C29.here C29.hx rfl (C29.dec at_159) rfl kk_)))))) ?_
    refine C29.static (y := (⟨"com/example/cohabit/cohabit/NumbersIsDecimalPinLaw", "step", "(IC)I"⟩ : MethodName)) (W := 0) (argsL := [(.int (own_step (own_step (own_step (0 : Int32) z8) z9) z10)), (.int z11)]) (rest := []) (W77 hw) (W78 hw) (W79 hw) (W3 hw) (by decide) (rm_step l Z a0 EL G (own_step (own_step (own_step (0 : Int32) z8) z9) z10) z11 h26 C29.old) (fun _ => rfl) rfl all0 (by decide) (by decide) (by decide) (by decide) (lenOf pd_2849432949 rfl) rfl (Nat.le_of_ble_eq_true rfl) rfl at_161 (pc' := 164) rfl ?_
    intro vm30 T30 h30 v30 C30 A30 M30 q30
    obtain ⟨rfl, rfl⟩ := q30
    show Endw p e below T30 (mkF m 164 #[.val (.int i0), .val (.long i1), .second, .val (.long i2), .second, .val (.long i3), .second, .val (.long i4), .second, .val (.int (4 : Int32)), .val (.int z8), .val (.int z9), .val (.int z10), .val (.int z11), .val (.int z12), .val (.int z13), .val (.int z14), .val (.int z15), .val (.ref a26), .val (.int (own_step (own_step (own_step (0 : Int32) z8) z9) z10)), .unset] [(.int (own_step (own_step (own_step (own_step (0 : Int32) z8) z9) z10) z11))]) _
    refine Endw.st (T' := T30) (g' := (mkF m 198 #[.val (.int i0), .val (.long i1), .second, .val (.long i2), .second, .val (.long i3), .second, .val (.long i4), .second, .val (.int (4 : Int32)), .val (.int z8), .val (.int z9), .val (.int z10), .val (.int z11), .val (.int z12), .val (.int z13), .val (.int z14), .val (.int z15), .val (.ref a26), .val (.int (own_step (own_step (own_step (own_step (0 : Int32) z8) z9) z10) z11)), .unset] [(.int (4 : Int32))])) (fun tt_ kk_ => XS.istore C30.here C30.hx rfl (C30.dec at_164) rfl (l' := #[.val (.int i0), .val (.long i1), .second, .val (.long i2), .second, .val (.long i3), .second, .val (.long i4), .second, .val (.int (4 : Int32)), .val (.int z8), .val (.int z9), .val (.int z10), .val (.int z11), .val (.int z12), .val (.int z13), .val (.int z14), .val (.int z15), .val (.ref a26), .val (.int (own_step (own_step (own_step (own_step (0 : Int32) z8) z9) z10) z11)), .unset]) rfl (XS.iload C30.here C30.hx rfl (C30.dec at_166) rfl (XS.iconst C30.here C30.hx rfl (C30.dec at_168) (XS.icmpYes C30.here C30.hx rfl (pc0 := 169) rfl (C30.dec at_169) rfl (XT.ii_le_t (by decide)) (by decide) rfl (XS.iload C30.here C30.hx rfl (C30.dec at_181) rfl (XS.iconst C30.here C30.hx rfl (C30.dec at_183) (XS.icmpYes C30.here C30.hx rfl (pc0 := 184) rfl (C30.dec at_184) rfl (XT.ii_le_t (by decide)) (by decide) rfl (XS.iload C30.here C30.hx rfl (C30.dec at_196) rfl kk_)))))))) ?_
    refine Endw.st (T' := T30) (g' := (mkF m 228 #[.val (.int i0), .val (.long i1), .second, .val (.long i2), .second, .val (.long i3), .second, .val (.long i4), .second, .val (.int (4 : Int32)), .val (.int z8), .val (.int z9), .val (.int z10), .val (.int z11), .val (.int z12), .val (.int z13), .val (.int z14), .val (.int z15), .val (.ref a26), .val (.int (own_step (own_step (own_step (own_step (0 : Int32) z8) z9) z10) z11)), .unset] [])) (fun tt_ kk_ => XS.bipush C30.here C30.hx rfl (C30.dec at_198) (XS.icmpYes C30.here C30.hx rfl (pc0 := 200) rfl (C30.dec at_200) rfl (XT.ii_le_t (by decide)) (by decide) rfl (XS.iload C30.here C30.hx rfl (C30.dec at_212) rfl (XS.bipush C30.here C30.hx rfl (C30.dec at_214) (XS.icmpYes C30.here C30.hx rfl (pc0 := 216) rfl (C30.dec at_216) rfl (XT.ii_le_t (by decide)) (by decide) rfl kk_))))) ?_
    exact J228 (.val (.int (4 : Int32))) (.val (.int z8)) (.val (.int z9)) (.val (.int z10)) (.val (.int z11)) (.val (.int z12)) (.val (.int z13)) (.val (.int z14)) (.val (.int z15)) a26 t26 kb26 [z8, z9, z10, z11] (own_step (own_step (own_step (own_step (0 : Int32) z8) z9) z10) z11) vm30 T30 h26 Y26 (Nat.le_of_ble_eq_true rfl) (by have q := own_run0 [z8, z9, z10, z11]; simp only [List.foldl_cons, List.foldl_nil] at q; exact q) (Keep.trans (Keep.refl h []) K26 all0) (CHr.trans (CHr.trans (CHr.trans (CHr.trans (CHr.trans (CHr.trans (CHr.trans (CHr.trans (CHr.trans (CHr.trans (CHr.trans (CHr.trans A8 A9) A10) A11) A12) A13) A14) A15) A26) A27) A28) A29) A30) (C30.more (k' := 6) (n' := 36) (by decide) (by decide))
  · rw [e9]
    show Endw p e below T15 (mkF m 81 #[.val (.int i0), .val (.long i1), .second, .val (.long i2), .second, .val (.long i3), .second, .val (.long i4), .second, .val (.int (5 : Int32)), .val (.int z8), .val (.int z9), .val (.int z10), .val (.int z11), .val (.int z12), .val (.int z13), .val (.int z14), .val (.int z15), .unset, .unset, .unset] []) _
    refine Endw.st (T' := T15) (g' := (mkF m 97 #[.val (.int i0), .val (.long i1), .second, .val (.long i2), .second, .val (.long i3), .second, .val (.long i4), .second, .val (.int (5 : Int32)), .val (.int z8), .val (.int z9), .val (.int z10), .val (.int z11), .val (.int z12), .val (.int z13), .val (.int z14), .val (.int z15), .unset, .unset, .unset] [(.int z14), (.int z13), (.int z12), (.int z11), (.int z10), (.int z9), (.int z8), (.int (5 : Int32))])) (fun tt_ kk_ => XS.iload C15.here C15.hx rfl (C15.dec at_81) rfl (XS.iload C15.here C15.hx rfl (C15.dec at_83) rfl (XS.iload C15.here C15.hx rfl (C15.dec at_85) rfl (XS.iload C15.here C15.hx rfl (C15.dec at_87) rfl (XS.iload C15.here C15.hx rfl (C15.dec at_89) rfl (XS.iload C15.here C15.hx rfl (C15.dec at_91) rfl (XS.iload C15.here C15.hx rfl (C15.dec at_93) rfl (XS.iload C15.here C15.hx rfl (C15.dec at_95) rfl kk_)))))))) ?_
    refine Endw.st (T' := T15) (g' := (mkF m 99 #[.val (.int i0), .val (.long i1), .second, .val (.long i2), .second, .val (.long i3), .second, .val (.long i4), .second, .val (.int (5 : Int32)), .val (.int z8), .val (.int z9), .val (.int z10), .val (.int z11), .val (.int z12), .val (.int z13), .val (.int z14), .val (.int z15), .unset, .unset, .unset] [(.int z15), (.int z14), (.int z13), (.int z12), (.int z11), (.int z10), (.int z9), (.int z8), (.int (5 : Int32))])) (fun tt_ kk_ => XS.iload C15.here C15.hx rfl (C15.dec at_97) rfl kk_) ?_
    refine C15.static (y := (⟨"com/example/cohabit/cohabit/NumbersIsDecimalPinLaw", "make", "(ICCCCCCCC)Ljava/lang/String;"⟩ : MethodName)) (W := 0) (argsL := [(.int (5 : Int32)), (.int z8), (.int z9), (.int z10), (.int z11), (.int z12), (.int z13), (.int z14), (.int z15)]) (rest := []) (W5 hw) (W6 hw) (W7 hw) (W3 hw) (by decide) (rm_make5 l Z a0 EL G z8 z9 z10 z11 z12 z13 z14 z15 h C15.old pz8 pz9 pz10 pz11 pz12) (fun _ => rfl) rfl all0 (by decide) (by decide) (by decide) (by decide) (lenOf pd_9 rfl) rfl (Nat.le_of_ble_eq_true rfl) rfl at_99 (pc' := 102) rfl ?_
    intro vm31 T31 h31 v31 C31 A31 M31 q31
    obtain ⟨a31, t31, kb31, rfl, K31, ge31, Y31⟩ := q31
    show Endw p e below T31 (mkF m 102 #[.val (.int i0), .val (.long i1), .second, .val (.long i2), .second, .val (.long i3), .second, .val (.long i4), .second, .val (.int (5 : Int32)), .val (.int z8), .val (.int z9), .val (.int z10), .val (.int z11), .val (.int z12), .val (.int z13), .val (.int z14), .val (.int z15), .unset, .unset, .unset] [(.ref a31)]) _
    refine Endw.st (T' := T31) (g' := (mkF m 116 #[.val (.int i0), .val (.long i1), .second, .val (.long i2), .second, .val (.long i3), .second, .val (.long i4), .second, .val (.int (5 : Int32)), .val (.int z8), .val (.int z9), .val (.int z10), .val (.int z11), .val (.int z12), .val (.int z13), .val (.int z14), .val (.int z15), .val (.ref a31), .val (.int (0 : Int32)), .unset] [(.int z8), (.int (0 : Int32))])) (fun tt_ kk_ => XS.astore C31.here C31.hx rfl (C31.dec at_102) rfl rfl (l' := #[.val (.int i0), .val (.long i1), .second, .val (.long i2), .second, .val (.long i3), .second, .val (.long i4), .second, .val (.int (5 : Int32)), .val (.int z8), .val (.int z9), .val (.int z10), .val (.int z11), .val (.int z12), .val (.int z13), .val (.int z14), .val (.int z15), .val (.ref a31), .unset, .unset]) rfl (XS.iconst C31.here C31.hx rfl (C31.dec at_104) (XS.istore C31.here C31.hx rfl (C31.dec at_105) rfl (l' := #[.val (.int i0), .val (.long i1), .second, .val (.long i2), .second, .val (.long i3), .second, .val (.long i4), .second, .val (.int (5 : Int32)), .val (.int z8), .val (.int z9), .val (.int z10), .val (.int z11), .val (.int z12), .val (.int z13), .val (.int z14), .val (.int z15), .val (.ref a31), .val (.int (0 : Int32)), .unset]) rfl (XS.iload C31.here C31.hx rfl (C31.dec at_107) rfl (XS.ifNo C31.here C31.hx rfl (C31.dec at_109) rfl (XT.i0_le_f (by decide)) (XS.iload C31.here C31.hx rfl (C31.dec at_112) rfl (XS.iload C31.here C31.hx rfl (C31.dec at_114) rfl kk_))))))) ?_
    refine C31.static (y := (⟨"com/example/cohabit/cohabit/NumbersIsDecimalPinLaw", "step", "(IC)I"⟩ : MethodName)) (W := 0) (argsL := [(.int (0 : Int32)), (.int z8)]) (rest := []) (W77 hw) (W78 hw) (W79 hw) (W3 hw) (by decide) (rm_step l Z a0 EL G (0 : Int32) z8 h31 C31.old) (fun _ => rfl) rfl all0 (by decide) (by decide) (by decide) (by decide) (lenOf pd_2849432949 rfl) rfl (Nat.le_of_ble_eq_true rfl) rfl at_116 (pc' := 119) rfl ?_
    intro vm32 T32 h32 v32 C32 A32 M32 q32
    obtain ⟨rfl, rfl⟩ := q32
    show Endw p e below T32 (mkF m 119 #[.val (.int i0), .val (.long i1), .second, .val (.long i2), .second, .val (.long i3), .second, .val (.long i4), .second, .val (.int (5 : Int32)), .val (.int z8), .val (.int z9), .val (.int z10), .val (.int z11), .val (.int z12), .val (.int z13), .val (.int z14), .val (.int z15), .val (.ref a31), .val (.int (0 : Int32)), .unset] [(.int (own_step (0 : Int32) z8))]) _
    refine Endw.st (T' := T32) (g' := (mkF m 131 #[.val (.int i0), .val (.long i1), .second, .val (.long i2), .second, .val (.long i3), .second, .val (.long i4), .second, .val (.int (5 : Int32)), .val (.int z8), .val (.int z9), .val (.int z10), .val (.int z11), .val (.int z12), .val (.int z13), .val (.int z14), .val (.int z15), .val (.ref a31), .val (.int (own_step (0 : Int32) z8)), .unset] [(.int z9), (.int (own_step (0 : Int32) z8))])) (fun tt_ kk_ => XS.istore C32.here C32.hx rfl (C32.dec at_119) rfl (l' := #[.val (.int i0), .val (.long i1), .second, .val (.long i2), .second, .val (.long i3), .second, .val (.long i4), .second, .val (.int (5 : Int32)), .val (.int z8), .val (.int z9), .val (.int z10), .val (.int z11), .val (.int z12), .val (.int z13), .val (.int z14), .val (.int z15), .val (.ref a31), .val (.int (own_step (0 : Int32) z8)), .unset]) rfl (XS.iload C32.here C32.hx rfl (C32.dec at_121) rfl (XS.iconst C32.here C32.hx rfl (C32.dec at_123) (XS.icmpNo C32.here C32.hx rfl (C32.dec at_124) rfl (XT.ii_le_f (by decide)) (XS.iload C32.here C32.hx rfl (C32.dec at_127) rfl (XS.iload C32.here C32.hx rfl (C32.dec at_129) rfl kk_)))))) ?_
    refine C32.static (y := (⟨"com/example/cohabit/cohabit/NumbersIsDecimalPinLaw", "step", "(IC)I"⟩ : MethodName)) (W := 0) (argsL := [(.int (own_step (0 : Int32) z8)), (.int z9)]) (rest := []) (W77 hw) (W78 hw) (W79 hw) (W3 hw) (by decide) (rm_step l Z a0 EL G (own_step (0 : Int32) z8) z9 h31 C32.old) (fun _ => rfl) rfl all0 (by decide) (by decide) (by decide) (by decide) (lenOf pd_2849432949 rfl) rfl (Nat.le_of_ble_eq_true rfl) rfl at_131 (pc' := 134) rfl ?_
    intro vm33 T33 h33 v33 C33 A33 M33 q33
    obtain ⟨rfl, rfl⟩ := q33
    show Endw p e below T33 (mkF m 134 #[.val (.int i0), .val (.long i1), .second, .val (.long i2), .second, .val (.long i3), .second, .val (.long i4), .second, .val (.int (5 : Int32)), .val (.int z8), .val (.int z9), .val (.int z10), .val (.int z11), .val (.int z12), .val (.int z13), .val (.int z14), .val (.int z15), .val (.ref a31), .val (.int (own_step (0 : Int32) z8)), .unset] [(.int (own_step (own_step (0 : Int32) z8) z9))]) _
    refine Endw.st (T' := T33) (g' := (mkF m 146 #[.val (.int i0), .val (.long i1), .second, .val (.long i2), .second, .val (.long i3), .second, .val (.long i4), .second, .val (.int (5 : Int32)), .val (.int z8), .val (.int z9), .val (.int z10), .val (.int z11), .val (.int z12), .val (.int z13), .val (.int z14), .val (.int z15), .val (.ref a31), .val (.int (own_step (own_step (0 : Int32) z8) z9)), .unset] [(.int z10), (.int (own_step (own_step (0 : Int32) z8) z9))])) (fun tt_ kk_ => XS.istore C33.here C33.hx rfl (C33.dec at_134) rfl (l' := #[.val (.int i0), .val (.long i1), .second, .val (.long i2), .second, .val (.long i3), .second, .val (.long i4), .second, .val (.int (5 : Int32)), .val (.int z8), .val (.int z9), .val (.int z10), .val (.int z11), .val (.int z12), .val (.int z13), .val (.int z14), .val (.int z15), .val (.ref a31), .val (.int (own_step (own_step (0 : Int32) z8) z9)), .unset]) rfl (XS.iload C33.here C33.hx rfl (C33.dec at_136) rfl (XS.iconst C33.here C33.hx rfl (C33.dec at_138) (XS.icmpNo C33.here C33.hx rfl (C33.dec at_139) rfl (XT.ii_le_f (by decide)) (XS.iload C33.here C33.hx rfl (C33.dec at_142) rfl (XS.iload C33.here C33.hx rfl (C33.dec at_144) rfl kk_)))))) ?_
    refine C33.static (y := (⟨"com/example/cohabit/cohabit/NumbersIsDecimalPinLaw", "step", "(IC)I"⟩ : MethodName)) (W := 0) (argsL := [(.int (own_step (own_step (0 : Int32) z8) z9)), (.int z10)]) (rest := []) (W77 hw) (W78 hw) (W79 hw) (W3 hw) (by decide) (rm_step l Z a0 EL G (own_step (own_step (0 : Int32) z8) z9) z10 h31 C33.old) (fun _ => rfl) rfl all0 (by decide) (by decide) (by decide) (by decide) (lenOf pd_2849432949 rfl) rfl (Nat.le_of_ble_eq_true rfl) rfl at_146 (pc' := 149) rfl ?_
    intro vm34 T34 h34 v34 C34 A34 M34 q34
    obtain ⟨rfl, rfl⟩ := q34
    show Endw p e below T34 (mkF m 149 #[.val (.int i0), .val (.long i1), .second, .val (.long i2), .second, .val (.long i3), .second, .val (.long i4), .second, .val (.int (5 : Int32)), .val (.int z8), .val (.int z9), .val (.int z10), .val (.int z11), .val (.int z12), .val (.int z13), .val (.int z14), .val (.int z15), .val (.ref a31), .val (.int (own_step (own_step (0 : Int32) z8) z9)), .unset] [(.int (own_step (own_step (own_step (0 : Int32) z8) z9) z10))]) _
    refine Endw.st (T' := T34) (g' := (mkF m 161 #[.val (.int i0), .val (.long i1), .second, .val (.long i2), .second, .val (.long i3), .second, .val (.long i4), .second, .val (.int (5 : Int32)), .val (.int z8), .val (.int z9), .val (.int z10), .val (.int z11), .val (.int z12), .val (.int z13), .val (.int z14), .val (.int z15), .val (.ref a31), .val (.int (own_step (own_step (own_step (0 : Int32) z8) z9) z10)), .unset] [(.int z11), (.int (own_step (own_step (own_step (0 : Int32) z8) z9) z10))])) (fun tt_ kk_ => XS.istore C34.here C34.hx rfl (C34.dec at_149) rfl (l' := #[.val (.int i0), .val (.long i1), .second, .val (.long i2), .second, .val (.long i3), .second, .val (.long i4), .second, .val (.int (5 : Int32)), .val (.int z8), .val (.int z9), .val (.int z10), .val (.int z11), .val (.int z12), .val (.int z13), .val (.int z14), .val (.int z15), .val (.ref a31), .val (.int (own_step (own_step (own_step (0 : Int32) z8) z9) z10)), .unset]) rfl (XS.iload C34.here C34.hx rfl (C34.dec at_151) rfl (XS.iconst C34.here C34.hx rfl (C34.dec at_153) (XS.icmpNo C34.here C34.hx rfl (C34.dec at_154) rfl (XT.ii_le_f (by decide)) (XS.iload C34.here C34.hx rfl (C34.dec at_157) rfl (XS.iload C34.here C34.hx rfl (C34.dec at_159) rfl kk_)))))) ?_
    refine C34.static (y := (⟨"com/example/cohabit/cohabit/NumbersIsDecimalPinLaw", "step", "(IC)I"⟩ : MethodName)) (W := 0) (argsL := [(.int (own_step (own_step (own_step (0 : Int32) z8) z9) z10)), (.int z11)]) (rest := []) (W77 hw) (W78 hw) (W79 hw) (W3 hw) (by decide) (rm_step l Z a0 EL G (own_step (own_step (own_step (0 : Int32) z8) z9) z10) z11 h31 C34.old) (fun _ => rfl) rfl all0 (by decide) (by decide) (by decide) (by decide) (lenOf pd_2849432949 rfl) rfl (Nat.le_of_ble_eq_true rfl) rfl at_161 (pc' := 164) rfl ?_
    intro vm35 T35 h35 v35 C35 A35 M35 q35
    obtain ⟨rfl, rfl⟩ := q35
    show Endw p e below T35 (mkF m 164 #[.val (.int i0), .val (.long i1), .second, .val (.long i2), .second, .val (.long i3), .second, .val (.long i4), .second, .val (.int (5 : Int32)), .val (.int z8), .val (.int z9), .val (.int z10), .val (.int z11), .val (.int z12), .val (.int z13), .val (.int z14), .val (.int z15), .val (.ref a31), .val (.int (own_step (own_step (own_step (0 : Int32) z8) z9) z10)), .unset] [(.int (own_step (own_step (own_step (own_step (0 : Int32) z8) z9) z10) z11))]) _
    refine Endw.st (T' := T35) (g' := (mkF m 176 #[.val (.int i0), .val (.long i1), .second, .val (.long i2), .second, .val (.long i3), .second, .val (.long i4), .second, .val (.int (5 : Int32)), .val (.int z8), .val (.int z9), .val (.int z10), .val (.int z11), .val (.int z12), .val (.int z13), .val (.int z14), .val (.int z15), .val (.ref a31), .val (.int (own_step (own_step (own_step (own_step (0 : Int32) z8) z9) z10) z11)), .unset] [(.int z12), (.int (own_step (own_step (own_step (own_step (0 : Int32) z8) z9) z10) z11))])) (fun tt_ kk_ => XS.istore C35.here C35.hx rfl (C35.dec at_164) rfl (l' := #[.val (.int i0), .val (.long i1), .second, .val (.long i2), .second, .val (.long i3), .second, .val (.long i4), .second, .val (.int (5 : Int32)), .val (.int z8), .val (.int z9), .val (.int z10), .val (.int z11), .val (.int z12), .val (.int z13), .val (.int z14), .val (.int z15), .val (.ref a31), .val (.int (own_step (own_step (own_step (own_step (0 : Int32) z8) z9) z10) z11)), .unset]) rfl (XS.iload C35.here C35.hx rfl (C35.dec at_166) rfl (XS.iconst C35.here C35.hx rfl (C35.dec at_168) (XS.icmpNo C35.here C35.hx rfl (C35.dec at_169) rfl (XT.ii_le_f (by decide)) (XS.iload C35.here C35.hx rfl (C35.dec at_172) rfl (XS.iload C35.here C35.hx rfl (C35.dec at_174) rfl kk_)))))) ?_
    refine C35.static (y := (⟨"com/example/cohabit/cohabit/NumbersIsDecimalPinLaw", "step", "(IC)I"⟩ : MethodName)) (W := 0) (argsL := [(.int (own_step (own_step (own_step (own_step (0 : Int32) z8) z9) z10) z11)), (.int z12)]) (rest := []) (W77 hw) (W78 hw) (W79 hw) (W3 hw) (by decide) (rm_step l Z a0 EL G (own_step (own_step (own_step (own_step (0 : Int32) z8) z9) z10) z11) z12 h31 C35.old) (fun _ => rfl) rfl all0 (by decide) (by decide) (by decide) (by decide) (lenOf pd_2849432949 rfl) rfl (Nat.le_of_ble_eq_true rfl) rfl at_176 (pc' := 179) rfl ?_
    intro vm36 T36 h36 v36 C36 A36 M36 q36
    obtain ⟨rfl, rfl⟩ := q36
    show Endw p e below T36 (mkF m 179 #[.val (.int i0), .val (.long i1), .second, .val (.long i2), .second, .val (.long i3), .second, .val (.long i4), .second, .val (.int (5 : Int32)), .val (.int z8), .val (.int z9), .val (.int z10), .val (.int z11), .val (.int z12), .val (.int z13), .val (.int z14), .val (.int z15), .val (.ref a31), .val (.int (own_step (own_step (own_step (own_step (0 : Int32) z8) z9) z10) z11)), .unset] [(.int (own_step (own_step (own_step (own_step (own_step (0 : Int32) z8) z9) z10) z11) z12))]) _
    refine Endw.st (T' := T36) (g' := (mkF m 214 #[.val (.int i0), .val (.long i1), .second, .val (.long i2), .second, .val (.long i3), .second, .val (.long i4), .second, .val (.int (5 : Int32)), .val (.int z8), .val (.int z9), .val (.int z10), .val (.int z11), .val (.int z12), .val (.int z13), .val (.int z14), .val (.int z15), .val (.ref a31), .val (.int (own_step (own_step (own_step (own_step (own_step (0 : Int32) z8) z9) z10) z11) z12)), .unset] [(.int (5 : Int32))])) (fun tt_ kk_ => XS.istore C36.here C36.hx rfl (C36.dec at_179) rfl (l' := #[.val (.int i0), .val (.long i1), .second, .val (.long i2), .second, .val (.long i3), .second, .val (.long i4), .second, .val (.int (5 : Int32)), .val (.int z8), .val (.int z9), .val (.int z10), .val (.int z11), .val (.int z12), .val (.int z13), .val (.int z14), .val (.int z15), .val (.ref a31), .val (.int (own_step (own_step (own_step (own_step (own_step (0 : Int32) z8) z9) z10) z11) z12)), .unset]) rfl (XS.iload C36.here C36.hx rfl (C36.dec at_181) rfl (XS.iconst C36.here C36.hx rfl (C36.dec at_183) (XS.icmpYes C36.here C36.hx rfl (pc0 := 184) rfl (C36.dec at_184) rfl (XT.ii_le_t (by decide)) (by decide) rfl (XS.iload C36.here C36.hx rfl (C36.dec at_196) rfl (XS.bipush C36.here C36.hx rfl (C36.dec at_198) (XS.icmpYes C36.here C36.hx rfl (pc0 := 200) rfl (C36.dec at_200) rfl (XT.ii_le_t (by decide)) (by decide) rfl (XS.iload C36.here C36.hx rfl (C36.dec at_212) rfl kk_)))))))) ?_
    refine Endw.st (T' := T36) (g' := (mkF m 228 #[.val (.int i0), .val (.long i1), .second, .val (.long i2), .second, .val (.long i3), .second, .val (.long i4), .second, .val (.int (5 : Int32)), .val (.int z8), .val (.int z9), .val (.int z10), .val (.int z11), .val (.int z12), .val (.int z13), .val (.int z14), .val (.int z15), .val (.ref a31), .val (.int (own_step (own_step (own_step (own_step (own_step (0 : Int32) z8) z9) z10) z11) z12)), .unset] [])) (fun tt_ kk_ => XS.bipush C36.here C36.hx rfl (C36.dec at_214) (XS.icmpYes C36.here C36.hx rfl (pc0 := 216) rfl (C36.dec at_216) rfl (XT.ii_le_t (by decide)) (by decide) rfl kk_)) ?_
    exact J228 (.val (.int (5 : Int32))) (.val (.int z8)) (.val (.int z9)) (.val (.int z10)) (.val (.int z11)) (.val (.int z12)) (.val (.int z13)) (.val (.int z14)) (.val (.int z15)) a31 t31 kb31 [z8, z9, z10, z11, z12] (own_step (own_step (own_step (own_step (own_step (0 : Int32) z8) z9) z10) z11) z12) vm36 T36 h31 Y31 (Nat.le_of_ble_eq_true rfl) (by have q := own_run0 [z8, z9, z10, z11, z12]; simp only [List.foldl_cons, List.foldl_nil] at q; exact q) (Keep.trans (Keep.refl h []) K31 all0) (CHr.trans (CHr.trans (CHr.trans (CHr.trans (CHr.trans (CHr.trans (CHr.trans (CHr.trans (CHr.trans (CHr.trans (CHr.trans (CHr.trans (CHr.trans A8 A9) A10) A11) A12) A13) A14) A15) A31) A32) A33) A34) A35) A36) (C36.more (k' := 6) (n' := 36) (by decide) (by decide))
  · rw [e9]
    show Endw p e below T15 (mkF m 81 #[.val (.int i0), .val (.long i1), .second, .val (.long i2), .second, .val (.long i3), .second, .val (.long i4), .second, .val (.int (6 : Int32)), .val (.int z8), .val (.int z9), .val (.int z10), .val (.int z11), .val (.int z12), .val (.int z13), .val (.int z14), .val (.int z15), .unset, .unset, .unset] []) _
    refine Endw.st (T' := T15) (g' := (mkF m 97 #[.val (.int i0), .val (.long i1), .second, .val (.long i2), .second, .val (.long i3), .second, .val (.long i4), .second, .val (.int (6 : Int32)), .val (.int z8), .val (.int z9), .val (.int z10), .val (.int z11), .val (.int z12), .val (.int z13), .val (.int z14), .val (.int z15), .unset, .unset, .unset] [(.int z14), (.int z13), (.int z12), (.int z11), (.int z10), (.int z9), (.int z8), (.int (6 : Int32))])) (fun tt_ kk_ => XS.iload C15.here C15.hx rfl (C15.dec at_81) rfl (XS.iload C15.here C15.hx rfl (C15.dec at_83) rfl (XS.iload C15.here C15.hx rfl (C15.dec at_85) rfl (XS.iload C15.here C15.hx rfl (C15.dec at_87) rfl (XS.iload C15.here C15.hx rfl (C15.dec at_89) rfl (XS.iload C15.here C15.hx rfl (C15.dec at_91) rfl (XS.iload C15.here C15.hx rfl (C15.dec at_93) rfl (XS.iload C15.here C15.hx rfl (C15.dec at_95) rfl kk_)))))))) ?_
    refine Endw.st (T' := T15) (g' := (mkF m 99 #[.val (.int i0), .val (.long i1), .second, .val (.long i2), .second, .val (.long i3), .second, .val (.long i4), .second, .val (.int (6 : Int32)), .val (.int z8), .val (.int z9), .val (.int z10), .val (.int z11), .val (.int z12), .val (.int z13), .val (.int z14), .val (.int z15), .unset, .unset, .unset] [(.int z15), (.int z14), (.int z13), (.int z12), (.int z11), (.int z10), (.int z9), (.int z8), (.int (6 : Int32))])) (fun tt_ kk_ => XS.iload C15.here C15.hx rfl (C15.dec at_97) rfl kk_) ?_
    refine C15.static (y := (⟨"com/example/cohabit/cohabit/NumbersIsDecimalPinLaw", "make", "(ICCCCCCCC)Ljava/lang/String;"⟩ : MethodName)) (W := 0) (argsL := [(.int (6 : Int32)), (.int z8), (.int z9), (.int z10), (.int z11), (.int z12), (.int z13), (.int z14), (.int z15)]) (rest := []) (W5 hw) (W6 hw) (W7 hw) (W3 hw) (by decide) (rm_make6 l Z a0 EL G z8 z9 z10 z11 z12 z13 z14 z15 h C15.old pz8 pz9 pz10 pz11 pz12 pz13) (fun _ => rfl) rfl all0 (by decide) (by decide) (by decide) (by decide) (lenOf pd_9 rfl) rfl (Nat.le_of_ble_eq_true rfl) rfl at_99 (pc' := 102) rfl ?_
    intro vm37 T37 h37 v37 C37 A37 M37 q37
    obtain ⟨a37, t37, kb37, rfl, K37, ge37, Y37⟩ := q37
    show Endw p e below T37 (mkF m 102 #[.val (.int i0), .val (.long i1), .second, .val (.long i2), .second, .val (.long i3), .second, .val (.long i4), .second, .val (.int (6 : Int32)), .val (.int z8), .val (.int z9), .val (.int z10), .val (.int z11), .val (.int z12), .val (.int z13), .val (.int z14), .val (.int z15), .unset, .unset, .unset] [(.ref a37)]) _
    refine Endw.st (T' := T37) (g' := (mkF m 116 #[.val (.int i0), .val (.long i1), .second, .val (.long i2), .second, .val (.long i3), .second, .val (.long i4), .second, .val (.int (6 : Int32)), .val (.int z8), .val (.int z9), .val (.int z10), .val (.int z11), .val (.int z12), .val (.int z13), .val (.int z14), .val (.int z15), .val (.ref a37), .val (.int (0 : Int32)), .unset] [(.int z8), (.int (0 : Int32))])) (fun tt_ kk_ => XS.astore C37.here C37.hx rfl (C37.dec at_102) rfl rfl (l' := #[.val (.int i0), .val (.long i1), .second, .val (.long i2), .second, .val (.long i3), .second, .val (.long i4), .second, .val (.int (6 : Int32)), .val (.int z8), .val (.int z9), .val (.int z10), .val (.int z11), .val (.int z12), .val (.int z13), .val (.int z14), .val (.int z15), .val (.ref a37), .unset, .unset]) rfl (XS.iconst C37.here C37.hx rfl (C37.dec at_104) (XS.istore C37.here C37.hx rfl (C37.dec at_105) rfl (l' := #[.val (.int i0), .val (.long i1), .second, .val (.long i2), .second, .val (.long i3), .second, .val (.long i4), .second, .val (.int (6 : Int32)), .val (.int z8), .val (.int z9), .val (.int z10), .val (.int z11), .val (.int z12), .val (.int z13), .val (.int z14), .val (.int z15), .val (.ref a37), .val (.int (0 : Int32)), .unset]) rfl (XS.iload C37.here C37.hx rfl (C37.dec at_107) rfl (XS.ifNo C37.here C37.hx rfl (C37.dec at_109) rfl (XT.i0_le_f (by decide)) (XS.iload C37.here C37.hx rfl (C37.dec at_112) rfl (XS.iload C37.here C37.hx rfl (C37.dec at_114) rfl kk_))))))) ?_
    refine C37.static (y := (⟨"com/example/cohabit/cohabit/NumbersIsDecimalPinLaw", "step", "(IC)I"⟩ : MethodName)) (W := 0) (argsL := [(.int (0 : Int32)), (.int z8)]) (rest := []) (W77 hw) (W78 hw) (W79 hw) (W3 hw) (by decide) (rm_step l Z a0 EL G (0 : Int32) z8 h37 C37.old) (fun _ => rfl) rfl all0 (by decide) (by decide) (by decide) (by decide) (lenOf pd_2849432949 rfl) rfl (Nat.le_of_ble_eq_true rfl) rfl at_116 (pc' := 119) rfl ?_
    intro vm38 T38 h38 v38 C38 A38 M38 q38
    obtain ⟨rfl, rfl⟩ := q38
    show Endw p e below T38 (mkF m 119 #[.val (.int i0), .val (.long i1), .second, .val (.long i2), .second, .val (.long i3), .second, .val (.long i4), .second, .val (.int (6 : Int32)), .val (.int z8), .val (.int z9), .val (.int z10), .val (.int z11), .val (.int z12), .val (.int z13), .val (.int z14), .val (.int z15), .val (.ref a37), .val (.int (0 : Int32)), .unset] [(.int (own_step (0 : Int32) z8))]) _
    refine Endw.st (T' := T38) (g' := (mkF m 131 #[.val (.int i0), .val (.long i1), .second, .val (.long i2), .second, .val (.long i3), .second, .val (.long i4), .second, .val (.int (6 : Int32)), .val (.int z8), .val (.int z9), .val (.int z10), .val (.int z11), .val (.int z12), .val (.int z13), .val (.int z14), .val (.int z15), .val (.ref a37), .val (.int (own_step (0 : Int32) z8)), .unset] [(.int z9), (.int (own_step (0 : Int32) z8))])) (fun tt_ kk_ => XS.istore C38.here C38.hx rfl (C38.dec at_119) rfl (l' := #[.val (.int i0), .val (.long i1), .second, .val (.long i2), .second, .val (.long i3), .second, .val (.long i4), .second, .val (.int (6 : Int32)), .val (.int z8), .val (.int z9), .val (.int z10), .val (.int z11), .val (.int z12), .val (.int z13), .val (.int z14), .val (.int z15), .val (.ref a37), .val (.int (own_step (0 : Int32) z8)), .unset]) rfl (XS.iload C38.here C38.hx rfl (C38.dec at_121) rfl (XS.iconst C38.here C38.hx rfl (C38.dec at_123) (XS.icmpNo C38.here C38.hx rfl (C38.dec at_124) rfl (XT.ii_le_f (by decide)) (XS.iload C38.here C38.hx rfl (C38.dec at_127) rfl (XS.iload C38.here C38.hx rfl (C38.dec at_129) rfl kk_)))))) ?_
    refine C38.static (y := (⟨"com/example/cohabit/cohabit/NumbersIsDecimalPinLaw", "step", "(IC)I"⟩ : MethodName)) (W := 0) (argsL := [(.int (own_step (0 : Int32) z8)), (.int z9)]) (rest := []) (W77 hw) (W78 hw) (W79 hw) (W3 hw) (by decide) (rm_step l Z a0 EL G (own_step (0 : Int32) z8) z9 h37 C38.old) (fun _ => rfl) rfl all0 (by decide) (by decide) (by decide) (by decide) (lenOf pd_2849432949 rfl) rfl (Nat.le_of_ble_eq_true rfl) rfl at_131 (pc' := 134) rfl ?_
    intro vm39 T39 h39 v39 C39 A39 M39 q39
    obtain ⟨rfl, rfl⟩ := q39
    show Endw p e below T39 (mkF m 134 #[.val (.int i0), .val (.long i1), .second, .val (.long i2), .second, .val (.long i3), .second, .val (.long i4), .second, .val (.int (6 : Int32)), .val (.int z8), .val (.int z9), .val (.int z10), .val (.int z11), .val (.int z12), .val (.int z13), .val (.int z14), .val (.int z15), .val (.ref a37), .val (.int (own_step (0 : Int32) z8)), .unset] [(.int (own_step (own_step (0 : Int32) z8) z9))]) _
    refine Endw.st (T' := T39) (g' := (mkF m 146 #[.val (.int i0), .val (.long i1), .second, .val (.long i2), .second, .val (.long i3), .second, .val (.long i4), .second, .val (.int (6 : Int32)), .val (.int z8), .val (.int z9), .val (.int z10), .val (.int z11), .val (.int z12), .val (.int z13), .val (.int z14), .val (.int z15), .val (.ref a37), .val (.int (own_step (own_step (0 : Int32) z8) z9)), .unset] [(.int z10), (.int (own_step (own_step (0 : Int32) z8) z9))])) (fun tt_ kk_ => XS.istore C39.here C39.hx rfl (C39.dec at_134) rfl (l' := #[.val (.int i0), .val (.long i1), .second, .val (.long i2), .second, .val (.long i3), .second, .val (.long i4), .second, .val (.int (6 : Int32)), .val (.int z8), .val (.int z9), .val (.int z10), .val (.int z11), .val (.int z12), .val (.int z13), .val (.int z14), .val (.int z15), .val (.ref a37), .val (.int (own_step (own_step (0 : Int32) z8) z9)), .unset]) rfl (XS.iload C39.here C39.hx rfl (C39.dec at_136) rfl (XS.iconst C39.here C39.hx rfl (C39.dec at_138) (XS.icmpNo C39.here C39.hx rfl (C39.dec at_139) rfl (XT.ii_le_f (by decide)) (XS.iload C39.here C39.hx rfl (C39.dec at_142) rfl (XS.iload C39.here C39.hx rfl (C39.dec at_144) rfl kk_)))))) ?_
    refine C39.static (y := (⟨"com/example/cohabit/cohabit/NumbersIsDecimalPinLaw", "step", "(IC)I"⟩ : MethodName)) (W := 0) (argsL := [(.int (own_step (own_step (0 : Int32) z8) z9)), (.int z10)]) (rest := []) (W77 hw) (W78 hw) (W79 hw) (W3 hw) (by decide) (rm_step l Z a0 EL G (own_step (own_step (0 : Int32) z8) z9) z10 h37 C39.old) (fun _ => rfl) rfl all0 (by decide) (by decide) (by decide) (by decide) (lenOf pd_2849432949 rfl) rfl (Nat.le_of_ble_eq_true rfl) rfl at_146 (pc' := 149) rfl ?_
    intro vm40 T40 h40 v40 C40 A40 M40 q40
    obtain ⟨rfl, rfl⟩ := q40
    show Endw p e below T40 (mkF m 149 #[.val (.int i0), .val (.long i1), .second, .val (.long i2), .second, .val (.long i3), .second, .val (.long i4), .second, .val (.int (6 : Int32)), .val (.int z8), .val (.int z9), .val (.int z10), .val (.int z11), .val (.int z12), .val (.int z13), .val (.int z14), .val (.int z15), .val (.ref a37), .val (.int (own_step (own_step (0 : Int32) z8) z9)), .unset] [(.int (own_step (own_step (own_step (0 : Int32) z8) z9) z10))]) _
    refine Endw.st (T' := T40) (g' := (mkF m 161 #[.val (.int i0), .val (.long i1), .second, .val (.long i2), .second, .val (.long i3), .second, .val (.long i4), .second, .val (.int (6 : Int32)), .val (.int z8), .val (.int z9), .val (.int z10), .val (.int z11), .val (.int z12), .val (.int z13), .val (.int z14), .val (.int z15), .val (.ref a37), .val (.int (own_step (own_step (own_step (0 : Int32) z8) z9) z10)), .unset] [(.int z11), (.int (own_step (own_step (own_step (0 : Int32) z8) z9) z10))])) (fun tt_ kk_ => XS.istore C40.here C40.hx rfl (C40.dec at_149) rfl (l' := #[.val (.int i0), .val (.long i1), .second, .val (.long i2), .second, .val (.long i3), .second, .val (.long i4), .second, .val (.int (6 : Int32)), .val (.int z8), .val (.int z9), .val (.int z10), .val (.int z11), .val (.int z12), .val (.int z13), .val (.int z14), .val (.int z15), .val (.ref a37), .val (.int (own_step (own_step (own_step (0 : Int32) z8) z9) z10)), .unset]) rfl (XS.iload C40.here C40.hx rfl (C40.dec at_151) rfl (XS.iconst C40.here C40.hx rfl (C40.dec at_153) (XS.icmpNo C40.here C40.hx rfl (C40.dec at_154) rfl (XT.ii_le_f (by decide)) (XS.iload C40.here C40.hx rfl (C40.dec at_157) rfl (XS.iload C40.here C40.hx rfl (C40.dec at_159) rfl kk_)))))) ?_
    refine C40.static (y := (⟨"com/example/cohabit/cohabit/NumbersIsDecimalPinLaw", "step", "(IC)I"⟩ : MethodName)) (W := 0) (argsL := [(.int (own_step (own_step (own_step (0 : Int32) z8) z9) z10)), (.int z11)]) (rest := []) (W77 hw) (W78 hw) (W79 hw) (W3 hw) (by decide) (rm_step l Z a0 EL G (own_step (own_step (own_step (0 : Int32) z8) z9) z10) z11 h37 C40.old) (fun _ => rfl) rfl all0 (by decide) (by decide) (by decide) (by decide) (lenOf pd_2849432949 rfl) rfl (Nat.le_of_ble_eq_true rfl) rfl at_161 (pc' := 164) rfl ?_
    intro vm41 T41 h41 v41 C41 A41 M41 q41
    obtain ⟨rfl, rfl⟩ := q41
    show Endw p e below T41 (mkF m 164 #[.val (.int i0), .val (.long i1), .second, .val (.long i2), .second, .val (.long i3), .second, .val (.long i4), .second, .val (.int (6 : Int32)), .val (.int z8), .val (.int z9), .val (.int z10), .val (.int z11), .val (.int z12), .val (.int z13), .val (.int z14), .val (.int z15), .val (.ref a37), .val (.int (own_step (own_step (own_step (0 : Int32) z8) z9) z10)), .unset] [(.int (own_step (own_step (own_step (own_step (0 : Int32) z8) z9) z10) z11))]) _
    refine Endw.st (T' := T41) (g' := (mkF m 176 #[.val (.int i0), .val (.long i1), .second, .val (.long i2), .second, .val (.long i3), .second, .val (.long i4), .second, .val (.int (6 : Int32)), .val (.int z8), .val (.int z9), .val (.int z10), .val (.int z11), .val (.int z12), .val (.int z13), .val (.int z14), .val (.int z15), .val (.ref a37), .val (.int (own_step (own_step (own_step (own_step (0 : Int32) z8) z9) z10) z11)), .unset] [(.int z12), (.int (own_step (own_step (own_step (own_step (0 : Int32) z8) z9) z10) z11))])) (fun tt_ kk_ => XS.istore C41.here C41.hx rfl (C41.dec at_164) rfl (l' := #[.val (.int i0), .val (.long i1), .second, .val (.long i2), .second, .val (.long i3), .second, .val (.long i4), .second, .val (.int (6 : Int32)), .val (.int z8), .val (.int z9), .val (.int z10), .val (.int z11), .val (.int z12), .val (.int z13), .val (.int z14), .val (.int z15), .val (.ref a37), .val (.int (own_step (own_step (own_step (own_step (0 : Int32) z8) z9) z10) z11)), .unset]) rfl (XS.iload C41.here C41.hx rfl (C41.dec at_166) rfl (XS.iconst C41.here C41.hx rfl (C41.dec at_168) (XS.icmpNo C41.here C41.hx rfl (C41.dec at_169) rfl (XT.ii_le_f (by decide)) (XS.iload C41.here C41.hx rfl (C41.dec at_172) rfl (XS.iload C41.here C41.hx rfl (C41.dec at_174) rfl kk_)))))) ?_
    refine C41.static (y := (⟨"com/example/cohabit/cohabit/NumbersIsDecimalPinLaw", "step", "(IC)I"⟩ : MethodName)) (W := 0) (argsL := [(.int (own_step (own_step (own_step (own_step (0 : Int32) z8) z9) z10) z11)), (.int z12)]) (rest := []) (W77 hw) (W78 hw) (W79 hw) (W3 hw) (by decide) (rm_step l Z a0 EL G (own_step (own_step (own_step (own_step (0 : Int32) z8) z9) z10) z11) z12 h37 C41.old) (fun _ => rfl) rfl all0 (by decide) (by decide) (by decide) (by decide) (lenOf pd_2849432949 rfl) rfl (Nat.le_of_ble_eq_true rfl) rfl at_176 (pc' := 179) rfl ?_
    intro vm42 T42 h42 v42 C42 A42 M42 q42
    obtain ⟨rfl, rfl⟩ := q42
    show Endw p e below T42 (mkF m 179 #[.val (.int i0), .val (.long i1), .second, .val (.long i2), .second, .val (.long i3), .second, .val (.long i4), .second, .val (.int (6 : Int32)), .val (.int z8), .val (.int z9), .val (.int z10), .val (.int z11), .val (.int z12), .val (.int z13), .val (.int z14), .val (.int z15), .val (.ref a37), .val (.int (own_step (own_step (own_step (own_step (0 : Int32) z8) z9) z10) z11)), .unset] [(.int (own_step (own_step (own_step (own_step (own_step (0 : Int32) z8) z9) z10) z11) z12))]) _
    refine Endw.st (T' := T42) (g' := (mkF m 191 #[.val (.int i0), .val (.long i1), .second, .val (.long i2), .second, .val (.long i3), .second, .val (.long i4), .second, .val (.int (6 : Int32)), .val (.int z8), .val (.int z9), .val (.int z10), .val (.int z11), .val (.int z12), .val (.int z13), .val (.int z14), .val (.int z15), .val (.ref a37), .val (.int (own_step (own_step (own_step (own_step (own_step (0 : Int32) z8) z9) z10) z11) z12)), .unset] [(.int z13), (.int (own_step (own_step (own_step (own_step (own_step (0 : Int32) z8) z9) z10) z11) z12))])) (fun tt_ kk_ => XS.istore C42.here C42.hx rfl (C42.dec at_179) rfl (l' := #[.val (.int i0), .val (.long i1), .second, .val (.long i2), .second, .val (.long i3), .second, .val (.long i4), .second, .val (.int (6 : Int32)), .val (.int z8), .val (.int z9), .val (.int z10), .val (.int z11), .val (.int z12), .val (.int z13), .val (.int z14), .val (.int z15), .val (.ref a37), .val (.int (own_step (own_step (own_step (own_step (own_step (0 : Int32) z8) z9) z10) z11) z12)), .unset]) rfl (XS.iload C42.here C42.hx rfl (C42.dec at_181) rfl (XS.iconst C42.here C42.hx rfl (C42.dec at_183) (XS.icmpNo C42.here C42.hx rfl (C42.dec at_184) rfl (XT.ii_le_f (by decide)) (XS.iload C42.here C42.hx rfl (C42.dec at_187) rfl (XS.iload C42.here C42.hx rfl (C42.dec at_189) rfl kk_)))))) ?_
    refine C42.static (y := (⟨"com/example/cohabit/cohabit/NumbersIsDecimalPinLaw", "step", "(IC)I"⟩ : MethodName)) (W := 0) (argsL := [(.int (own_step (own_step (own_step (own_step (own_step (0 : Int32) z8) z9) z10) z11) z12)), (.int z13)]) (rest := []) (W77 hw) (W78 hw) (W79 hw) (W3 hw) (by decide) (rm_step l Z a0 EL G (own_step (own_step (own_step (own_step (own_step (0 : Int32) z8) z9) z10) z11) z12) z13 h37 C42.old) (fun _ => rfl) rfl all0 (by decide) (by decide) (by decide) (by decide) (lenOf pd_2849432949 rfl) rfl (Nat.le_of_ble_eq_true rfl) rfl at_191 (pc' := 194) rfl ?_
    intro vm43 T43 h43 v43 C43 A43 M43 q43
    obtain ⟨rfl, rfl⟩ := q43
    show Endw p e below T43 (mkF m 194 #[.val (.int i0), .val (.long i1), .second, .val (.long i2), .second, .val (.long i3), .second, .val (.long i4), .second, .val (.int (6 : Int32)), .val (.int z8), .val (.int z9), .val (.int z10), .val (.int z11), .val (.int z12), .val (.int z13), .val (.int z14), .val (.int z15), .val (.ref a37), .val (.int (own_step (own_step (own_step (own_step (own_step (0 : Int32) z8) z9) z10) z11) z12)), .unset] [(.int (own_step (own_step (own_step (own_step (own_step (own_step (0 : Int32) z8) z9) z10) z11) z12) z13))]) _
    refine Endw.st (T' := T43) (g' := (mkF m 228 #[.val (.int i0), .val (.long i1), .second, .val (.long i2), .second, .val (.long i3), .second, .val (.long i4), .second, .val (.int (6 : Int32)), .val (.int z8), .val (.int z9), .val (.int z10), .val (.int z11), .val (.int z12), .val (.int z13), .val (.int z14), .val (.int z15), .val (.ref a37), .val (.int (own_step (own_step (own_step (own_step (own_step (own_step (0 : Int32) z8) z9) z10) z11) z12) z13)), .unset] [])) (fun tt_ kk_ => XS.istore C43.here C43.hx rfl (C43.dec at_194) rfl (l' := #[.val (.int i0), .val (.long i1), .second, .val (.long i2), .second, .val (.long i3), .second, .val (.long i4), .second, .val (.int (6 : Int32)), .val (.int z8), .val (.int z9), .val (.int z10), .val (.int z11), .val (.int z12), .val (.int z13), .val (.int z14), .val (.int z15), .val (.ref a37), .val (.int (own_step (own_step (own_step (own_step (own_step (own_step (0 : Int32) z8) z9) z10) z11) z12) z13)), .unset]) rfl (XS.iload C43.here C43.hx rfl (C43.dec at_196) rfl (XS.bipush C43.here C43.hx rfl (C43.dec at_198) (XS.icmpYes C43.here C43.hx rfl (pc0 := 200) rfl (C43.dec at_200) rfl (XT.ii_le_t (by decide)) (by decide) rfl (XS.iload C43.here C43.hx rfl (C43.dec at_212) rfl (XS.bipush C43.here C43.hx rfl (C43.dec at_214) (XS.icmpYes C43.here C43.hx rfl (pc0 := 216) rfl (C43.dec at_216) rfl (XT.ii_le_t (by decide)) (by decide) rfl kk_))))))) ?_
    exact J228 (.val (.int (6 : Int32))) (.val (.int z8)) (.val (.int z9)) (.val (.int z10)) (.val (.int z11)) (.val (.int z12)) (.val (.int z13)) (.val (.int z14)) (.val (.int z15)) a37 t37 kb37 [z8, z9, z10, z11, z12, z13] (own_step (own_step (own_step (own_step (own_step (own_step (0 : Int32) z8) z9) z10) z11) z12) z13) vm43 T43 h37 Y37 (Nat.le_of_ble_eq_true rfl) (by have q := own_run0 [z8, z9, z10, z11, z12, z13]; simp only [List.foldl_cons, List.foldl_nil] at q; exact q) (Keep.trans (Keep.refl h []) K37 all0) (CHr.trans (CHr.trans (CHr.trans (CHr.trans (CHr.trans (CHr.trans (CHr.trans (CHr.trans (CHr.trans (CHr.trans (CHr.trans (CHr.trans (CHr.trans (CHr.trans A8 A9) A10) A11) A12) A13) A14) A15) A37) A38) A39) A40) A41) A42) A43) (C43.more (k' := 6) (n' := 36) (by decide) (by decide))
  · rw [e9]
    show Endw p e below T15 (mkF m 81 #[.val (.int i0), .val (.long i1), .second, .val (.long i2), .second, .val (.long i3), .second, .val (.long i4), .second, .val (.int (7 : Int32)), .val (.int z8), .val (.int z9), .val (.int z10), .val (.int z11), .val (.int z12), .val (.int z13), .val (.int z14), .val (.int z15), .unset, .unset, .unset] []) _
    refine Endw.st (T' := T15) (g' := (mkF m 97 #[.val (.int i0), .val (.long i1), .second, .val (.long i2), .second, .val (.long i3), .second, .val (.long i4), .second, .val (.int (7 : Int32)), .val (.int z8), .val (.int z9), .val (.int z10), .val (.int z11), .val (.int z12), .val (.int z13), .val (.int z14), .val (.int z15), .unset, .unset, .unset] [(.int z14), (.int z13), (.int z12), (.int z11), (.int z10), (.int z9), (.int z8), (.int (7 : Int32))])) (fun tt_ kk_ => XS.iload C15.here C15.hx rfl (C15.dec at_81) rfl (XS.iload C15.here C15.hx rfl (C15.dec at_83) rfl (XS.iload C15.here C15.hx rfl (C15.dec at_85) rfl (XS.iload C15.here C15.hx rfl (C15.dec at_87) rfl (XS.iload C15.here C15.hx rfl (C15.dec at_89) rfl (XS.iload C15.here C15.hx rfl (C15.dec at_91) rfl (XS.iload C15.here C15.hx rfl (C15.dec at_93) rfl (XS.iload C15.here C15.hx rfl (C15.dec at_95) rfl kk_)))))))) ?_
    refine Endw.st (T' := T15) (g' := (mkF m 99 #[.val (.int i0), .val (.long i1), .second, .val (.long i2), .second, .val (.long i3), .second, .val (.long i4), .second, .val (.int (7 : Int32)), .val (.int z8), .val (.int z9), .val (.int z10), .val (.int z11), .val (.int z12), .val (.int z13), .val (.int z14), .val (.int z15), .unset, .unset, .unset] [(.int z15), (.int z14), (.int z13), (.int z12), (.int z11), (.int z10), (.int z9), (.int z8), (.int (7 : Int32))])) (fun tt_ kk_ => XS.iload C15.here C15.hx rfl (C15.dec at_97) rfl kk_) ?_
    refine C15.static (y := (⟨"com/example/cohabit/cohabit/NumbersIsDecimalPinLaw", "make", "(ICCCCCCCC)Ljava/lang/String;"⟩ : MethodName)) (W := 0) (argsL := [(.int (7 : Int32)), (.int z8), (.int z9), (.int z10), (.int z11), (.int z12), (.int z13), (.int z14), (.int z15)]) (rest := []) (W5 hw) (W6 hw) (W7 hw) (W3 hw) (by decide) (rm_make7 l Z a0 EL G z8 z9 z10 z11 z12 z13 z14 z15 h C15.old pz8 pz9 pz10 pz11 pz12 pz13 pz14) (fun _ => rfl) rfl all0 (by decide) (by decide) (by decide) (by decide) (lenOf pd_9 rfl) rfl (Nat.le_of_ble_eq_true rfl) rfl at_99 (pc' := 102) rfl ?_
    intro vm44 T44 h44 v44 C44 A44 M44 q44
    obtain ⟨a44, t44, kb44, rfl, K44, ge44, Y44⟩ := q44
    show Endw p e below T44 (mkF m 102 #[.val (.int i0), .val (.long i1), .second, .val (.long i2), .second, .val (.long i3), .second, .val (.long i4), .second, .val (.int (7 : Int32)), .val (.int z8), .val (.int z9), .val (.int z10), .val (.int z11), .val (.int z12), .val (.int z13), .val (.int z14), .val (.int z15), .unset, .unset, .unset] [(.ref a44)]) _
    refine Endw.st (T' := T44) (g' := (mkF m 116 #[.val (.int i0), .val (.long i1), .second, .val (.long i2), .second, .val (.long i3), .second, .val (.long i4), .second, .val (.int (7 : Int32)), .val (.int z8), .val (.int z9), .val (.int z10), .val (.int z11), .val (.int z12), .val (.int z13), .val (.int z14), .val (.int z15), .val (.ref a44), .val (.int (0 : Int32)), .unset] [(.int z8), (.int (0 : Int32))])) (fun tt_ kk_ => XS.astore C44.here C44.hx rfl (C44.dec at_102) rfl rfl (l' := #[.val (.int i0), .val (.long i1), .second, .val (.long i2), .second, .val (.long i3), .second, .val (.long i4), .second, .val (.int (7 : Int32)), .val (.int z8), .val (.int z9), .val (.int z10), .val (.int z11), .val (.int z12), .val (.int z13), .val (.int z14), .val (.int z15), .val (.ref a44), .unset, .unset]) rfl (XS.iconst C44.here C44.hx rfl (C44.dec at_104) (XS.istore C44.here C44.hx rfl (C44.dec at_105) rfl (l' := #[.val (.int i0), .val (.long i1), .second, .val (.long i2), .second, .val (.long i3), .second, .val (.long i4), .second, .val (.int (7 : Int32)), .val (.int z8), .val (.int z9), .val (.int z10), .val (.int z11), .val (.int z12), .val (.int z13), .val (.int z14), .val (.int z15), .val (.ref a44), .val (.int (0 : Int32)), .unset]) rfl (XS.iload C44.here C44.hx rfl (C44.dec at_107) rfl (XS.ifNo C44.here C44.hx rfl (C44.dec at_109) rfl (XT.i0_le_f (by decide)) (XS.iload C44.here C44.hx rfl (C44.dec at_112) rfl (XS.iload C44.here C44.hx rfl (C44.dec at_114) rfl kk_))))))) ?_
    refine C44.static (y := (⟨"com/example/cohabit/cohabit/NumbersIsDecimalPinLaw", "step", "(IC)I"⟩ : MethodName)) (W := 0) (argsL := [(.int (0 : Int32)), (.int z8)]) (rest := []) (W77 hw) (W78 hw) (W79 hw) (W3 hw) (by decide) (rm_step l Z a0 EL G (0 : Int32) z8 h44 C44.old) (fun _ => rfl) rfl all0 (by decide) (by decide) (by decide) (by decide) (lenOf pd_2849432949 rfl) rfl (Nat.le_of_ble_eq_true rfl) rfl at_116 (pc' := 119) rfl ?_
    intro vm45 T45 h45 v45 C45 A45 M45 q45
    obtain ⟨rfl, rfl⟩ := q45
    show Endw p e below T45 (mkF m 119 #[.val (.int i0), .val (.long i1), .second, .val (.long i2), .second, .val (.long i3), .second, .val (.long i4), .second, .val (.int (7 : Int32)), .val (.int z8), .val (.int z9), .val (.int z10), .val (.int z11), .val (.int z12), .val (.int z13), .val (.int z14), .val (.int z15), .val (.ref a44), .val (.int (0 : Int32)), .unset] [(.int (own_step (0 : Int32) z8))]) _
    refine Endw.st (T' := T45) (g' := (mkF m 131 #[.val (.int i0), .val (.long i1), .second, .val (.long i2), .second, .val (.long i3), .second, .val (.long i4), .second, .val (.int (7 : Int32)), .val (.int z8), .val (.int z9), .val (.int z10), .val (.int z11), .val (.int z12), .val (.int z13), .val (.int z14), .val (.int z15), .val (.ref a44), .val (.int (own_step (0 : Int32) z8)), .unset] [(.int z9), (.int (own_step (0 : Int32) z8))])) (fun tt_ kk_ => XS.istore C45.here C45.hx rfl (C45.dec at_119) rfl (l' := #[.val (.int i0), .val (.long i1), .second, .val (.long i2), .second, .val (.long i3), .second, .val (.long i4), .second, .val (.int (7 : Int32)), .val (.int z8), .val (.int z9), .val (.int z10), .val (.int z11), .val (.int z12), .val (.int z13), .val (.int z14), .val (.int z15), .val (.ref a44), .val (.int (own_step (0 : Int32) z8)), .unset]) rfl (XS.iload C45.here C45.hx rfl (C45.dec at_121) rfl (XS.iconst C45.here C45.hx rfl (C45.dec at_123) (XS.icmpNo C45.here C45.hx rfl (C45.dec at_124) rfl (XT.ii_le_f (by decide)) (XS.iload C45.here C45.hx rfl (C45.dec at_127) rfl (XS.iload C45.here C45.hx rfl (C45.dec at_129) rfl kk_)))))) ?_
    refine C45.static (y := (⟨"com/example/cohabit/cohabit/NumbersIsDecimalPinLaw", "step", "(IC)I"⟩ : MethodName)) (W := 0) (argsL := [(.int (own_step (0 : Int32) z8)), (.int z9)]) (rest := []) (W77 hw) (W78 hw) (W79 hw) (W3 hw) (by decide) (rm_step l Z a0 EL G (own_step (0 : Int32) z8) z9 h44 C45.old) (fun _ => rfl) rfl all0 (by decide) (by decide) (by decide) (by decide) (lenOf pd_2849432949 rfl) rfl (Nat.le_of_ble_eq_true rfl) rfl at_131 (pc' := 134) rfl ?_
    intro vm46 T46 h46 v46 C46 A46 M46 q46
    obtain ⟨rfl, rfl⟩ := q46
    show Endw p e below T46 (mkF m 134 #[.val (.int i0), .val (.long i1), .second, .val (.long i2), .second, .val (.long i3), .second, .val (.long i4), .second, .val (.int (7 : Int32)), .val (.int z8), .val (.int z9), .val (.int z10), .val (.int z11), .val (.int z12), .val (.int z13), .val (.int z14), .val (.int z15), .val (.ref a44), .val (.int (own_step (0 : Int32) z8)), .unset] [(.int (own_step (own_step (0 : Int32) z8) z9))]) _
    refine Endw.st (T' := T46) (g' := (mkF m 146 #[.val (.int i0), .val (.long i1), .second, .val (.long i2), .second, .val (.long i3), .second, .val (.long i4), .second, .val (.int (7 : Int32)), .val (.int z8), .val (.int z9), .val (.int z10), .val (.int z11), .val (.int z12), .val (.int z13), .val (.int z14), .val (.int z15), .val (.ref a44), .val (.int (own_step (own_step (0 : Int32) z8) z9)), .unset] [(.int z10), (.int (own_step (own_step (0 : Int32) z8) z9))])) (fun tt_ kk_ => XS.istore C46.here C46.hx rfl (C46.dec at_134) rfl (l' := #[.val (.int i0), .val (.long i1), .second, .val (.long i2), .second, .val (.long i3), .second, .val (.long i4), .second, .val (.int (7 : Int32)), .val (.int z8), .val (.int z9), .val (.int z10), .val (.int z11), .val (.int z12), .val (.int z13), .val (.int z14), .val (.int z15), .val (.ref a44), .val (.int (own_step (own_step (0 : Int32) z8) z9)), .unset]) rfl (XS.iload C46.here C46.hx rfl (C46.dec at_136) rfl (XS.iconst C46.here C46.hx rfl (C46.dec at_138) (XS.icmpNo C46.here C46.hx rfl (C46.dec at_139) rfl (XT.ii_le_f (by decide)) (XS.iload C46.here C46.hx rfl (C46.dec at_142) rfl (XS.iload C46.here C46.hx rfl (C46.dec at_144) rfl kk_)))))) ?_
    refine C46.static (y := (⟨"com/example/cohabit/cohabit/NumbersIsDecimalPinLaw", "step", "(IC)I"⟩ : MethodName)) (W := 0) (argsL := [(.int (own_step (own_step (0 : Int32) z8) z9)), (.int z10)]) (rest := []) (W77 hw) (W78 hw) (W79 hw) (W3 hw) (by decide) (rm_step l Z a0 EL G (own_step (own_step (0 : Int32) z8) z9) z10 h44 C46.old) (fun _ => rfl) rfl all0 (by decide) (by decide) (by decide) (by decide) (lenOf pd_2849432949 rfl) rfl (Nat.le_of_ble_eq_true rfl) rfl at_146 (pc' := 149) rfl ?_
    intro vm47 T47 h47 v47 C47 A47 M47 q47
    obtain ⟨rfl, rfl⟩ := q47
    show Endw p e below T47 (mkF m 149 #[.val (.int i0), .val (.long i1), .second, .val (.long i2), .second, .val (.long i3), .second, .val (.long i4), .second, .val (.int (7 : Int32)), .val (.int z8), .val (.int z9), .val (.int z10), .val (.int z11), .val (.int z12), .val (.int z13), .val (.int z14), .val (.int z15), .val (.ref a44), .val (.int (own_step (own_step (0 : Int32) z8) z9)), .unset] [(.int (own_step (own_step (own_step (0 : Int32) z8) z9) z10))]) _
    refine Endw.st (T' := T47) (g' := (mkF m 161 #[.val (.int i0), .val (.long i1), .second, .val (.long i2), .second, .val (.long i3), .second, .val (.long i4), .second, .val (.int (7 : Int32)), .val (.int z8), .val (.int z9), .val (.int z10), .val (.int z11), .val (.int z12), .val (.int z13), .val (.int z14), .val (.int z15), .val (.ref a44), .val (.int (own_step (own_step (own_step (0 : Int32) z8) z9) z10)), .unset] [(.int z11), (.int (own_step (own_step (own_step (0 : Int32) z8) z9) z10))])) (fun tt_ kk_ => XS.istore C47.here C47.hx rfl (C47.dec at_149) rfl (l' := #[.val (.int i0), .val (.long i1), .second, .val (.long i2), .second, .val (.long i3), .second, .val (.long i4), .second, .val (.int (7 : Int32)), .val (.int z8), .val (.int z9), .val (.int z10), .val (.int z11), .val (.int z12), .val (.int z13), .val (.int z14), .val (.int z15), .val (.ref a44), .val (.int (own_step (own_step (own_step (0 : Int32) z8) z9) z10)), .unset]) rfl (XS.iload C47.here C47.hx rfl (C47.dec at_151) rfl (XS.iconst C47.here C47.hx rfl (C47.dec at_153) (XS.icmpNo C47.here C47.hx rfl (C47.dec at_154) rfl (XT.ii_le_f (by decide)) (XS.iload C47.here C47.hx rfl (C47.dec at_157) rfl (XS.iload C47.here C47.hx rfl (C47.dec at_159) rfl kk_)))))) ?_
    refine C47.static (y := (⟨"com/example/cohabit/cohabit/NumbersIsDecimalPinLaw", "step", "(IC)I"⟩ : MethodName)) (W := 0) (argsL := [(.int (own_step (own_step (own_step (0 : Int32) z8) z9) z10)), (.int z11)]) (rest := []) (W77 hw) (W78 hw) (W79 hw) (W3 hw) (by decide) (rm_step l Z a0 EL G (own_step (own_step (own_step (0 : Int32) z8) z9) z10) z11 h44 C47.old) (fun _ => rfl) rfl all0 (by decide) (by decide) (by decide) (by decide) (lenOf pd_2849432949 rfl) rfl (Nat.le_of_ble_eq_true rfl) rfl at_161 (pc' := 164) rfl ?_
    intro vm48 T48 h48 v48 C48 A48 M48 q48
    obtain ⟨rfl, rfl⟩ := q48
    show Endw p e below T48 (mkF m 164 #[.val (.int i0), .val (.long i1), .second, .val (.long i2), .second, .val (.long i3), .second, .val (.long i4), .second, .val (.int (7 : Int32)), .val (.int z8), .val (.int z9), .val (.int z10), .val (.int z11), .val (.int z12), .val (.int z13), .val (.int z14), .val (.int z15), .val (.ref a44), .val (.int (own_step (own_step (own_step (0 : Int32) z8) z9) z10)), .unset] [(.int (own_step (own_step (own_step (own_step (0 : Int32) z8) z9) z10) z11))]) _
    refine Endw.st (T' := T48) (g' := (mkF m 176 #[.val (.int i0), .val (.long i1), .second, .val (.long i2), .second, .val (.long i3), .second, .val (.long i4), .second, .val (.int (7 : Int32)), .val (.int z8), .val (.int z9), .val (.int z10), .val (.int z11), .val (.int z12), .val (.int z13), .val (.int z14), .val (.int z15), .val (.ref a44), .val (.int (own_step (own_step (own_step (own_step (0 : Int32) z8) z9) z10) z11)), .unset] [(.int z12), (.int (own_step (own_step (own_step (own_step (0 : Int32) z8) z9) z10) z11))])) (fun tt_ kk_ => XS.istore C48.here C48.hx rfl (C48.dec at_164) rfl (l' := #[.val (.int i0), .val (.long i1), .second, .val (.long i2), .second, .val (.long i3), .second, .val (.long i4), .second, .val (.int (7 : Int32)), .val (.int z8), .val (.int z9), .val (.int z10), .val (.int z11), .val (.int z12), .val (.int z13), .val (.int z14), .val (.int z15), .val (.ref a44), .val (.int (own_step (own_step (own_step (own_step (0 : Int32) z8) z9) z10) z11)), .unset]) rfl (XS.iload C48.here C48.hx rfl (C48.dec at_166) rfl (XS.iconst C48.here C48.hx rfl (C48.dec at_168) (XS.icmpNo C48.here C48.hx rfl (C48.dec at_169) rfl (XT.ii_le_f (by decide)) (XS.iload C48.here C48.hx rfl (C48.dec at_172) rfl (XS.iload C48.here C48.hx rfl (C48.dec at_174) rfl kk_)))))) ?_
    refine C48.static (y := (⟨"com/example/cohabit/cohabit/NumbersIsDecimalPinLaw", "step", "(IC)I"⟩ : MethodName)) (W := 0) (argsL := [(.int (own_step (own_step (own_step (own_step (0 : Int32) z8) z9) z10) z11)), (.int z12)]) (rest := []) (W77 hw) (W78 hw) (W79 hw) (W3 hw) (by decide) (rm_step l Z a0 EL G (own_step (own_step (own_step (own_step (0 : Int32) z8) z9) z10) z11) z12 h44 C48.old) (fun _ => rfl) rfl all0 (by decide) (by decide) (by decide) (by decide) (lenOf pd_2849432949 rfl) rfl (Nat.le_of_ble_eq_true rfl) rfl at_176 (pc' := 179) rfl ?_
    intro vm49 T49 h49 v49 C49 A49 M49 q49
    obtain ⟨rfl, rfl⟩ := q49
    show Endw p e below T49 (mkF m 179 #[.val (.int i0), .val (.long i1), .second, .val (.long i2), .second, .val (.long i3), .second, .val (.long i4), .second, .val (.int (7 : Int32)), .val (.int z8), .val (.int z9), .val (.int z10), .val (.int z11), .val (.int z12), .val (.int z13), .val (.int z14), .val (.int z15), .val (.ref a44), .val (.int (own_step (own_step (own_step (own_step (0 : Int32) z8) z9) z10) z11)), .unset] [(.int (own_step (own_step (own_step (own_step (own_step (0 : Int32) z8) z9) z10) z11) z12))]) _
    refine Endw.st (T' := T49) (g' := (mkF m 191 #[.val (.int i0), .val (.long i1), .second, .val (.long i2), .second, .val (.long i3), .second, .val (.long i4), .second, .val (.int (7 : Int32)), .val (.int z8), .val (.int z9), .val (.int z10), .val (.int z11), .val (.int z12), .val (.int z13), .val (.int z14), .val (.int z15), .val (.ref a44), .val (.int (own_step (own_step (own_step (own_step (own_step (0 : Int32) z8) z9) z10) z11) z12)), .unset] [(.int z13), (.int (own_step (own_step (own_step (own_step (own_step (0 : Int32) z8) z9) z10) z11) z12))])) (fun tt_ kk_ => XS.istore C49.here C49.hx rfl (C49.dec at_179) rfl (l' := #[.val (.int i0), .val (.long i1), .second, .val (.long i2), .second, .val (.long i3), .second, .val (.long i4), .second, .val (.int (7 : Int32)), .val (.int z8), .val (.int z9), .val (.int z10), .val (.int z11), .val (.int z12), .val (.int z13), .val (.int z14), .val (.int z15), .val (.ref a44), .val (.int (own_step (own_step (own_step (own_step (own_step (0 : Int32) z8) z9) z10) z11) z12)), .unset]) rfl (XS.iload C49.here C49.hx rfl (C49.dec at_181) rfl (XS.iconst C49.here C49.hx rfl (C49.dec at_183) (XS.icmpNo C49.here C49.hx rfl (C49.dec at_184) rfl (XT.ii_le_f (by decide)) (XS.iload C49.here C49.hx rfl (C49.dec at_187) rfl (XS.iload C49.here C49.hx rfl (C49.dec at_189) rfl kk_)))))) ?_
    refine C49.static (y := (⟨"com/example/cohabit/cohabit/NumbersIsDecimalPinLaw", "step", "(IC)I"⟩ : MethodName)) (W := 0) (argsL := [(.int (own_step (own_step (own_step (own_step (own_step (0 : Int32) z8) z9) z10) z11) z12)), (.int z13)]) (rest := []) (W77 hw) (W78 hw) (W79 hw) (W3 hw) (by decide) (rm_step l Z a0 EL G (own_step (own_step (own_step (own_step (own_step (0 : Int32) z8) z9) z10) z11) z12) z13 h44 C49.old) (fun _ => rfl) rfl all0 (by decide) (by decide) (by decide) (by decide) (lenOf pd_2849432949 rfl) rfl (Nat.le_of_ble_eq_true rfl) rfl at_191 (pc' := 194) rfl ?_
    intro vm50 T50 h50 v50 C50 A50 M50 q50
    obtain ⟨rfl, rfl⟩ := q50
    show Endw p e below T50 (mkF m 194 #[.val (.int i0), .val (.long i1), .second, .val (.long i2), .second, .val (.long i3), .second, .val (.long i4), .second, .val (.int (7 : Int32)), .val (.int z8), .val (.int z9), .val (.int z10), .val (.int z11), .val (.int z12), .val (.int z13), .val (.int z14), .val (.int z15), .val (.ref a44), .val (.int (own_step (own_step (own_step (own_step (own_step (0 : Int32) z8) z9) z10) z11) z12)), .unset] [(.int (own_step (own_step (own_step (own_step (own_step (own_step (0 : Int32) z8) z9) z10) z11) z12) z13))]) _
    refine Endw.st (T' := T50) (g' := (mkF m 207 #[.val (.int i0), .val (.long i1), .second, .val (.long i2), .second, .val (.long i3), .second, .val (.long i4), .second, .val (.int (7 : Int32)), .val (.int z8), .val (.int z9), .val (.int z10), .val (.int z11), .val (.int z12), .val (.int z13), .val (.int z14), .val (.int z15), .val (.ref a44), .val (.int (own_step (own_step (own_step (own_step (own_step (own_step (0 : Int32) z8) z9) z10) z11) z12) z13)), .unset] [(.int z14), (.int (own_step (own_step (own_step (own_step (own_step (own_step (0 : Int32) z8) z9) z10) z11) z12) z13))])) (fun tt_ kk_ => XS.istore C50.here C50.hx rfl (C50.dec at_194) rfl (l' := #[.val (.int i0), .val (.long i1), .second, .val (.long i2), .second, .val (.long i3), .second, .val (.long i4), .second, .val (.int (7 : Int32)), .val (.int z8), .val (.int z9), .val (.int z10), .val (.int z11), .val (.int z12), .val (.int z13), .val (.int z14), .val (.int z15), .val (.ref a44), .val (.int (own_step (own_step (own_step (own_step (own_step (own_step (0 : Int32) z8) z9) z10) z11) z12) z13)), .unset]) rfl (XS.iload C50.here C50.hx rfl (C50.dec at_196) rfl (XS.bipush C50.here C50.hx rfl (C50.dec at_198) (XS.icmpNo C50.here C50.hx rfl (C50.dec at_200) rfl (XT.ii_le_f (by decide)) (XS.iload C50.here C50.hx rfl (C50.dec at_203) rfl (XS.iload C50.here C50.hx rfl (C50.dec at_205) rfl kk_)))))) ?_
    refine C50.static (y := (⟨"com/example/cohabit/cohabit/NumbersIsDecimalPinLaw", "step", "(IC)I"⟩ : MethodName)) (W := 0) (argsL := [(.int (own_step (own_step (own_step (own_step (own_step (own_step (0 : Int32) z8) z9) z10) z11) z12) z13)), (.int z14)]) (rest := []) (W77 hw) (W78 hw) (W79 hw) (W3 hw) (by decide) (rm_step l Z a0 EL G (own_step (own_step (own_step (own_step (own_step (own_step (0 : Int32) z8) z9) z10) z11) z12) z13) z14 h44 C50.old) (fun _ => rfl) rfl all0 (by decide) (by decide) (by decide) (by decide) (lenOf pd_2849432949 rfl) rfl (Nat.le_of_ble_eq_true rfl) rfl at_207 (pc' := 210) rfl ?_
    intro vm51 T51 h51 v51 C51 A51 M51 q51
    obtain ⟨rfl, rfl⟩ := q51
    show Endw p e below T51 (mkF m 210 #[.val (.int i0), .val (.long i1), .second, .val (.long i2), .second, .val (.long i3), .second, .val (.long i4), .second, .val (.int (7 : Int32)), .val (.int z8), .val (.int z9), .val (.int z10), .val (.int z11), .val (.int z12), .val (.int z13), .val (.int z14), .val (.int z15), .val (.ref a44), .val (.int (own_step (own_step (own_step (own_step (own_step (own_step (0 : Int32) z8) z9) z10) z11) z12) z13)), .unset] [(.int (own_step (own_step (own_step (own_step (own_step (own_step (own_step (0 : Int32) z8) z9) z10) z11) z12) z13) z14))]) _
    refine Endw.st (T' := T51) (g' := (mkF m 228 #[.val (.int i0), .val (.long i1), .second, .val (.long i2), .second, .val (.long i3), .second, .val (.long i4), .second, .val (.int (7 : Int32)), .val (.int z8), .val (.int z9), .val (.int z10), .val (.int z11), .val (.int z12), .val (.int z13), .val (.int z14), .val (.int z15), .val (.ref a44), .val (.int (own_step (own_step (own_step (own_step (own_step (own_step (own_step (0 : Int32) z8) z9) z10) z11) z12) z13) z14)), .unset] [])) (fun tt_ kk_ => XS.istore C51.here C51.hx rfl (C51.dec at_210) rfl (l' := #[.val (.int i0), .val (.long i1), .second, .val (.long i2), .second, .val (.long i3), .second, .val (.long i4), .second, .val (.int (7 : Int32)), .val (.int z8), .val (.int z9), .val (.int z10), .val (.int z11), .val (.int z12), .val (.int z13), .val (.int z14), .val (.int z15), .val (.ref a44), .val (.int (own_step (own_step (own_step (own_step (own_step (own_step (own_step (0 : Int32) z8) z9) z10) z11) z12) z13) z14)), .unset]) rfl (XS.iload C51.here C51.hx rfl (C51.dec at_212) rfl (XS.bipush C51.here C51.hx rfl (C51.dec at_214) (XS.icmpYes C51.here C51.hx rfl (pc0 := 216) rfl (C51.dec at_216) rfl (XT.ii_le_t (by decide)) (by decide) rfl kk_)))) ?_
    exact J228 (.val (.int (7 : Int32))) (.val (.int z8)) (.val (.int z9)) (.val (.int z10)) (.val (.int z11)) (.val (.int z12)) (.val (.int z13)) (.val (.int z14)) (.val (.int z15)) a44 t44 kb44 [z8, z9, z10, z11, z12, z13, z14] (own_step (own_step (own_step (own_step (own_step (own_step (own_step (0 : Int32) z8) z9) z10) z11) z12) z13) z14) vm51 T51 h44 Y44 (Nat.le_of_ble_eq_true rfl) (by have q := own_run0 [z8, z9, z10, z11, z12, z13, z14]; simp only [List.foldl_cons, List.foldl_nil] at q; exact q) (Keep.trans (Keep.refl h []) K44 all0) (CHr.trans (CHr.trans (CHr.trans (CHr.trans (CHr.trans (CHr.trans (CHr.trans (CHr.trans (CHr.trans (CHr.trans (CHr.trans (CHr.trans (CHr.trans (CHr.trans (CHr.trans A8 A9) A10) A11) A12) A13) A14) A15) A44) A45) A46) A47) A48) A49) A50) A51) (C51.more (k' := 6) (n' := 36) (by decide) (by decide))
  · rw [e9]
    show Endw p e below T15 (mkF m 81 #[.val (.int i0), .val (.long i1), .second, .val (.long i2), .second, .val (.long i3), .second, .val (.long i4), .second, .val (.int (8 : Int32)), .val (.int z8), .val (.int z9), .val (.int z10), .val (.int z11), .val (.int z12), .val (.int z13), .val (.int z14), .val (.int z15), .unset, .unset, .unset] []) _
    refine Endw.st (T' := T15) (g' := (mkF m 97 #[.val (.int i0), .val (.long i1), .second, .val (.long i2), .second, .val (.long i3), .second, .val (.long i4), .second, .val (.int (8 : Int32)), .val (.int z8), .val (.int z9), .val (.int z10), .val (.int z11), .val (.int z12), .val (.int z13), .val (.int z14), .val (.int z15), .unset, .unset, .unset] [(.int z14), (.int z13), (.int z12), (.int z11), (.int z10), (.int z9), (.int z8), (.int (8 : Int32))])) (fun tt_ kk_ => XS.iload C15.here C15.hx rfl (C15.dec at_81) rfl (XS.iload C15.here C15.hx rfl (C15.dec at_83) rfl (XS.iload C15.here C15.hx rfl (C15.dec at_85) rfl (XS.iload C15.here C15.hx rfl (C15.dec at_87) rfl (XS.iload C15.here C15.hx rfl (C15.dec at_89) rfl (XS.iload C15.here C15.hx rfl (C15.dec at_91) rfl (XS.iload C15.here C15.hx rfl (C15.dec at_93) rfl (XS.iload C15.here C15.hx rfl (C15.dec at_95) rfl kk_)))))))) ?_
    refine Endw.st (T' := T15) (g' := (mkF m 99 #[.val (.int i0), .val (.long i1), .second, .val (.long i2), .second, .val (.long i3), .second, .val (.long i4), .second, .val (.int (8 : Int32)), .val (.int z8), .val (.int z9), .val (.int z10), .val (.int z11), .val (.int z12), .val (.int z13), .val (.int z14), .val (.int z15), .unset, .unset, .unset] [(.int z15), (.int z14), (.int z13), (.int z12), (.int z11), (.int z10), (.int z9), (.int z8), (.int (8 : Int32))])) (fun tt_ kk_ => XS.iload C15.here C15.hx rfl (C15.dec at_97) rfl kk_) ?_
    refine C15.static (y := (⟨"com/example/cohabit/cohabit/NumbersIsDecimalPinLaw", "make", "(ICCCCCCCC)Ljava/lang/String;"⟩ : MethodName)) (W := 0) (argsL := [(.int (8 : Int32)), (.int z8), (.int z9), (.int z10), (.int z11), (.int z12), (.int z13), (.int z14), (.int z15)]) (rest := []) (W5 hw) (W6 hw) (W7 hw) (W3 hw) (by decide) (rm_make8 l Z a0 EL G z8 z9 z10 z11 z12 z13 z14 z15 h C15.old pz8 pz9 pz10 pz11 pz12 pz13 pz14 pz15) (fun _ => rfl) rfl all0 (by decide) (by decide) (by decide) (by decide) (lenOf pd_9 rfl) rfl (Nat.le_of_ble_eq_true rfl) rfl at_99 (pc' := 102) rfl ?_
    intro vm52 T52 h52 v52 C52 A52 M52 q52
    obtain ⟨a52, t52, kb52, rfl, K52, ge52, Y52⟩ := q52
    show Endw p e below T52 (mkF m 102 #[.val (.int i0), .val (.long i1), .second, .val (.long i2), .second, .val (.long i3), .second, .val (.long i4), .second, .val (.int (8 : Int32)), .val (.int z8), .val (.int z9), .val (.int z10), .val (.int z11), .val (.int z12), .val (.int z13), .val (.int z14), .val (.int z15), .unset, .unset, .unset] [(.ref a52)]) _
    refine Endw.st (T' := T52) (g' := (mkF m 116 #[.val (.int i0), .val (.long i1), .second, .val (.long i2), .second, .val (.long i3), .second, .val (.long i4), .second, .val (.int (8 : Int32)), .val (.int z8), .val (.int z9), .val (.int z10), .val (.int z11), .val (.int z12), .val (.int z13), .val (.int z14), .val (.int z15), .val (.ref a52), .val (.int (0 : Int32)), .unset] [(.int z8), (.int (0 : Int32))])) (fun tt_ kk_ => XS.astore C52.here C52.hx rfl (C52.dec at_102) rfl rfl (l' := #[.val (.int i0), .val (.long i1), .second, .val (.long i2), .second, .val (.long i3), .second, .val (.long i4), .second, .val (.int (8 : Int32)), .val (.int z8), .val (.int z9), .val (.int z10), .val (.int z11), .val (.int z12), .val (.int z13), .val (.int z14), .val (.int z15), .val (.ref a52), .unset, .unset]) rfl (XS.iconst C52.here C52.hx rfl (C52.dec at_104) (XS.istore C52.here C52.hx rfl (C52.dec at_105) rfl (l' := #[.val (.int i0), .val (.long i1), .second, .val (.long i2), .second, .val (.long i3), .second, .val (.long i4), .second, .val (.int (8 : Int32)), .val (.int z8), .val (.int z9), .val (.int z10), .val (.int z11), .val (.int z12), .val (.int z13), .val (.int z14), .val (.int z15), .val (.ref a52), .val (.int (0 : Int32)), .unset]) rfl (XS.iload C52.here C52.hx rfl (C52.dec at_107) rfl (XS.ifNo C52.here C52.hx rfl (C52.dec at_109) rfl (XT.i0_le_f (by decide)) (XS.iload C52.here C52.hx rfl (C52.dec at_112) rfl (XS.iload C52.here C52.hx rfl (C52.dec at_114) rfl kk_))))))) ?_
    refine C52.static (y := (⟨"com/example/cohabit/cohabit/NumbersIsDecimalPinLaw", "step", "(IC)I"⟩ : MethodName)) (W := 0) (argsL := [(.int (0 : Int32)), (.int z8)]) (rest := []) (W77 hw) (W78 hw) (W79 hw) (W3 hw) (by decide) (rm_step l Z a0 EL G (0 : Int32) z8 h52 C52.old) (fun _ => rfl) rfl all0 (by decide) (by decide) (by decide) (by decide) (lenOf pd_2849432949 rfl) rfl (Nat.le_of_ble_eq_true rfl) rfl at_116 (pc' := 119) rfl ?_
    intro vm53 T53 h53 v53 C53 A53 M53 q53
    obtain ⟨rfl, rfl⟩ := q53
    show Endw p e below T53 (mkF m 119 #[.val (.int i0), .val (.long i1), .second, .val (.long i2), .second, .val (.long i3), .second, .val (.long i4), .second, .val (.int (8 : Int32)), .val (.int z8), .val (.int z9), .val (.int z10), .val (.int z11), .val (.int z12), .val (.int z13), .val (.int z14), .val (.int z15), .val (.ref a52), .val (.int (0 : Int32)), .unset] [(.int (own_step (0 : Int32) z8))]) _
    refine Endw.st (T' := T53) (g' := (mkF m 131 #[.val (.int i0), .val (.long i1), .second, .val (.long i2), .second, .val (.long i3), .second, .val (.long i4), .second, .val (.int (8 : Int32)), .val (.int z8), .val (.int z9), .val (.int z10), .val (.int z11), .val (.int z12), .val (.int z13), .val (.int z14), .val (.int z15), .val (.ref a52), .val (.int (own_step (0 : Int32) z8)), .unset] [(.int z9), (.int (own_step (0 : Int32) z8))])) (fun tt_ kk_ => XS.istore C53.here C53.hx rfl (C53.dec at_119) rfl (l' := #[.val (.int i0), .val (.long i1), .second, .val (.long i2), .second, .val (.long i3), .second, .val (.long i4), .second, .val (.int (8 : Int32)), .val (.int z8), .val (.int z9), .val (.int z10), .val (.int z11), .val (.int z12), .val (.int z13), .val (.int z14), .val (.int z15), .val (.ref a52), .val (.int (own_step (0 : Int32) z8)), .unset]) rfl (XS.iload C53.here C53.hx rfl (C53.dec at_121) rfl (XS.iconst C53.here C53.hx rfl (C53.dec at_123) (XS.icmpNo C53.here C53.hx rfl (C53.dec at_124) rfl (XT.ii_le_f (by decide)) (XS.iload C53.here C53.hx rfl (C53.dec at_127) rfl (XS.iload C53.here C53.hx rfl (C53.dec at_129) rfl kk_)))))) ?_
    refine C53.static (y := (⟨"com/example/cohabit/cohabit/NumbersIsDecimalPinLaw", "step", "(IC)I"⟩ : MethodName)) (W := 0) (argsL := [(.int (own_step (0 : Int32) z8)), (.int z9)]) (rest := []) (W77 hw) (W78 hw) (W79 hw) (W3 hw) (by decide) (rm_step l Z a0 EL G (own_step (0 : Int32) z8) z9 h52 C53.old) (fun _ => rfl) rfl all0 (by decide) (by decide) (by decide) (by decide) (lenOf pd_2849432949 rfl) rfl (Nat.le_of_ble_eq_true rfl) rfl at_131 (pc' := 134) rfl ?_
    intro vm54 T54 h54 v54 C54 A54 M54 q54
    obtain ⟨rfl, rfl⟩ := q54
    show Endw p e below T54 (mkF m 134 #[.val (.int i0), .val (.long i1), .second, .val (.long i2), .second, .val (.long i3), .second, .val (.long i4), .second, .val (.int (8 : Int32)), .val (.int z8), .val (.int z9), .val (.int z10), .val (.int z11), .val (.int z12), .val (.int z13), .val (.int z14), .val (.int z15), .val (.ref a52), .val (.int (own_step (0 : Int32) z8)), .unset] [(.int (own_step (own_step (0 : Int32) z8) z9))]) _
    refine Endw.st (T' := T54) (g' := (mkF m 146 #[.val (.int i0), .val (.long i1), .second, .val (.long i2), .second, .val (.long i3), .second, .val (.long i4), .second, .val (.int (8 : Int32)), .val (.int z8), .val (.int z9), .val (.int z10), .val (.int z11), .val (.int z12), .val (.int z13), .val (.int z14), .val (.int z15), .val (.ref a52), .val (.int (own_step (own_step (0 : Int32) z8) z9)), .unset] [(.int z10), (.int (own_step (own_step (0 : Int32) z8) z9))])) (fun tt_ kk_ => XS.istore C54.here C54.hx rfl (C54.dec at_134) rfl (l' := #[.val (.int i0), .val (.long i1), .second, .val (.long i2), .second, .val (.long i3), .second, .val (.long i4), .second, .val (.int (8 : Int32)), .val (.int z8), .val (.int z9), .val (.int z10), .val (.int z11), .val (.int z12), .val (.int z13), .val (.int z14), .val (.int z15), .val (.ref a52), .val (.int (own_step (own_step (0 : Int32) z8) z9)), .unset]) rfl (XS.iload C54.here C54.hx rfl (C54.dec at_136) rfl (XS.iconst C54.here C54.hx rfl (C54.dec at_138) (XS.icmpNo C54.here C54.hx rfl (C54.dec at_139) rfl (XT.ii_le_f (by decide)) (XS.iload C54.here C54.hx rfl (C54.dec at_142) rfl (XS.iload C54.here C54.hx rfl (C54.dec at_144) rfl kk_)))))) ?_
    refine C54.static (y := (⟨"com/example/cohabit/cohabit/NumbersIsDecimalPinLaw", "step", "(IC)I"⟩ : MethodName)) (W := 0) (argsL := [(.int (own_step (own_step (0 : Int32) z8) z9)), (.int z10)]) (rest := []) (W77 hw) (W78 hw) (W79 hw) (W3 hw) (by decide) (rm_step l Z a0 EL G (own_step (own_step (0 : Int32) z8) z9) z10 h52 C54.old) (fun _ => rfl) rfl all0 (by decide) (by decide) (by decide) (by decide) (lenOf pd_2849432949 rfl) rfl (Nat.le_of_ble_eq_true rfl) rfl at_146 (pc' := 149) rfl ?_
    intro vm55 T55 h55 v55 C55 A55 M55 q55
    obtain ⟨rfl, rfl⟩ := q55
    show Endw p e below T55 (mkF m 149 #[.val (.int i0), .val (.long i1), .second, .val (.long i2), .second, .val (.long i3), .second, .val (.long i4), .second, .val (.int (8 : Int32)), .val (.int z8), .val (.int z9), .val (.int z10), .val (.int z11), .val (.int z12), .val (.int z13), .val (.int z14), .val (.int z15), .val (.ref a52), .val (.int (own_step (own_step (0 : Int32) z8) z9)), .unset] [(.int (own_step (own_step (own_step (0 : Int32) z8) z9) z10))]) _
    refine Endw.st (T' := T55) (g' := (mkF m 161 #[.val (.int i0), .val (.long i1), .second, .val (.long i2), .second, .val (.long i3), .second, .val (.long i4), .second, .val (.int (8 : Int32)), .val (.int z8), .val (.int z9), .val (.int z10), .val (.int z11), .val (.int z12), .val (.int z13), .val (.int z14), .val (.int z15), .val (.ref a52), .val (.int (own_step (own_step (own_step (0 : Int32) z8) z9) z10)), .unset] [(.int z11), (.int (own_step (own_step (own_step (0 : Int32) z8) z9) z10))])) (fun tt_ kk_ => XS.istore C55.here C55.hx rfl (C55.dec at_149) rfl (l' := #[.val (.int i0), .val (.long i1), .second, .val (.long i2), .second, .val (.long i3), .second, .val (.long i4), .second, .val (.int (8 : Int32)), .val (.int z8), .val (.int z9), .val (.int z10), .val (.int z11), .val (.int z12), .val (.int z13), .val (.int z14), .val (.int z15), .val (.ref a52), .val (.int (own_step (own_step (own_step (0 : Int32) z8) z9) z10)), .unset]) rfl (XS.iload C55.here C55.hx rfl (C55.dec at_151) rfl (XS.iconst C55.here C55.hx rfl (C55.dec at_153) (XS.icmpNo C55.here C55.hx rfl (C55.dec at_154) rfl (XT.ii_le_f (by decide)) (XS.iload C55.here C55.hx rfl (C55.dec at_157) rfl (XS.iload C55.here C55.hx rfl (C55.dec at_159) rfl kk_)))))) ?_
    refine C55.static (y := (⟨"com/example/cohabit/cohabit/NumbersIsDecimalPinLaw", "step", "(IC)I"⟩ : MethodName)) (W := 0) (argsL := [(.int (own_step (own_step (own_step (0 : Int32) z8) z9) z10)), (.int z11)]) (rest := []) (W77 hw) (W78 hw) (W79 hw) (W3 hw) (by decide) (rm_step l Z a0 EL G (own_step (own_step (own_step (0 : Int32) z8) z9) z10) z11 h52 C55.old) (fun _ => rfl) rfl all0 (by decide) (by decide) (by decide) (by decide) (lenOf pd_2849432949 rfl) rfl (Nat.le_of_ble_eq_true rfl) rfl at_161 (pc' := 164) rfl ?_
    intro vm56 T56 h56 v56 C56 A56 M56 q56
    obtain ⟨rfl, rfl⟩ := q56
    show Endw p e below T56 (mkF m 164 #[.val (.int i0), .val (.long i1), .second, .val (.long i2), .second, .val (.long i3), .second, .val (.long i4), .second, .val (.int (8 : Int32)), .val (.int z8), .val (.int z9), .val (.int z10), .val (.int z11), .val (.int z12), .val (.int z13), .val (.int z14), .val (.int z15), .val (.ref a52), .val (.int (own_step (own_step (own_step (0 : Int32) z8) z9) z10)), .unset] [(.int (own_step (own_step (own_step (own_step (0 : Int32) z8) z9) z10) z11))]) _
    refine Endw.st (T' := T56) (g' := (mkF m 176 #[.val (.int i0), .val (.long i1), .second, .val (.long i2), .second, .val (.long i3), .second, .val (.long i4), .second, .val (.int (8 : Int32)), .val (.int z8), .val (.int z9), .val (.int z10), .val (.int z11), .val (.int z12), .val (.int z13), .val (.int z14), .val (.int z15), .val (.ref a52), .val (.int (own_step (own_step (own_step (own_step (0 : Int32) z8) z9) z10) z11)), .unset] [(.int z12), (.int (own_step (own_step (own_step (own_step (0 : Int32) z8) z9) z10) z11))])) (fun tt_ kk_ => XS.istore C56.here C56.hx rfl (C56.dec at_164) rfl (l' := #[.val (.int i0), .val (.long i1), .second, .val (.long i2), .second, .val (.long i3), .second, .val (.long i4), .second, .val (.int (8 : Int32)), .val (.int z8), .val (.int z9), .val (.int z10), .val (.int z11), .val (.int z12), .val (.int z13), .val (.int z14), .val (.int z15), .val (.ref a52), .val (.int (own_step (own_step (own_step (own_step (0 : Int32) z8) z9) z10) z11)), .unset]) rfl (XS.iload C56.here C56.hx rfl (C56.dec at_166) rfl (XS.iconst C56.here C56.hx rfl (C56.dec at_168) (XS.icmpNo C56.here C56.hx rfl (C56.dec at_169) rfl (XT.ii_le_f (by decide)) (XS.iload C56.here C56.hx rfl (C56.dec at_172) rfl (XS.iload C56.here C56.hx rfl (C56.dec at_174) rfl kk_)))))) ?_
    refine C56.static (y := (⟨"com/example/cohabit/cohabit/NumbersIsDecimalPinLaw", "step", "(IC)I"⟩ : MethodName)) (W := 0) (argsL := [(.int (own_step (own_step (own_step (own_step (0 : Int32) z8) z9) z10) z11)), (.int z12)]) (rest := []) (W77 hw) (W78 hw) (W79 hw) (W3 hw) (by decide) (rm_step l Z a0 EL G (own_step (own_step (own_step (own_step (0 : Int32) z8) z9) z10) z11) z12 h52 C56.old) (fun _ => rfl) rfl all0 (by decide) (by decide) (by decide) (by decide) (lenOf pd_2849432949 rfl) rfl (Nat.le_of_ble_eq_true rfl) rfl at_176 (pc' := 179) rfl ?_
    intro vm57 T57 h57 v57 C57 A57 M57 q57
    obtain ⟨rfl, rfl⟩ := q57
    show Endw p e below T57 (mkF m 179 #[.val (.int i0), .val (.long i1), .second, .val (.long i2), .second, .val (.long i3), .second, .val (.long i4), .second, .val (.int (8 : Int32)), .val (.int z8), .val (.int z9), .val (.int z10), .val (.int z11), .val (.int z12), .val (.int z13), .val (.int z14), .val (.int z15), .val (.ref a52), .val (.int (own_step (own_step (own_step (own_step (0 : Int32) z8) z9) z10) z11)), .unset] [(.int (own_step (own_step (own_step (own_step (own_step (0 : Int32) z8) z9) z10) z11) z12))]) _
    refine Endw.st (T' := T57) (g' := (mkF m 191 #[.val (.int i0), .val (.long i1), .second, .val (.long i2), .second, .val (.long i3), .second, .val (.long i4), .second, .val (.int (8 : Int32)), .val (.int z8), .val (.int z9), .val (.int z10), .val (.int z11), .val (.int z12), .val (.int z13), .val (.int z14), .val (.int z15), .val (.ref a52), .val (.int (own_step (own_step (own_step (own_step (own_step (0 : Int32) z8) z9) z10) z11) z12)), .unset] [(.int z13), (.int (own_step (own_step (own_step (own_step (own_step (0 : Int32) z8) z9) z10) z11) z12))])) (fun tt_ kk_ => XS.istore C57.here C57.hx rfl (C57.dec at_179) rfl (l' := #[.val (.int i0), .val (.long i1), .second, .val (.long i2), .second, .val (.long i3), .second, .val (.long i4), .second, .val (.int (8 : Int32)), .val (.int z8), .val (.int z9), .val (.int z10), .val (.int z11), .val (.int z12), .val (.int z13), .val (.int z14), .val (.int z15), .val (.ref a52), .val (.int (own_step (own_step (own_step (own_step (own_step (0 : Int32) z8) z9) z10) z11) z12)), .unset]) rfl (XS.iload C57.here C57.hx rfl (C57.dec at_181) rfl (XS.iconst C57.here C57.hx rfl (C57.dec at_183) (XS.icmpNo C57.here C57.hx rfl (C57.dec at_184) rfl (XT.ii_le_f (by decide)) (XS.iload C57.here C57.hx rfl (C57.dec at_187) rfl (XS.iload C57.here C57.hx rfl (C57.dec at_189) rfl kk_)))))) ?_
    refine C57.static (y := (⟨"com/example/cohabit/cohabit/NumbersIsDecimalPinLaw", "step", "(IC)I"⟩ : MethodName)) (W := 0) (argsL := [(.int (own_step (own_step (own_step (own_step (own_step (0 : Int32) z8) z9) z10) z11) z12)), (.int z13)]) (rest := []) (W77 hw) (W78 hw) (W79 hw) (W3 hw) (by decide) (rm_step l Z a0 EL G (own_step (own_step (own_step (own_step (own_step (0 : Int32) z8) z9) z10) z11) z12) z13 h52 C57.old) (fun _ => rfl) rfl all0 (by decide) (by decide) (by decide) (by decide) (lenOf pd_2849432949 rfl) rfl (Nat.le_of_ble_eq_true rfl) rfl at_191 (pc' := 194) rfl ?_
    intro vm58 T58 h58 v58 C58 A58 M58 q58
    obtain ⟨rfl, rfl⟩ := q58
    show Endw p e below T58 (mkF m 194 #[.val (.int i0), .val (.long i1), .second, .val (.long i2), .second, .val (.long i3), .second, .val (.long i4), .second, .val (.int (8 : Int32)), .val (.int z8), .val (.int z9), .val (.int z10), .val (.int z11), .val (.int z12), .val (.int z13), .val (.int z14), .val (.int z15), .val (.ref a52), .val (.int (own_step (own_step (own_step (own_step (own_step (0 : Int32) z8) z9) z10) z11) z12)), .unset] [(.int (own_step (own_step (own_step (own_step (own_step (own_step (0 : Int32) z8) z9) z10) z11) z12) z13))]) _
    refine Endw.st (T' := T58) (g' := (mkF m 207 #[.val (.int i0), .val (.long i1), .second, .val (.long i2), .second, .val (.long i3), .second, .val (.long i4), .second, .val (.int (8 : Int32)), .val (.int z8), .val (.int z9), .val (.int z10), .val (.int z11), .val (.int z12), .val (.int z13), .val (.int z14), .val (.int z15), .val (.ref a52), .val (.int (own_step (own_step (own_step (own_step (own_step (own_step (0 : Int32) z8) z9) z10) z11) z12) z13)), .unset] [(.int z14), (.int (own_step (own_step (own_step (own_step (own_step (own_step (0 : Int32) z8) z9) z10) z11) z12) z13))])) (fun tt_ kk_ => XS.istore C58.here C58.hx rfl (C58.dec at_194) rfl (l' := #[.val (.int i0), .val (.long i1), .second, .val (.long i2), .second, .val (.long i3), .second, .val (.long i4), .second, .val (.int (8 : Int32)), .val (.int z8), .val (.int z9), .val (.int z10), .val (.int z11), .val (.int z12), .val (.int z13), .val (.int z14), .val (.int z15), .val (.ref a52), .val (.int (own_step (own_step (own_step (own_step (own_step (own_step (0 : Int32) z8) z9) z10) z11) z12) z13)), .unset]) rfl (XS.iload C58.here C58.hx rfl (C58.dec at_196) rfl (XS.bipush C58.here C58.hx rfl (C58.dec at_198) (XS.icmpNo C58.here C58.hx rfl (C58.dec at_200) rfl (XT.ii_le_f (by decide)) (XS.iload C58.here C58.hx rfl (C58.dec at_203) rfl (XS.iload C58.here C58.hx rfl (C58.dec at_205) rfl kk_)))))) ?_
    refine C58.static (y := (⟨"com/example/cohabit/cohabit/NumbersIsDecimalPinLaw", "step", "(IC)I"⟩ : MethodName)) (W := 0) (argsL := [(.int (own_step (own_step (own_step (own_step (own_step (own_step (0 : Int32) z8) z9) z10) z11) z12) z13)), (.int z14)]) (rest := []) (W77 hw) (W78 hw) (W79 hw) (W3 hw) (by decide) (rm_step l Z a0 EL G (own_step (own_step (own_step (own_step (own_step (own_step (0 : Int32) z8) z9) z10) z11) z12) z13) z14 h52 C58.old) (fun _ => rfl) rfl all0 (by decide) (by decide) (by decide) (by decide) (lenOf pd_2849432949 rfl) rfl (Nat.le_of_ble_eq_true rfl) rfl at_207 (pc' := 210) rfl ?_
    intro vm59 T59 h59 v59 C59 A59 M59 q59
    obtain ⟨rfl, rfl⟩ := q59
    show Endw p e below T59 (mkF m 210 #[.val (.int i0), .val (.long i1), .second, .val (.long i2), .second, .val (.long i3), .second, .val (.long i4), .second, .val (.int (8 : Int32)), .val (.int z8), .val (.int z9), .val (.int z10), .val (.int z11), .val (.int z12), .val (.int z13), .val (.int z14), .val (.int z15), .val (.ref a52), .val (.int (own_step (own_step (own_step (own_step (own_step (own_step (0 : Int32) z8) z9) z10) z11) z12) z13)), .unset] [(.int (own_step (own_step (own_step (own_step (own_step (own_step (own_step (0 : Int32) z8) z9) z10) z11) z12) z13) z14))]) _
    refine Endw.st (T' := T59) (g' := (mkF m 223 #[.val (.int i0), .val (.long i1), .second, .val (.long i2), .second, .val (.long i3), .second, .val (.long i4), .second, .val (.int (8 : Int32)), .val (.int z8), .val (.int z9), .val (.int z10), .val (.int z11), .val (.int z12), .val (.int z13), .val (.int z14), .val (.int z15), .val (.ref a52), .val (.int (own_step (own_step (own_step (own_step (own_step (own_step (own_step (0 : Int32) z8) z9) z10) z11) z12) z13) z14)), .unset] [(.int z15), (.int (own_step (own_step (own_step (own_step (own_step (own_step (own_step (0 : Int32) z8) z9) z10) z11) z12) z13) z14))])) (fun tt_ kk_ => XS.istore C59.here C59.hx rfl (C59.dec at_210) rfl (l' := #[.val (.int i0), .val (.long i1), .second, .val (.long i2), .second, .val (.long i3), .second, .val (.long i4), .second, .val (.int (8 : Int32)), .val (.int z8), .val (.int z9), .val (.int z10), .val (.int z11), .val (.int z12), .val (.int z13), .val (.int z14), .val (.int z15), .val (.ref a52), .val (.int (own_step (own_step (own_step (own_step (own_step (own_step (own_step (0 : Int32) z8) z9) z10) z11) z12) z13) z14)), .unset]) rfl (XS.iload C59.here C59.hx rfl (C59.dec at_212) rfl (XS.bipush C59.here C59.hx rfl (C59.dec at_214) (XS.icmpNo C59.here C59.hx rfl (C59.dec at_216) rfl (XT.ii_le_f (by decide)) (XS.iload C59.here C59.hx rfl (C59.dec at_219) rfl (XS.iload C59.here C59.hx rfl (C59.dec at_221) rfl kk_)))))) ?_
    refine C59.static (y := (⟨"com/example/cohabit/cohabit/NumbersIsDecimalPinLaw", "step", "(IC)I"⟩ : MethodName)) (W := 0) (argsL := [(.int (own_step (own_step (own_step (own_step (own_step (own_step (own_step (0 : Int32) z8) z9) z10) z11) z12) z13) z14)), (.int z15)]) (rest := []) (W77 hw) (W78 hw) (W79 hw) (W3 hw) (by decide) (rm_step l Z a0 EL G (own_step (own_step (own_step (own_step (own_step (own_step (own_step (0 : Int32) z8) z9) z10) z11) z12) z13) z14) z15 h52 C59.old) (fun _ => rfl) rfl all0 (by decide) (by decide) (by decide) (by decide) (lenOf pd_2849432949 rfl) rfl (Nat.le_of_ble_eq_true rfl) rfl at_223 (pc' := 226) rfl ?_
    intro vm60 T60 h60 v60 C60 A60 M60 q60
    obtain ⟨rfl, rfl⟩ := q60
    show Endw p e below T60 (mkF m 226 #[.val (.int i0), .val (.long i1), .second, .val (.long i2), .second, .val (.long i3), .second, .val (.long i4), .second, .val (.int (8 : Int32)), .val (.int z8), .val (.int z9), .val (.int z10), .val (.int z11), .val (.int z12), .val (.int z13), .val (.int z14), .val (.int z15), .val (.ref a52), .val (.int (own_step (own_step (own_step (own_step (own_step (own_step (own_step (0 : Int32) z8) z9) z10) z11) z12) z13) z14)), .unset] [(.int (own_step (own_step (own_step (own_step (own_step (own_step (own_step (own_step (0 : Int32) z8) z9) z10) z11) z12) z13) z14) z15))]) _
    refine Endw.st (T' := T60) (g' := (mkF m 228 #[.val (.int i0), .val (.long i1), .second, .val (.long i2), .second, .val (.long i3), .second, .val (.long i4), .second, .val (.int (8 : Int32)), .val (.int z8), .val (.int z9), .val (.int z10), .val (.int z11), .val (.int z12), .val (.int z13), .val (.int z14), .val (.int z15), .val (.ref a52), .val (.int (own_step (own_step (own_step (own_step (own_step (own_step (own_step (own_step (0 : Int32) z8) z9) z10) z11) z12) z13) z14) z15)), .unset] [])) (fun tt_ kk_ => XS.istore C60.here C60.hx rfl (C60.dec at_226) rfl (l' := #[.val (.int i0), .val (.long i1), .second, .val (.long i2), .second, .val (.long i3), .second, .val (.long i4), .second, .val (.int (8 : Int32)), .val (.int z8), .val (.int z9), .val (.int z10), .val (.int z11), .val (.int z12), .val (.int z13), .val (.int z14), .val (.int z15), .val (.ref a52), .val (.int (own_step (own_step (own_step (own_step (own_step (own_step (own_step (own_step (0 : Int32) z8) z9) z10) z11) z12) z13) z14) z15)), .unset]) rfl kk_) ?_
    exact J228 (.val (.int (8 : Int32))) (.val (.int z8)) (.val (.int z9)) (.val (.int z10)) (.val (.int z11)) (.val (.int z12)) (.val (.int z13)) (.val (.int z14)) (.val (.int z15)) a52 t52 kb52 [z8, z9, z10, z11, z12, z13, z14, z15] (own_step (own_step (own_step (own_step (own_step (own_step (own_step (own_step (0 : Int32) z8) z9) z10) z11) z12) z13) z14) z15) vm60 T60 h52 Y52 (Nat.le_of_ble_eq_true rfl) (by have q := own_run0 [z8, z9, z10, z11, z12, z13, z14, z15]; simp only [List.foldl_cons, List.foldl_nil] at q; exact q) (Keep.trans (Keep.refl h []) K52 all0) (CHr.trans (CHr.trans (CHr.trans (CHr.trans (CHr.trans (CHr.trans (CHr.trans (CHr.trans (CHr.trans (CHr.trans (CHr.trans (CHr.trans (CHr.trans (CHr.trans (CHr.trans (CHr.trans A8 A9) A10) A11) A12) A13) A14) A15) A52) A53) A54) A55) A56) A57) A58) A59) A60) (C60.more (k' := 6) (n' := 36) (by decide) (by decide))
set_option maxRecDepth 65536 in
set_option maxHeartbeats 40000000 in
theorem comes_1 {Post : Tables → Env → Array Value → State → Outcome → State → Prop} (hpost : ∀ tb e args s v u, (limb_1_1.after args s (.returned v) u = true ∧ limb_1_2.after args s (.returned v) u = true ∧ True) → FramedW s (.returned v) u (Jvm.fieldLocs frame_1_writes args s ++ Jvm.arrayLocs frame_1_arrays args s ++ Jvm.staticLocs frame_1_statics s) 24 1216 → Post tb e args s (.returned v) u) :
    ArmFor flags0 classFile x code maxLocals ret World_1 tables_1 room_1 Calls_1 rest_1 Pre_1 Post := by
  intro l hfl _ _ p e ha hc hk s m args below hf hA hF happ hP
  obtain ⟨hcalls, hrest, hpre⟩ := hP
  obtain ⟨-, -, -, hnamed, -, -, -, hat⟩ := (Spec.applies_iff hf).mp happ
  obtain ⟨hg, hn⟩ := and_e (Cond.before_iff.mp (show (Jvm.Cond.and given_1 narrow_1).before args s = true from hpre))
  obtain ⟨h1, g0⟩ := and_e hg
  obtain ⟨a0, g1⟩ := and_e g0
  obtain ⟨a1, g2⟩ := and_e g1
  obtain ⟨a2, g3⟩ := and_e g2
  obtain ⟨a3, g4⟩ := and_e g3
  have a4 := g4
  obtain ⟨w0, w1, w2, w3, w4, rfl⟩ : ∃ w0 w1 w2 w3 w4 : Value, args = #[w0, w1, w2, w3, w4] := by
    have hs : args.size = 5 := by simpa [Cond.value, given_1] using h1
    obtain ⟨L⟩ := args
    match L, hs with
    | [w0, w1, w2, w3, w4], _ => exact ⟨w0, w1, w2, w3, w4, rfl⟩
  have hw := fun d (hd : d ∈ tables_1) => atoms_spec (ws := Jvm.Cond.code x code maxLocals ret :: tables_1) hat d (List.mem_cons_of_mem _ hd)
  obtain ⟨hsets, hown0⟩ := atoms_of _ (rest_1_c_eq ▸ (show rest_1_c.before _ s = true from hrest))
  obtain ⟨i0, e0⟩ := is_v a0
  obtain rfl : w0 = (.int i0) := Option.some.inj e0
  obtain ⟨i1, e1⟩ := isL_v a1
  obtain rfl : w1 = (.long i1) := Option.some.inj e1
  obtain ⟨i2, e2⟩ := isL_v a2
  obtain rfl : w2 = (.long i2) := Option.some.inj e2
  obtain ⟨i3, e3⟩ := isL_v a3
  obtain rfl : w3 = (.long i3) := Option.some.inj e3
  obtain ⟨i4, e4⟩ := isL_v a4
  obtain rfl : w4 = (.long i4) := Option.some.inj e4
  have n5 := not_v (Cond.before_iff.mp (hsets _ (List.mem_of_getElem? (i := 2) rfl)))
  obtain ⟨zc, ec⟩ := is_v (Cond.before_iff.mp (hsets _ (List.mem_of_getElem? (i := 1) rfl)))
  have Sc : Sta s s.heap "java/lang/String" "COMPACT_STRINGS" "Z" (.int zc) := Sta.start ec (Or.inl (hsets _ (List.mem_of_getElem? (i := 0) rfl)))
  have hzc : ¬ (zc = (0 : Int32)) := gotF (Cond.eq_ints ec (Term.int_eval (0))) n5
  obtain ⟨vf, ef, rf⟩ := isR_v (Cond.before_iff.mp (hsets _ (List.mem_of_getElem? (i := 8) rfl)))
  have Sf : Sta s s.heap "jdk/internal/util/Preconditions" "SIOOBE_FORMATTER" "Ljava/util/function/BiFunction;" vf := Sta.start ef (Or.inl (hsets _ (List.mem_of_getElem? (i := 7) rfl)))
  have Sa : Sta s s.heap "java/lang/StringUTF16" "$assertionsDisabled" "Z" (.int 1) := Sta.start (own_eqInt (Cond.before_iff.mp (hsets _ (List.mem_of_getElem? (i := 12) rfl)))) (Or.inl (hsets _ (List.mem_of_getElem? (i := 11) rfl)))
  have Sh : Sta s s.heap "java/lang/StringUTF16" "HI_BYTE_SHIFT" "I" (.int 0) := Sta.start (own_eqInt (Cond.before_iff.mp (hsets _ (List.mem_of_getElem? (i := 15) rfl)))) (Or.inl (hsets _ (List.mem_of_getElem? (i := 14) rfl)))
  have Sl : Sta s s.heap "java/lang/StringUTF16" "LO_BYTE_SHIFT" "I" (.int 8) := Sta.start (own_eqInt (Cond.before_iff.mp (hsets _ (List.mem_of_getElem? (i := 18) rfl)))) (Or.inl (hsets _ (List.mem_of_getElem? (i := 17) rfl)))
  have hEW : EW s #[(.int i0), (.long i1), (.long i2), (.long i3), (.long i4)] consts_1 := (EW.cons (W22 hw) (by decide) EW.nil)
  have hG : Glob s #[(.int i0), (.long i1), (.long i2), (.long i3), (.long i4)] consts_1 := ⟨hw, hEW, rfl, ⟨zc, Sc, hzc⟩, ⟨vf, Sf, rf⟩, Sa, Sh, Sl⟩
  have hCH : CHv s consts_1 s.vm s.heap := CHv.start hEW hcalls.1 (hsets _ (List.mem_of_getElem? (i := 2) rfl)) (W23 hw) (W9 hw)
  obtain ⟨n, o, h1, h2, h3, v, L, rfl, ⟨rfl, N, -⟩, ⟨-, hwm⟩, hq⟩ := rm_law l s _ consts_1 hG i0 i1 i2 i3 i4 s.heap ⟨Nat.le_refl _, fun _ _ q => q⟩ p e ha hc hk s m _ below hf ((Spec.applies_iff_loose hf).mp happ).1 ⟨rfl, State.Warmed39.refl s, rfl, hCH, all0⟩ trivial
  refine ⟨n, _, h1, h2, h3, hpost _ _ _ _ _ _ ⟨Cond.after_iff.mpr rfl, Cond.after_iff.mpr (eq_i res_at (Term.int_eval (1)) rfl), trivial⟩ ⟨hq.1, hq.2.1, hq.2.2.1, (hq.2.2.2.sift fun y hy => Or.inr (N y hy)).mono (by decide) (by decide)⟩⟩
theorem main_1_1 : Claimed_1_1 := comes_1 fun _ _ _ _ _ _ h hF => ⟨h.1, hF⟩
theorem main_1_2 : Claimed_1_2 := comes_1 fun _ _ _ _ _ _ h hF => ⟨h.2.1, hF⟩
end Jvm.Pilot.@@N@@
namespace Jvm.Pilot.@@N@@
open Jvm Jvm.ClassFile Sem Op Lib Jvm.Free Jvm.Stand Jvm.Pilot.@@N@@.Jvm.D
/-! MADE BY PROGRAM (witnessworld.py) out of the Statement's table words and the real class files: 20 classes; the members and pool entries that the words name. The judged class is class 1, her method 1. -/
namespace start1
open Jvm.ClassFile
def u (s : String) : CpInfo := .utf8 (stringToUtf16 s)
/-- a pool by its gaps: so many unusable entries, then the entry; so many at the end -/
def gap : Nat → List CpInfo → List CpInfo
  | 0, r => r
  | n + 1, r => .unusable :: gap n r
def poolList (es : List (Nat × CpInfo)) (last : Nat) : List CpInfo := es.foldr (fun e r => gap e.1 (e.2 :: r)) (gap last [])
def pool (es : List (Nat × CpInfo)) (last : Nat) : Array CpInfo := ⟨poolList es last⟩
def fileOf (pool : Array CpInfo) (this : Nat) (attrs : Array Attribute := #[]) (ms : Array MethodInfo := #[]) (fl : Nat := 33) (sup : Nat := 0) (ifs : Array Nat := #[]) (fds : Array FieldInfo := #[]) : ClassFile where
  minorVersion := 0
  majorVersion := 65
  constantPool := pool
  accessFlags := fl
  thisClass := this
  superClass := sup
  interfaces := ifs
  fields := fds
  methods := ms
  attributes := attrs
def plain (name : String) (sup : Option ClassId) : Class where
  name := name
  kind := .ordinary
  loader := none
  accessFlags := 33
  super := sup
  interfaces := #[]
  cf := none
  fields := #[]
  methods := #[]
  instanceTypes := #[]
  staticTypes := #[]
  resolved := #[]
  callSites := []
  init := .initialized
  statics := none
  mirror := none

def pool0 : Array CpInfo := pool [(5, u "<init>"), (0, u "()V"), (1, .class_ 10), (1, u "java/lang/Object")] 113

def k0c0 : Code := { maxStack := 0, maxLocals := 1, code := object_method_1_code, exceptionTable := #[], attributes := #[] }
def k0m0 : Method := { name := "<init>", desc := "()V", sig := { parameters := [], returnType := none }, accessFlags := 1, code := some k0c0 }
/-- java/lang/Object -/
def k0 : Class := { plain "java/lang/Object" none with
  accessFlags := 33
  interfaces := #[]
  cf := some (fileOf pool0 8 #[] #[{ accessFlags := 1, nameIndex := 5, descriptorIndex := 6, attributes := #[] }] 33 0 #[] #[])
  fields := #[]
  methods := #[k0m0]
  instanceTypes := #[]
  staticTypes := #[]
  resolved := Array.replicate 124 none
  statics := none }

def pool1 : Array CpInfo := pool [(2, .class_ 4), (1, u "java/lang/Object"), (0, u "<init>"), (0, u "()V"), (0, .integer 2147483647), (0, .methodref 9 10), (0, .class_ 11), (0, .nameAndType 12 13), (0, u "com/example/cohabit/cohabit/NumbersIsDecimalPinLaw"), (0, u "ch"), (0, u "(I)C"), (0, .methodref 9 15), (0, .nameAndType 16 17), (0, u "make"), (0, u "(ICCCCCCCC)Ljava/lang/String;"), (0, .methodref 9 19), (0, .nameAndType 20 21), (0, u "step"), (0, u "(IC)I"), (0, .methodref 23 24), (0, .class_ 25), (0, .nameAndType 26 27), (0, u "com/example/cohabit/cohabit/Numbers"), (0, u "isDecimal"), (0, u "(Ljava/lang/String;)Z"), (0, .class_ 29), (0, u "java/lang/String"), (0, .methodref 28 31), (0, .nameAndType 5 32), (0, u "([C)V"), (0, .methodref 9 34), (0, .nameAndType 35 36), (0, u "digit"), (0, u "(C)Z"), (0, .methodref 9 38), (0, .nameAndType 39 36), (0, u "sign"), (0, .methodref 9 41), (0, .nameAndType 42 36), (0, u "expo"), (2, u "law"), (0, u "(IJJJJ)Z")] 3

def k1m0 : Method := { name := "<init>", desc := "()V", sig := { parameters := [], returnType := none }, accessFlags := 2, code := none }
def k1c1 : Code := { maxStack := 9, maxLocals := 21, code := code, exceptionTable := #[], attributes := #[] }
def k1m1 : Method := { name := "law", desc := "(IJJJJ)Z", sig := { parameters := [.int, .long, .long, .long, .long], returnType := some .boolean }, accessFlags := 9, code := some k1c1 }
def k1c2 : Code := { maxStack := 3, maxLocals := 2, code := method_3_code, exceptionTable := #[], attributes := #[] }
def k1m2 : Method := { name := "ch", desc := "(I)C", sig := { parameters := [.int], returnType := some .char }, accessFlags := 10, code := some k1c2 }
def k1c3 : Code := { maxStack := 6, maxLocals := 9, code := method_4_code, exceptionTable := #[], attributes := #[] }
def k1m3 : Method := { name := "make", desc := "(ICCCCCCCC)Ljava/lang/String;", sig := { parameters := [.int, .char, .char, .char, .char, .char, .char, .char, .char], returnType := some (.object "java/lang/String") }, accessFlags := 10, code := some k1c3 }
def k1c4 : Code := { maxStack := 2, maxLocals := 1, code := method_5_code, exceptionTable := #[], attributes := #[] }
def k1m4 : Method := { name := "digit", desc := "(C)Z", sig := { parameters := [.char], returnType := some .boolean }, accessFlags := 10, code := some k1c4 }
def k1c5 : Code := { maxStack := 2, maxLocals := 1, code := method_6_code, exceptionTable := #[], attributes := #[] }
def k1m5 : Method := { name := "sign", desc := "(C)Z", sig := { parameters := [.char], returnType := some .boolean }, accessFlags := 10, code := some k1c5 }
def k1c6 : Code := { maxStack := 2, maxLocals := 1, code := method_7_code, exceptionTable := #[], attributes := #[] }
def k1m6 : Method := { name := "expo", desc := "(C)Z", sig := { parameters := [.char], returnType := some .boolean }, accessFlags := 10, code := some k1c6 }
def k1c7 : Code := { maxStack := 2, maxLocals := 2, code := method_8_code, exceptionTable := #[], attributes := #[] }
def k1m7 : Method := { name := "step", desc := "(IC)I", sig := { parameters := [.int, .char], returnType := some .int }, accessFlags := 10, code := some k1c7 }
/-- com/example/cohabit/cohabit/NumbersIsDecimalPinLaw -/
def k1 : Class := { plain "com/example/cohabit/cohabit/NumbersIsDecimalPinLaw" (some 0) with
  accessFlags := 49
  interfaces := #[]
  cf := some (fileOf pool1 9 #[] #[{ accessFlags := 2, nameIndex := 5, descriptorIndex := 6, attributes := #[] }, { accessFlags := 9, nameIndex := 45, descriptorIndex := 46, attributes := #[] }, { accessFlags := 10, nameIndex := 12, descriptorIndex := 13, attributes := #[] }, { accessFlags := 10, nameIndex := 16, descriptorIndex := 17, attributes := #[] }, { accessFlags := 10, nameIndex := 35, descriptorIndex := 36, attributes := #[] }, { accessFlags := 10, nameIndex := 39, descriptorIndex := 36, attributes := #[] }, { accessFlags := 10, nameIndex := 42, descriptorIndex := 36, attributes := #[] }, { accessFlags := 10, nameIndex := 20, descriptorIndex := 21, attributes := #[] }] 49 2 #[] #[])
  fields := #[]
  methods := #[k1m0, k1m1, k1m2, k1m3, k1m4, k1m5, k1m6, k1m7]
  instanceTypes := #[]
  staticTypes := #[]
  resolved := Array.replicate 50 none
  statics := none }

def pool2 : Array CpInfo := pool [(1, .class_ 2), (0, u "java/io/Serializable"), (0, .class_ 4), (0, u "java/lang/Object")] 2

/-- java/io/Serializable -/
def k2 : Class := { plain "java/io/Serializable" (some 0) with
  accessFlags := 1537
  interfaces := #[]
  cf := some (fileOf pool2 1 #[] #[] 1537 3 #[] #[])
  fields := #[]
  methods := #[]
  instanceTypes := #[]
  staticTypes := #[]
  resolved := Array.replicate 7 none
  statics := none }

def pool3 : Array CpInfo := pool [(1, .class_ 2), (0, u "java/lang/Comparable"), (0, .class_ 4), (0, u "java/lang/Object")] 7

/-- java/lang/Comparable -/
def k3 : Class := { plain "java/lang/Comparable" (some 0) with
  accessFlags := 1537
  interfaces := #[]
  cf := some (fileOf pool3 1 #[] #[] 1537 3 #[] #[])
  fields := #[]
  methods := #[]
  instanceTypes := #[]
  staticTypes := #[]
  resolved := Array.replicate 12 none
  statics := none }

def pool4 : Array CpInfo := pool [(2, .class_ 4), (1, u "java/lang/CharSequence"), (42, .class_ 48), (0, u "java/lang/CharSequence$1CodePointIterator"), (10, .class_ 60), (0, u "java/lang/CharSequence$1CharIterator"), (5, .class_ 67), (0, u "java/lang/Object")] 63

/-- java/lang/CharSequence -/
def k4 : Class := { plain "java/lang/CharSequence" (some 0) with
  accessFlags := 1537
  interfaces := #[]
  cf := some (fileOf pool4 2 #[.nestMembers #[47, 59]] #[] 1537 66 #[] #[])
  fields := #[]
  methods := #[]
  instanceTypes := #[]
  staticTypes := #[]
  resolved := Array.replicate 131 none
  statics := none }

def pool5 : Array CpInfo := pool [(1, .class_ 2), (0, u "java/lang/constant/Constable"), (0, .class_ 4), (0, u "java/lang/Object")] 6

/-- java/lang/constant/Constable -/
def k5 : Class := { plain "java/lang/constant/Constable" (some 0) with
  accessFlags := 1537
  interfaces := #[]
  cf := some (fileOf pool5 1 #[] #[] 1537 3 #[] #[])
  fields := #[]
  methods := #[]
  instanceTypes := #[]
  staticTypes := #[]
  resolved := Array.replicate 11 none
  statics := none }

def pool6 : Array CpInfo := pool [(1, .class_ 2), (0, u "java/lang/constant/ConstantDesc"), (0, .class_ 4), (0, u "java/lang/Object")] 32

/-- java/lang/constant/ConstantDesc -/
def k6 : Class := { plain "java/lang/constant/ConstantDesc" (some 0) with
  accessFlags := 1537
  interfaces := #[]
  cf := some (fileOf pool6 1 #[] #[] 1537 3 #[] #[])
  fields := #[]
  methods := #[]
  instanceTypes := #[]
  staticTypes := #[]
  resolved := Array.replicate 37 none
  statics := none }

def pool7 : Array CpInfo := pool [(1, .methodref 2 3), (0, .class_ 4), (0, .nameAndType 5 6), (0, u "java/lang/Object"), (0, u "<init>"), (0, u "()V"), (0, .string 8), (0, u ""), (0, .fieldref 10 11), (0, .class_ 12), (0, .nameAndType 13 14), (0, u "java/lang/String"), (0, u "value"), (0, u "[B"), (0, .fieldref 10 16), (0, .nameAndType 17 18), (0, u "coder"), (0, u "B"), (2, u "hash"), (0, u "I"), (2, u "hashIsZero"), (0, u "Z"), (0, .methodref 10 28), (0, .nameAndType 5 29), (0, u "([CIILjava/lang/Void;)V"), (8, .fieldref 10 39), (0, .nameAndType 40 26), (0, u "COMPACT_STRINGS"), (1, .class_ 44), (1, u "java/lang/StringUTF16"), (0, u "compress"), (1, .methodref 42 48), (0, .nameAndType 49 50), (0, u "coderFromArrayLen"), (0, u "([BI)B"), (56, .class_ 109), (1, u "java/lang/StringLatin1"), (32, u "()Z"), (34, .methodref 42 178), (0, .nameAndType 45 179), (0, u "([CII)[B"), (154, u "()I"), (0, .methodref 10 336), (0, .nameAndType 17 337), (0, u "()B"), (25, u "([BI)C"), (27, u "(II)V"), (35, u "(I)C"), (64, .methodref 10 493), (0, .nameAndType 494 142), (0, u "isLatin1"), (0, .methodref 107 496), (0, .nameAndType 497 363), (0, u "charAt"), (0, .methodref 42 496), (2, u "checkIndex"), (5, u "length"), (67, .class_ 576), (0, u "java/lang/CharSequence"), (22, u "CASE_INSENSITIVE_ORDER"), (0, u "Ljava/util/Comparator;"), (409, u "([C)V"), (42, .fieldref 1054 1055), (0, .class_ 1056), (0, .nameAndType 1057 1058), (0, u "jdk/internal/util/Preconditions"), (0, u "SIOOBE_FORMATTER"), (0, u "Ljava/util/function/BiFunction;"), (0, .methodref 1054 1060), (0, .nameAndType 501 1061), (0, u "(IILjava/util/function/BiFunction;)I"), (39, u "serialPersistentFields"), (0, u "[Ljava/io/ObjectStreamField;"), (0, .class_ 1104), (0, u "java/lang/String$CaseInsensitiveComparator"), (1, .class_ 1107), (0, u "java/io/Serializable"), (0, .class_ 1109), (0, u "java/lang/Comparable"), (0, .class_ 1111), (0, u "java/lang/constant/Constable"), (0, .class_ 1113), (0, u "java/lang/constant/ConstantDesc"), (2, u "serialVersionUID"), (0, u "J"), (3, u "REPL"), (0, u "C"), (2, u "LATIN1"), (1, u "UTF16")] 323

def k7m0 : Method := { name := "<init>", desc := "()V", sig := { parameters := [], returnType := none }, accessFlags := 1, code := none }
def k7c1 : Code := { maxStack := 5, maxLocals := 2, code := jdk_42_method_3_code, exceptionTable := #[], attributes := #[] }
def k7m1 : Method := { name := "<init>", desc := "([C)V", sig := { parameters := [(.array .char)], returnType := none }, accessFlags := 1, code := some k7c1 }
def k7c2 : Code := { maxStack := 2, maxLocals := 1, code := jdk_42_method_54_code, exceptionTable := #[], attributes := #[] }
def k7m2 : Method := { name := "length", desc := "()I", sig := { parameters := [], returnType := some .int }, accessFlags := 1, code := some k7c2 }
def k7c3 : Code := { maxStack := 2, maxLocals := 2, code := jdk_42_method_56_code, exceptionTable := #[], attributes := #[] }
def k7m3 : Method := { name := "charAt", desc := "(I)C", sig := { parameters := [.int], returnType := some .char }, accessFlags := 1, code := some k7c3 }
def k7c4 : Code := { maxStack := 4, maxLocals := 6, code := jdk_42_method_149_code, exceptionTable := #[], attributes := #[] }
def k7m4 : Method := { name := "<init>", desc := "([CIILjava/lang/Void;)V", sig := { parameters := [(.array .char), .int, .int, (.object "java/lang/Void")], returnType := none }, accessFlags := 2, code := some k7c4 }
def k7c5 : Code := { maxStack := 1, maxLocals := 1, code := jdk_42_method_152_code, exceptionTable := #[], attributes := #[] }
def k7m5 : Method := { name := "coder", desc := "()B", sig := { parameters := [], returnType := some .byte }, accessFlags := 0, code := some k7c5 }
def k7c6 : Code := { maxStack := 1, maxLocals := 1, code := jdk_42_method_154_code, exceptionTable := #[], attributes := #[] }
def k7m6 : Method := { name := "isLatin1", desc := "()Z", sig := { parameters := [], returnType := some .boolean }, accessFlags := 0, code := some k7c6 }
def k7c7 : Code := { maxStack := 3, maxLocals := 2, code := jdk_42_method_155_code, exceptionTable := #[], attributes := #[] }
def k7m7 : Method := { name := "checkIndex", desc := "(II)V", sig := { parameters := [.int, .int], returnType := none }, accessFlags := 8, code := some k7c7 }
/-- java/lang/String -/
def k7 : Class := { plain "java/lang/String" (some 0) with
  accessFlags := 49
  interfaces := #[2, 3, 4, 5, 6]
  cf := some (fileOf pool7 10 #[.nestMembers #[1103]] #[{ accessFlags := 1, nameIndex := 5, descriptorIndex := 6, attributes := #[] }, { accessFlags := 1, nameIndex := 5, descriptorIndex := 1010, attributes := #[] }, { accessFlags := 1, nameIndex := 507, descriptorIndex := 334, attributes := #[] }, { accessFlags := 1, nameIndex := 497, descriptorIndex := 427, attributes := #[] }, { accessFlags := 2, nameIndex := 5, descriptorIndex := 29, attributes := #[] }, { accessFlags := 0, nameIndex := 17, descriptorIndex := 337, attributes := #[] }, { accessFlags := 0, nameIndex := 494, descriptorIndex := 142, attributes := #[] }, { accessFlags := 8, nameIndex := 501, descriptorIndex := 391, attributes := #[] }] 49 2 #[1106, 1108, 575, 1110, 1112] #[{ accessFlags := 18, nameIndex := 13, descriptorIndex := 14, attributes := #[] }, { accessFlags := 18, nameIndex := 17, descriptorIndex := 18, attributes := #[] }, { accessFlags := 2, nameIndex := 21, descriptorIndex := 22, attributes := #[] }, { accessFlags := 2, nameIndex := 25, descriptorIndex := 26, attributes := #[] }, { accessFlags := 26, nameIndex := 1116, descriptorIndex := 1117, attributes := #[] }, { accessFlags := 24, nameIndex := 40, descriptorIndex := 26, attributes := #[] }, { accessFlags := 26, nameIndex := 1101, descriptorIndex := 1102, attributes := #[] }, { accessFlags := 26, nameIndex := 1121, descriptorIndex := 1122, attributes := #[] }, { accessFlags := 25, nameIndex := 599, descriptorIndex := 600, attributes := #[] }, { accessFlags := 24, nameIndex := 1125, descriptorIndex := 18, attributes := #[] }, { accessFlags := 24, nameIndex := 1127, descriptorIndex := 18, attributes := #[] }])
  fields := #[{ name := "value", type := (.array .byte), accessFlags := 18, slot := 0, constantValue := 0 }, { name := "coder", type := .byte, accessFlags := 18, slot := 1, constantValue := 0 }, { name := "hash", type := .int, accessFlags := 2, slot := 2, constantValue := 0 }, { name := "hashIsZero", type := .boolean, accessFlags := 2, slot := 3, constantValue := 0 }, { name := "serialVersionUID", type := .long, accessFlags := 26, slot := 0, constantValue := 0 }, { name := "COMPACT_STRINGS", type := .boolean, accessFlags := 24, slot := 1, constantValue := 0 }, { name := "serialPersistentFields", type := (.array (.object "java/io/ObjectStreamField")), accessFlags := 26, slot := 2, constantValue := 0 }, { name := "REPL", type := .char, accessFlags := 26, slot := 3, constantValue := 0 }, { name := "CASE_INSENSITIVE_ORDER", type := (.object "java/util/Comparator"), accessFlags := 25, slot := 4, constantValue := 0 }, { name := "LATIN1", type := .byte, accessFlags := 24, slot := 5, constantValue := 0 }, { name := "UTF16", type := .byte, accessFlags := 24, slot := 6, constantValue := 0 }]
  methods := #[k7m0, k7m1, k7m2, k7m3, k7m4, k7m5, k7m6, k7m7]
  instanceTypes := #[(.array .byte), .byte, .int, .boolean]
  staticTypes := #[.long, .boolean, (.array (.object "java/io/ObjectStreamField")), .char, (.object "java/util/Comparator"), .byte, .byte]
  resolved := Array.replicate 1451 none
  statics := some 0 }

def pool8 : Array CpInfo := pool [(2, .class_ 4), (1, u "java/lang/Object"), (0, u "<init>"), (0, u "()V"), (0, .methodref 8 9), (0, .class_ 10), (0, .nameAndType 11 12), (0, u "java/lang/String"), (0, u "length"), (0, u "()I"), (0, .methodref 8 14), (0, .nameAndType 15 16), (0, u "charAt"), (0, u "(I)C"), (0, .methodref 18 19), (0, .class_ 20), (0, .nameAndType 21 22), (0, u "com/example/cohabit/cohabit/Numbers"), (0, u "digitsFrom"), (0, u "(Ljava/lang/String;I)I"), (119, u "MILLION"), (0, u "J"), (1, u "UNDECIDED"), (0, u "D"), (0, u "ZERO"), (0, u "Ljava/lang/String;"), (2, u "isDecimal"), (0, u "(Ljava/lang/String;)Z")] 6

def k8m0 : Method := { name := "<init>", desc := "()V", sig := { parameters := [], returnType := none }, accessFlags := 2, code := none }
def k8c1 : Code := { maxStack := 4, maxLocals := 5, code := prog_24_method_2_code, exceptionTable := #[], attributes := #[] }
def k8m1 : Method := { name := "isDecimal", desc := "(Ljava/lang/String;)Z", sig := { parameters := [(.object "java/lang/String")], returnType := some .boolean }, accessFlags := 8, code := some k8c1 }
def k8c2 : Code := { maxStack := 2, maxLocals := 3, code := prog_24_method_3_code, exceptionTable := #[], attributes := #[] }
def k8m2 : Method := { name := "digitsFrom", desc := "(Ljava/lang/String;I)I", sig := { parameters := [(.object "java/lang/String"), .int], returnType := some .int }, accessFlags := 10, code := some k8c2 }
/-- com/example/cohabit/cohabit/Numbers -/
def k8 : Class := { plain "com/example/cohabit/cohabit/Numbers" (some 0) with
  accessFlags := 48
  interfaces := #[]
  cf := some (fileOf pool8 18 #[] #[{ accessFlags := 2, nameIndex := 5, descriptorIndex := 6, attributes := #[] }, { accessFlags := 8, nameIndex := 151, descriptorIndex := 152, attributes := #[] }, { accessFlags := 10, nameIndex := 21, descriptorIndex := 22, attributes := #[] }] 48 2 #[] #[{ accessFlags := 26, nameIndex := 142, descriptorIndex := 143, attributes := #[] }, { accessFlags := 26, nameIndex := 145, descriptorIndex := 146, attributes := #[] }, { accessFlags := 26, nameIndex := 147, descriptorIndex := 148, attributes := #[] }])
  fields := #[{ name := "MILLION", type := .long, accessFlags := 26, slot := 0, constantValue := 0 }, { name := "UNDECIDED", type := .double, accessFlags := 26, slot := 1, constantValue := 0 }, { name := "ZERO", type := (.object "java/lang/String"), accessFlags := 26, slot := 2, constantValue := 0 }]
  methods := #[k8m0, k8m1, k8m2]
  instanceTypes := #[]
  staticTypes := #[.long, .double, (.object "java/lang/String")]
  resolved := Array.replicate 159 none
  statics := none }

def pool9 : Array CpInfo := pool [(3, .class_ 4), (0, u "java/lang/String"), (1, .class_ 8), (1, u "java/lang/Object"), (0, u "<init>"), (0, u "()V"), (0, .methodref 12 13), (0, .class_ 14), (0, .nameAndType 15 16), (0, u "java/lang/StringUTF16"), (0, u "newBytesLength"), (0, u "(I)I"), (3, .integer 1073741823), (23, .fieldref 12 45), (0, .nameAndType 46 47), (0, u "$assertionsDisabled"), (0, u "Z"), (0, .methodref 12 49), (0, .nameAndType 50 51), (0, u "length"), (0, u "([B)I"), (7, .fieldref 12 60), (0, .nameAndType 61 62), (0, u "HI_BYTE_SHIFT"), (0, u "I"), (0, .fieldref 12 64), (0, .nameAndType 65 62), (0, u "LO_BYTE_SHIFT"), (1, .methodref 12 68), (0, .nameAndType 69 70), (0, u "checkIndex"), (0, u "(I[B)V"), (0, .methodref 12 72), (0, .nameAndType 73 74), (0, u "getChar"), (0, u "([BI)C"), (32, .methodref 12 108), (0, .nameAndType 109 110), (0, u "newBytesFor"), (0, u "(I)[B"), (0, .methodref 12 112), (0, .nameAndType 113 114), (0, u "putChar"), (0, u "([BII)V"), (0, .methodref 12 116), (0, .nameAndType 117 118), (0, u "compress"), (0, u "([CI[BII)I"), (0, .methodref 12 120), (0, .nameAndType 121 122), (0, u "toBytes"), (0, u "([CII)[B"), (138, u "coderFromArrayLen"), (0, u "([BI)B"), (106, .class_ 371), (1, u "java/lang/StringUTF16$LinesSpliterator"), (20, u "charAt"), (21, .methodref 3 415), (0, .nameAndType 69 416), (0, u "(II)V"), (13, u "MAX_LENGTH"), (196, .class_ 628), (0, u "java/lang/StringUTF16$CodePointsSpliterator"), (0, .class_ 630), (0, u "java/lang/StringUTF16$CharsSpliterator")] 4

def k9m0 : Method := { name := "<init>", desc := "()V", sig := { parameters := [], returnType := none }, accessFlags := 0, code := none }
def k9c1 : Code := { maxStack := 1, maxLocals := 1, code := jdk_52_method_2_code, exceptionTable := #[], attributes := #[] }
def k9m1 : Method := { name := "newBytesFor", desc := "(I)[B", sig := { parameters := [.int], returnType := some (.array .byte) }, accessFlags := 9, code := some k9c1 }
def k9c2 : Code := { maxStack := 4, maxLocals := 1, code := jdk_52_method_3_code, exceptionTable := #[], attributes := #[] }
def k9m2 : Method := { name := "newBytesLength", desc := "(I)I", sig := { parameters := [.int], returnType := some .int }, accessFlags := 9, code := some k9c2 }
def k9c3 : Code := { maxStack := 4, maxLocals := 3, code := jdk_52_method_4_code, exceptionTable := #[], attributes := #[] }
def k9m3 : Method := { name := "putChar", desc := "([BII)V", sig := { parameters := [(.array .byte), .int, .int], returnType := none }, accessFlags := 8, code := some k9c3 }
def k9c4 : Code := { maxStack := 3, maxLocals := 2, code := jdk_52_method_5_code, exceptionTable := #[], attributes := #[] }
def k9m4 : Method := { name := "getChar", desc := "([BI)C", sig := { parameters := [(.array .byte), .int], returnType := some .char }, accessFlags := 8, code := some k9c4 }
def k9c5 : Code := { maxStack := 2, maxLocals := 1, code := jdk_52_method_6_code, exceptionTable := #[], attributes := #[] }
def k9m5 : Method := { name := "length", desc := "([B)I", sig := { parameters := [(.array .byte)], returnType := some .int }, accessFlags := 9, code := some k9c5 }
def k9c6 : Code := { maxStack := 4, maxLocals := 5, code := jdk_52_method_14_code, exceptionTable := #[], attributes := #[] }
def k9m6 : Method := { name := "toBytes", desc := "([CII)[B", sig := { parameters := [(.array .char), .int, .int], returnType := some (.array .byte) }, accessFlags := 9, code := some k9c6 }
def k9c7 : Code := { maxStack := 2, maxLocals := 2, code := jdk_52_method_15_code, exceptionTable := #[], attributes := #[] }
def k9m7 : Method := { name := "coderFromArrayLen", desc := "([BI)B", sig := { parameters := [(.array .byte), .int], returnType := some .byte }, accessFlags := 8, code := some k9c7 }
def k9c8 : Code := { maxStack := 5, maxLocals := 6, code := jdk_52_method_16_code, exceptionTable := #[], attributes := #[] }
def k9m8 : Method := { name := "compress", desc := "([CII)[B", sig := { parameters := [(.array .char), .int, .int], returnType := some (.array .byte) }, accessFlags := 9, code := some k9c8 }
def k9c9 : Code := { maxStack := 3, maxLocals := 7, code := jdk_52_method_21_code, exceptionTable := #[], attributes := #[] }
def k9m9 : Method := { name := "compress", desc := "([CI[BII)I", sig := { parameters := [(.array .char), .int, (.array .byte), .int, .int], returnType := some .int }, accessFlags := 9, code := some k9c9 }
def k9c10 : Code := { maxStack := 2, maxLocals := 2, code := jdk_52_method_83_code, exceptionTable := #[], attributes := #[] }
def k9m10 : Method := { name := "charAt", desc := "([BI)C", sig := { parameters := [(.array .byte), .int], returnType := some .char }, accessFlags := 9, code := some k9c10 }
def k9c11 : Code := { maxStack := 2, maxLocals := 2, code := jdk_52_method_91_code, exceptionTable := #[], attributes := #[] }
def k9m11 : Method := { name := "checkIndex", desc := "(I[B)V", sig := { parameters := [.int, (.array .byte)], returnType := none }, accessFlags := 9, code := some k9c11 }
/-- java/lang/StringUTF16 -/
def k9 : Class := { plain "java/lang/StringUTF16" (some 0) with
  accessFlags := 48
  interfaces := #[]
  cf := some (fileOf pool9 12 #[.nestMembers #[627, 629, 369]] #[{ accessFlags := 0, nameIndex := 9, descriptorIndex := 10, attributes := #[] }, { accessFlags := 9, nameIndex := 109, descriptorIndex := 110, attributes := #[] }, { accessFlags := 9, nameIndex := 15, descriptorIndex := 16, attributes := #[] }, { accessFlags := 8, nameIndex := 113, descriptorIndex := 114, attributes := #[] }, { accessFlags := 8, nameIndex := 73, descriptorIndex := 74, attributes := #[] }, { accessFlags := 9, nameIndex := 50, descriptorIndex := 51, attributes := #[] }, { accessFlags := 9, nameIndex := 121, descriptorIndex := 122, attributes := #[] }, { accessFlags := 8, nameIndex := 261, descriptorIndex := 262, attributes := #[] }, { accessFlags := 9, nameIndex := 117, descriptorIndex := 122, attributes := #[] }, { accessFlags := 9, nameIndex := 117, descriptorIndex := 118, attributes := #[] }, { accessFlags := 9, nameIndex := 392, descriptorIndex := 74, attributes := #[] }, { accessFlags := 9, nameIndex := 69, descriptorIndex := 70, attributes := #[] }] 48 6 #[] #[{ accessFlags := 26, nameIndex := 61, descriptorIndex := 62, attributes := #[] }, { accessFlags := 26, nameIndex := 65, descriptorIndex := 62, attributes := #[] }, { accessFlags := 24, nameIndex := 430, descriptorIndex := 62, attributes := #[] }, { accessFlags := 4120, nameIndex := 46, descriptorIndex := 47, attributes := #[] }])
  fields := #[{ name := "HI_BYTE_SHIFT", type := .int, accessFlags := 26, slot := 0, constantValue := 0 }, { name := "LO_BYTE_SHIFT", type := .int, accessFlags := 26, slot := 1, constantValue := 0 }, { name := "MAX_LENGTH", type := .int, accessFlags := 24, slot := 2, constantValue := 0 }, { name := "$assertionsDisabled", type := .boolean, accessFlags := 4120, slot := 3, constantValue := 0 }]
  methods := #[k9m0, k9m1, k9m2, k9m3, k9m4, k9m5, k9m6, k9m7, k9m8, k9m9, k9m10, k9m11]
  instanceTypes := #[]
  staticTypes := #[.int, .int, .int, .boolean]
  resolved := Array.replicate 635 none
  statics := some 1 }

def pool10 : Array CpInfo := pool [(2, .class_ 4), (1, u "java/lang/Object"), (0, u "<init>"), (0, u "()V"), (17, .class_ 26), (1, u "jdk/internal/util/Preconditions"), (6, u "checkIndex"), (21, .class_ 56), (0, u "jdk/internal/util/Preconditions$4"), (57, .class_ 115), (0, u "jdk/internal/util/Preconditions$1"), (7, u "SIOOBE_FORMATTER"), (0, u "Ljava/util/function/BiFunction;"), (0, .class_ 126), (0, u "jdk/internal/util/Preconditions$2"), (3, u "AIOOBE_FORMATTER"), (0, .class_ 132), (0, u "jdk/internal/util/Preconditions$3"), (3, u "IOOBE_FORMATTER"), (41, u "(IILjava/util/function/BiFunction;)I")] 15

def k10m0 : Method := { name := "<init>", desc := "()V", sig := { parameters := [], returnType := none }, accessFlags := 1, code := none }
def k10c1 : Code := { maxStack := 3, maxLocals := 3, code := jdk_41_method_11_code, exceptionTable := #[], attributes := #[] }
def k10m1 : Method := { name := "checkIndex", desc := "(IILjava/util/function/BiFunction;)I", sig := { parameters := [.int, .int, (.object "java/util/function/BiFunction")], returnType := some .int }, accessFlags := 9, code := some k10c1 }
/-- jdk/internal/util/Preconditions -/
def k10 : Class := { plain "jdk/internal/util/Preconditions" (some 0) with
  accessFlags := 33
  interfaces := #[]
  cf := some (fileOf pool10 24 #[.nestMembers #[55, 131, 125, 114]] #[{ accessFlags := 1, nameIndex := 5, descriptorIndex := 6, attributes := #[] }, { accessFlags := 9, nameIndex := 33, descriptorIndex := 178, attributes := #[] }] 33 2 #[] #[{ accessFlags := 25, nameIndex := 123, descriptorIndex := 124, attributes := #[] }, { accessFlags := 25, nameIndex := 130, descriptorIndex := 124, attributes := #[] }, { accessFlags := 25, nameIndex := 136, descriptorIndex := 124, attributes := #[] }])
  fields := #[{ name := "SIOOBE_FORMATTER", type := (.object "java/util/function/BiFunction"), accessFlags := 25, slot := 0, constantValue := 0 }, { name := "AIOOBE_FORMATTER", type := (.object "java/util/function/BiFunction"), accessFlags := 25, slot := 1, constantValue := 0 }, { name := "IOOBE_FORMATTER", type := (.object "java/util/function/BiFunction"), accessFlags := 25, slot := 2, constantValue := 0 }]
  methods := #[k10m0, k10m1]
  instanceTypes := #[]
  staticTypes := #[(.object "java/util/function/BiFunction"), (.object "java/util/function/BiFunction"), (.object "java/util/function/BiFunction")]
  resolved := Array.replicate 194 none
  statics := some 2 }

def pool11 : Array CpInfo := pool [(1, .class_ 2), (0, u "java/lang/String"), (1, .class_ 6), (1, u "java/lang/Object"), (0, u "<init>"), (0, u "()V"), (0, .methodref 1 10), (0, .nameAndType 11 12), (0, u "checkIndex"), (0, u "(II)V"), (1, .class_ 16), (1, u "java/lang/StringLatin1"), (36, u "([BI)C"), (67, u "$assertionsDisabled"), (0, u "Z"), (98, .class_ 223), (1, u "java/lang/StringLatin1$LinesSpliterator"), (28, u "charAt"), (137, .class_ 391), (0, u "java/lang/StringLatin1$CharsSpliterator")] 3

def k11m0 : Method := { name := "<init>", desc := "()V", sig := { parameters := [], returnType := none }, accessFlags := 0, code := none }
def k11c1 : Code := { maxStack := 2, maxLocals := 2, code := jdk_43_method_2_code, exceptionTable := #[], attributes := #[] }
def k11m1 : Method := { name := "charAt", desc := "([BI)C", sig := { parameters := [(.array .byte), .int], returnType := some .char }, accessFlags := 9, code := some k11c1 }
/-- java/lang/StringLatin1 -/
def k11 : Class := { plain "java/lang/StringLatin1" (some 0) with
  accessFlags := 48
  interfaces := #[]
  cf := some (fileOf pool11 14 #[.nestMembers #[390, 221]] #[{ accessFlags := 0, nameIndex := 7, descriptorIndex := 8, attributes := #[] }, { accessFlags := 9, nameIndex := 252, descriptorIndex := 53, attributes := #[] }] 48 4 #[] #[{ accessFlags := 4120, nameIndex := 121, descriptorIndex := 122, attributes := #[] }])
  fields := #[{ name := "$assertionsDisabled", type := .boolean, accessFlags := 4120, slot := 0, constantValue := 0 }]
  methods := #[k11m0, k11m1]
  instanceTypes := #[]
  staticTypes := #[.boolean]
  resolved := Array.replicate 395 none
  statics := none }

def pool12 : Array CpInfo := pool [(9, u "<init>"), (6, .class_ 18), (1, u "java/lang/Object"), (0, u "()V"), (1, .class_ 23), (1, u "jdk/internal/util/ArraysSupport"), (0, u "LOG2_ARRAY_LONG_INDEX_SCALE"), (0, u "I"), (2, u "U"), (0, u "Ljdk/internal/misc/Unsafe;"), (8, u "BIG_ENDIAN"), (0, u "Z"), (8, u "LOG2_BYTE_BIT_SIZE"), (4, u "LOG2_ARRAY_INT_INDEX_SCALE"), (54, u "JLA"), (0, u "Ljdk/internal/access/JavaLangAccess;"), (11, u "LOG2_ARRAY_BOOLEAN_INDEX_SCALE"), (9, u "LOG2_ARRAY_BYTE_INDEX_SCALE"), (5, u "LOG2_ARRAY_CHAR_INDEX_SCALE"), (5, u "LOG2_ARRAY_SHORT_INDEX_SCALE"), (18, u "LOG2_ARRAY_FLOAT_INDEX_SCALE"), (24, u "LOG2_ARRAY_DOUBLE_INDEX_SCALE"), (89, u "T_BOOLEAN"), (2, u "T_CHAR"), (1, u "T_FLOAT"), (1, u "T_DOUBLE"), (1, u "T_BYTE"), (1, u "T_SHORT"), (1, u "T_INT"), (1, u "T_LONG"), (1, u "SOFT_MAX_ARRAY_LENGTH")] 83

def k12m0 : Method := { name := "<init>", desc := "()V", sig := { parameters := [], returnType := none }, accessFlags := 2, code := none }
/-- jdk/internal/util/ArraysSupport -/
def k12 : Class := { plain "jdk/internal/util/ArraysSupport" (some 0) with
  accessFlags := 33
  interfaces := #[]
  cf := some (fileOf pool12 21 #[] #[{ accessFlags := 2, nameIndex := 9, descriptorIndex := 19, attributes := #[] }] 33 16 #[] #[{ accessFlags := 24, nameIndex := 28, descriptorIndex := 29, attributes := #[] }, { accessFlags := 26, nameIndex := 38, descriptorIndex := 39, attributes := #[] }, { accessFlags := 25, nameIndex := 121, descriptorIndex := 25, attributes := #[] }, { accessFlags := 25, nameIndex := 131, descriptorIndex := 25, attributes := #[] }, { accessFlags := 25, nameIndex := 137, descriptorIndex := 25, attributes := #[] }, { accessFlags := 25, nameIndex := 143, descriptorIndex := 25, attributes := #[] }, { accessFlags := 25, nameIndex := 53, descriptorIndex := 25, attributes := #[] }, { accessFlags := 25, nameIndex := 24, descriptorIndex := 25, attributes := #[] }, { accessFlags := 25, nameIndex := 162, descriptorIndex := 25, attributes := #[] }, { accessFlags := 25, nameIndex := 187, descriptorIndex := 25, attributes := #[] }, { accessFlags := 26, nameIndex := 48, descriptorIndex := 25, attributes := #[] }, { accessFlags := 25, nameIndex := 277, descriptorIndex := 25, attributes := #[] }, { accessFlags := 25, nameIndex := 280, descriptorIndex := 25, attributes := #[] }, { accessFlags := 25, nameIndex := 282, descriptorIndex := 25, attributes := #[] }, { accessFlags := 25, nameIndex := 284, descriptorIndex := 25, attributes := #[] }, { accessFlags := 25, nameIndex := 286, descriptorIndex := 25, attributes := #[] }, { accessFlags := 25, nameIndex := 288, descriptorIndex := 25, attributes := #[] }, { accessFlags := 25, nameIndex := 290, descriptorIndex := 25, attributes := #[] }, { accessFlags := 25, nameIndex := 292, descriptorIndex := 25, attributes := #[] }, { accessFlags := 26, nameIndex := 108, descriptorIndex := 109, attributes := #[] }, { accessFlags := 25, nameIndex := 294, descriptorIndex := 25, attributes := #[] }])
  fields := #[{ name := "U", type := (.object "jdk/internal/misc/Unsafe"), accessFlags := 24, slot := 0, constantValue := 0 }, { name := "BIG_ENDIAN", type := .boolean, accessFlags := 26, slot := 1, constantValue := 0 }, { name := "LOG2_ARRAY_BOOLEAN_INDEX_SCALE", type := .int, accessFlags := 25, slot := 2, constantValue := 0 }, { name := "LOG2_ARRAY_BYTE_INDEX_SCALE", type := .int, accessFlags := 25, slot := 3, constantValue := 0 }, { name := "LOG2_ARRAY_CHAR_INDEX_SCALE", type := .int, accessFlags := 25, slot := 4, constantValue := 0 }, { name := "LOG2_ARRAY_SHORT_INDEX_SCALE", type := .int, accessFlags := 25, slot := 5, constantValue := 0 }, { name := "LOG2_ARRAY_INT_INDEX_SCALE", type := .int, accessFlags := 25, slot := 6, constantValue := 0 }, { name := "LOG2_ARRAY_LONG_INDEX_SCALE", type := .int, accessFlags := 25, slot := 7, constantValue := 0 }, { name := "LOG2_ARRAY_FLOAT_INDEX_SCALE", type := .int, accessFlags := 25, slot := 8, constantValue := 0 }, { name := "LOG2_ARRAY_DOUBLE_INDEX_SCALE", type := .int, accessFlags := 25, slot := 9, constantValue := 0 }, { name := "LOG2_BYTE_BIT_SIZE", type := .int, accessFlags := 26, slot := 10, constantValue := 0 }, { name := "T_BOOLEAN", type := .int, accessFlags := 25, slot := 11, constantValue := 0 }, { name := "T_CHAR", type := .int, accessFlags := 25, slot := 12, constantValue := 0 }, { name := "T_FLOAT", type := .int, accessFlags := 25, slot := 13, constantValue := 0 }, { name := "T_DOUBLE", type := .int, accessFlags := 25, slot := 14, constantValue := 0 }, { name := "T_BYTE", type := .int, accessFlags := 25, slot := 15, constantValue := 0 }, { name := "T_SHORT", type := .int, accessFlags := 25, slot := 16, constantValue := 0 }, { name := "T_INT", type := .int, accessFlags := 25, slot := 17, constantValue := 0 }, { name := "T_LONG", type := .int, accessFlags := 25, slot := 18, constantValue := 0 }, { name := "JLA", type := (.object "jdk/internal/access/JavaLangAccess"), accessFlags := 26, slot := 19, constantValue := 0 }, { name := "SOFT_MAX_ARRAY_LENGTH", type := .int, accessFlags := 25, slot := 20, constantValue := 0 }]
  methods := #[k12m0]
  instanceTypes := #[]
  staticTypes := #[(.object "jdk/internal/misc/Unsafe"), .boolean, .int, .int, .int, .int, .int, .int, .int, .int, .int, .int, .int, .int, .int, .int, .int, .int, .int, (.object "jdk/internal/access/JavaLangAccess"), .int]
  resolved := Array.replicate 378 none
  statics := none }

def pool13 : Array CpInfo := pool [(1, u "java/lang/Cloneable"), (0, .class_ 1), (0, u "java/lang/Object"), (0, .class_ 3)] 3

/-- java/lang/Cloneable -/
def k13 : Class := { plain "java/lang/Cloneable" (some 0) with
  accessFlags := 1537
  interfaces := #[]
  cf := some (fileOf pool13 2 #[] #[] 1537 4 #[] #[])
  fields := #[]
  methods := #[]
  instanceTypes := #[]
  staticTypes := #[]
  resolved := Array.replicate 8 none
  statics := none }

/-- the primitive byte -/
def k14 : Class := { plain "byte" none with kind := .primitive 'B', accessFlags := 0x411 }
/-- [B -/
def k15 : Class := { plain "[B" (some 0) with kind := .array 14 .byte, interfaces := #[13, 2], accessFlags := 1041 }

/-- the primitive char -/
def k16 : Class := { plain "char" none with kind := .primitive 'C', accessFlags := 0x411 }
/-- [C -/
def k17 : Class := { plain "[C" (some 0) with kind := .array 16 .char, interfaces := #[13, 2], accessFlags := 1041 }

/-- the primitive int -/
def k18 : Class := { plain "int" none with kind := .primitive 'I', accessFlags := 0x411 }
/-- [I -/
def k19 : Class := { plain "[I" (some 0) with kind := .array 18 .int, interfaces := #[13, 2], accessFlags := 1041 }

def heap : Heap := #[{ cls := 7, slots := #[.long 0, .int 1, .null, .int 0, .null, .int 0, .int 0], vm := .statics 7 },
  { cls := 9, slots := #[.int 0, .int 8, .int 0, .int 1], vm := .statics 9 },
  { cls := 10, slots := #[.null, .null, .null], vm := .statics 10 }]
def classes : Array Class := #[k0, k1, k2, k3, k4, k5, k6, k7, k8, k9, k10, k11, k12, k13, k14, k15, k16, k17, k18, k19]
def interned : List (Array UInt16 × Addr) := []
def slotsUsed : Nat := 14
def theMethod : MethodId := ⟨1, 1⟩
def args0 : Array Value := #[.int 5, .long 6, .long 7, .long 100, .long 3]
def aboutOver (below : List Frame) : State where
  vm := { classes := classes, interned := interned.toArray }
  heap := heap
  slotsUsed := slotsUsed
  threads := #[{ frames := .invoking theMethod args0 :: below }]
def below0 : List Frame := [.native { method := ⟨0, 0⟩, args := #[] }]
def about1 : State := aboutOver below0
def p0 : Program := .bare "" "" ""
def e0 : Env := launch0.env 0 0 0
theorem w_frames : about1.frames = Frame.invoking theMethod args0 :: below0 := rfl
set_option maxRecDepth 65536 in
theorem w_args : argsFit about1.vm theMethod args0 = true := by decide +kernel
set_option maxRecDepth 65536 in
theorem w_heap : heapFits about1 = true := by decide +kernel
set_option maxRecDepth 65536 in
theorem w_runnable : about1.curStatus? = some .runnable := by decide +kernel
set_option maxRecDepth 65536 in
theorem w_alone : about1.alone = true := by decide +kernel
set_option maxRecDepth 65536 in
theorem w_named : about1.methodNamed? x = some theMethod := by decide +kernel
set_option maxRecDepth 65536 in
theorem w_hears : about1.hears theMethod below0 = true := by decide +kernel
set_option maxRecDepth 65536 in
theorem w_ripe : about1.ripe theMethod args0 below0 = true := by decide +kernel
theorem w_running : about1.status = .running := rfl
set_option maxRecDepth 65536 in
theorem w_room : about1.hasRoom e0.platform room_1 = true :=
  launch0.hasRoom_least _ room_1 (by decide +kernel) (by decide +kernel) (by decide +kernel) (by decide +kernel) (by decide +kernel) (by decide +kernel)
theorem allAtoms_all (ts : List Jvm.Cond) (a : Array Jvm.Value) (st : Jvm.State) : (allAtoms ts).before a st = ts.all (fun c => c.before a st) := by
  induction ts with
  | nil => rfl
  | cons c t ih =>
    show (Jvm.Cond.and c (allAtoms t)).before a st = _
    rw [Jvm.Cond.before_and, ih, List.all_cons]
def words1 : List Jvm.Cond := Jvm.Cond.code x code maxLocals ret :: tables_1
/-- a 'code' word, met by the world's own term for the bytes: nothing is compared byte by byte -/
theorem code_word {y : MethodName} {bytes : ByteArray} {mx : Nat} {rt : Option FieldType} {a : Array Value} {s : State} {m : MethodId} {meth : Method} {c : Code} (h1 : s.methodNamed? y = some m) (h2 : s.vm.method? m = some meth) (h3 : meth.code = some c) (h4 : c.code = bytes)
    (h5 : (c.maxLocals == mx && c.exceptionTable.isEmpty && decide (c.maxStack ≤ mostOperands) && decide (meth.sig.returnType = rt) && !meth.locks && decide (parseMethodDescriptor y.desc = some meth.sig)) = true) : (Jvm.Cond.code y bytes mx rt).before a s = true := by
  simp only [Bool.and_eq_true, beq_iff_eq, Bool.not_eq_true', decide_eq_true_eq] at h5
  obtain ⟨⟨⟨⟨⟨g1, g2⟩, g3⟩, g4⟩, g5⟩, g6⟩ := h5
  simp [Cond.before, Cond.holds, Cond.value, h1, h2, h3, h4, g1, g2, g3, g4, g5, g6]
def isCode : Jvm.Cond → Bool
  | .code _ _ _ _ => true
  | _ => false
theorem all_split {L : List Jvm.Cond} {P : Jvm.Cond → Bool} (h1 : L.all (fun c => isCode c || P c) = true) (h2 : ∀ c ∈ L.filter isCode, P c = true) : L.all P = true := by
  refine List.all_eq_true.mpr fun c hc => ?_
  have h := List.all_eq_true.mp h1 c hc
  rcases Bool.eq_false_or_eq_true (isCode c) with hi | hi
  · exact h2 c (List.mem_filter.mpr ⟨hc, hi⟩)
  · simpa [hi] using h
set_option maxRecDepth 65536 in
theorem w_c0 : (Jvm.Cond.code x code maxLocals ret).before args0 about1 = true := code_word (m := ⟨1, 1⟩) (meth := k1m1) (c := k1c1) (by decide +kernel) rfl rfl rfl (by decide +kernel)
set_option maxRecDepth 65536 in
theorem w_c1 : (Jvm.Cond.code ({ cls := "com/example/cohabit/cohabit/NumbersIsDecimalPinLaw", name := "ch", desc := "(I)C" } : Jvm.MethodName) method_3_code (2 : Nat) (Option.some Jvm.ClassFile.FieldType.char)).before args0 about1 = true := code_word (m := ⟨1, 2⟩) (meth := k1m2) (c := k1c2) (by decide +kernel) rfl rfl rfl (by decide +kernel)
set_option maxRecDepth 65536 in
theorem w_c2 : (Jvm.Cond.code ({ cls := "com/example/cohabit/cohabit/NumbersIsDecimalPinLaw", name := "make", desc := "(ICCCCCCCC)Ljava/lang/String;" } : Jvm.MethodName) method_4_code (9 : Nat) (Option.some (Jvm.ClassFile.FieldType.object "java/lang/String"))).before args0 about1 = true := code_word (m := ⟨1, 3⟩) (meth := k1m3) (c := k1c3) (by decide +kernel) rfl rfl rfl (by decide +kernel)
set_option maxRecDepth 65536 in
theorem w_c3 : (Jvm.Cond.code ({ cls := "java/lang/String", name := "<init>", desc := "([C)V" } : Jvm.MethodName) jdk_42_method_3_code (2 : Nat) (Option.none : Option Jvm.ClassFile.FieldType)).before args0 about1 = true := code_word (m := ⟨7, 1⟩) (meth := k7m1) (c := k7c1) (by decide +kernel) rfl rfl rfl (by decide +kernel)
set_option maxRecDepth 65536 in
theorem w_c4 : (Jvm.Cond.code ({ cls := "java/lang/String", name := "<init>", desc := "([CIILjava/lang/Void;)V" } : Jvm.MethodName) jdk_42_method_149_code (6 : Nat) (Option.none : Option Jvm.ClassFile.FieldType)).before args0 about1 = true := code_word (m := ⟨7, 4⟩) (meth := k7m4) (c := k7c4) (by decide +kernel) rfl rfl rfl (by decide +kernel)
set_option maxRecDepth 65536 in
theorem w_c5 : (Jvm.Cond.code ({ cls := "java/lang/Object", name := "<init>", desc := "()V" } : Jvm.MethodName) object_method_1_code (1 : Nat) (Option.none : Option Jvm.ClassFile.FieldType)).before args0 about1 = true := code_word (m := ⟨0, 0⟩) (meth := k0m0) (c := k0c0) (by decide +kernel) rfl rfl rfl (by decide +kernel)
set_option maxRecDepth 65536 in
theorem w_c6 : (Jvm.Cond.code ({ cls := "com/example/cohabit/cohabit/Numbers", name := "isDecimal", desc := "(Ljava/lang/String;)Z" } : Jvm.MethodName) prog_24_method_2_code (5 : Nat) (Option.some Jvm.ClassFile.FieldType.boolean)).before args0 about1 = true := code_word (m := ⟨8, 1⟩) (meth := k8m1) (c := k8c1) (by decide +kernel) rfl rfl rfl (by decide +kernel)
set_option maxRecDepth 65536 in
theorem w_c7 : (Jvm.Cond.code ({ cls := "java/lang/String", name := "length", desc := "()I" } : Jvm.MethodName) jdk_42_method_54_code (1 : Nat) (Option.some Jvm.ClassFile.FieldType.int)).before args0 about1 = true := code_word (m := ⟨7, 2⟩) (meth := k7m2) (c := k7c2) (by decide +kernel) rfl rfl rfl (by decide +kernel)
set_option maxRecDepth 65536 in
theorem w_c8 : (Jvm.Cond.code ({ cls := "java/lang/String", name := "coder", desc := "()B" } : Jvm.MethodName) jdk_42_method_152_code (1 : Nat) (Option.some Jvm.ClassFile.FieldType.byte)).before args0 about1 = true := code_word (m := ⟨7, 5⟩) (meth := k7m5) (c := k7c5) (by decide +kernel) rfl rfl rfl (by decide +kernel)
set_option maxRecDepth 65536 in
theorem w_c9 : (Jvm.Cond.code ({ cls := "com/example/cohabit/cohabit/Numbers", name := "digitsFrom", desc := "(Ljava/lang/String;I)I" } : Jvm.MethodName) prog_24_method_3_code (3 : Nat) (Option.some Jvm.ClassFile.FieldType.int)).before args0 about1 = true := code_word (m := ⟨8, 2⟩) (meth := k8m2) (c := k8c2) (by decide +kernel) rfl rfl rfl (by decide +kernel)
set_option maxRecDepth 65536 in
theorem w_c10 : (Jvm.Cond.code ({ cls := "java/lang/StringUTF16", name := "compress", desc := "([CII)[B" } : Jvm.MethodName) jdk_52_method_16_code (6 : Nat) (Option.some (Jvm.ClassFile.FieldType.array Jvm.ClassFile.FieldType.byte))).before args0 about1 = true := code_word (m := ⟨9, 8⟩) (meth := k9m8) (c := k9c8) (by decide +kernel) rfl rfl rfl (by decide +kernel)
set_option maxRecDepth 65536 in
theorem w_c11 : (Jvm.Cond.code ({ cls := "java/lang/StringUTF16", name := "compress", desc := "([CI[BII)I" } : Jvm.MethodName) jdk_52_method_21_code (7 : Nat) (Option.some Jvm.ClassFile.FieldType.int)).before args0 about1 = true := code_word (m := ⟨9, 9⟩) (meth := k9m9) (c := k9c9) (by decide +kernel) rfl rfl rfl (by decide +kernel)
set_option maxRecDepth 65536 in
theorem w_c12 : (Jvm.Cond.code ({ cls := "java/lang/StringUTF16", name := "toBytes", desc := "([CII)[B" } : Jvm.MethodName) jdk_52_method_14_code (5 : Nat) (Option.some (Jvm.ClassFile.FieldType.array Jvm.ClassFile.FieldType.byte))).before args0 about1 = true := code_word (m := ⟨9, 6⟩) (meth := k9m6) (c := k9c6) (by decide +kernel) rfl rfl rfl (by decide +kernel)
set_option maxRecDepth 65536 in
theorem w_c13 : (Jvm.Cond.code ({ cls := "java/lang/StringUTF16", name := "newBytesFor", desc := "(I)[B" } : Jvm.MethodName) jdk_52_method_2_code (1 : Nat) (Option.some (Jvm.ClassFile.FieldType.array Jvm.ClassFile.FieldType.byte))).before args0 about1 = true := code_word (m := ⟨9, 1⟩) (meth := k9m1) (c := k9c1) (by decide +kernel) rfl rfl rfl (by decide +kernel)
set_option maxRecDepth 65536 in
theorem w_c14 : (Jvm.Cond.code ({ cls := "java/lang/StringUTF16", name := "newBytesLength", desc := "(I)I" } : Jvm.MethodName) jdk_52_method_3_code (1 : Nat) (Option.some Jvm.ClassFile.FieldType.int)).before args0 about1 = true := code_word (m := ⟨9, 2⟩) (meth := k9m2) (c := k9c2) (by decide +kernel) rfl rfl rfl (by decide +kernel)
set_option maxRecDepth 65536 in
theorem w_c15 : (Jvm.Cond.code ({ cls := "java/lang/StringUTF16", name := "putChar", desc := "([BII)V" } : Jvm.MethodName) jdk_52_method_4_code (3 : Nat) (Option.none : Option Jvm.ClassFile.FieldType)).before args0 about1 = true := code_word (m := ⟨9, 3⟩) (meth := k9m3) (c := k9c3) (by decide +kernel) rfl rfl rfl (by decide +kernel)
set_option maxRecDepth 65536 in
theorem w_c16 : (Jvm.Cond.code ({ cls := "java/lang/StringUTF16", name := "getChar", desc := "([BI)C" } : Jvm.MethodName) jdk_52_method_5_code (2 : Nat) (Option.some Jvm.ClassFile.FieldType.char)).before args0 about1 = true := code_word (m := ⟨9, 4⟩) (meth := k9m4) (c := k9c4) (by decide +kernel) rfl rfl rfl (by decide +kernel)
set_option maxRecDepth 65536 in
theorem w_c17 : (Jvm.Cond.code ({ cls := "java/lang/StringUTF16", name := "coderFromArrayLen", desc := "([BI)B" } : Jvm.MethodName) jdk_52_method_15_code (2 : Nat) (Option.some Jvm.ClassFile.FieldType.byte)).before args0 about1 = true := code_word (m := ⟨9, 7⟩) (meth := k9m7) (c := k9c7) (by decide +kernel) rfl rfl rfl (by decide +kernel)
set_option maxRecDepth 65536 in
theorem w_c18 : (Jvm.Cond.code ({ cls := "com/example/cohabit/cohabit/NumbersIsDecimalPinLaw", name := "step", desc := "(IC)I" } : Jvm.MethodName) method_8_code (2 : Nat) (Option.some Jvm.ClassFile.FieldType.int)).before args0 about1 = true := code_word (m := ⟨1, 7⟩) (meth := k1m7) (c := k1c7) (by decide +kernel) rfl rfl rfl (by decide +kernel)
set_option maxRecDepth 65536 in
theorem w_c19 : (Jvm.Cond.code ({ cls := "com/example/cohabit/cohabit/NumbersIsDecimalPinLaw", name := "digit", desc := "(C)Z" } : Jvm.MethodName) method_5_code (1 : Nat) (Option.some Jvm.ClassFile.FieldType.boolean)).before args0 about1 = true := code_word (m := ⟨1, 4⟩) (meth := k1m4) (c := k1c4) (by decide +kernel) rfl rfl rfl (by decide +kernel)
set_option maxRecDepth 65536 in
theorem w_c20 : (Jvm.Cond.code ({ cls := "com/example/cohabit/cohabit/NumbersIsDecimalPinLaw", name := "sign", desc := "(C)Z" } : Jvm.MethodName) method_6_code (1 : Nat) (Option.some Jvm.ClassFile.FieldType.boolean)).before args0 about1 = true := code_word (m := ⟨1, 5⟩) (meth := k1m5) (c := k1c5) (by decide +kernel) rfl rfl rfl (by decide +kernel)
set_option maxRecDepth 65536 in
theorem w_c21 : (Jvm.Cond.code ({ cls := "java/lang/String", name := "charAt", desc := "(I)C" } : Jvm.MethodName) jdk_42_method_56_code (2 : Nat) (Option.some Jvm.ClassFile.FieldType.char)).before args0 about1 = true := code_word (m := ⟨7, 3⟩) (meth := k7m3) (c := k7c3) (by decide +kernel) rfl rfl rfl (by decide +kernel)
set_option maxRecDepth 65536 in
theorem w_c22 : (Jvm.Cond.code ({ cls := "java/lang/String", name := "isLatin1", desc := "()Z" } : Jvm.MethodName) jdk_42_method_154_code (1 : Nat) (Option.some Jvm.ClassFile.FieldType.boolean)).before args0 about1 = true := code_word (m := ⟨7, 6⟩) (meth := k7m6) (c := k7c6) (by decide +kernel) rfl rfl rfl (by decide +kernel)
set_option maxRecDepth 65536 in
theorem w_c23 : (Jvm.Cond.code ({ cls := "java/lang/StringUTF16", name := "charAt", desc := "([BI)C" } : Jvm.MethodName) jdk_52_method_83_code (2 : Nat) (Option.some Jvm.ClassFile.FieldType.char)).before args0 about1 = true := code_word (m := ⟨9, 10⟩) (meth := k9m10) (c := k9c10) (by decide +kernel) rfl rfl rfl (by decide +kernel)
set_option maxRecDepth 65536 in
theorem w_c24 : (Jvm.Cond.code ({ cls := "java/lang/StringUTF16", name := "checkIndex", desc := "(I[B)V" } : Jvm.MethodName) jdk_52_method_91_code (2 : Nat) (Option.none : Option Jvm.ClassFile.FieldType)).before args0 about1 = true := code_word (m := ⟨9, 11⟩) (meth := k9m11) (c := k9c11) (by decide +kernel) rfl rfl rfl (by decide +kernel)
set_option maxRecDepth 65536 in
theorem w_c25 : (Jvm.Cond.code ({ cls := "java/lang/StringUTF16", name := "length", desc := "([B)I" } : Jvm.MethodName) jdk_52_method_6_code (1 : Nat) (Option.some Jvm.ClassFile.FieldType.int)).before args0 about1 = true := code_word (m := ⟨9, 5⟩) (meth := k9m5) (c := k9c5) (by decide +kernel) rfl rfl rfl (by decide +kernel)
set_option maxRecDepth 65536 in
theorem w_c26 : (Jvm.Cond.code ({ cls := "java/lang/String", name := "checkIndex", desc := "(II)V" } : Jvm.MethodName) jdk_42_method_155_code (2 : Nat) (Option.none : Option Jvm.ClassFile.FieldType)).before args0 about1 = true := code_word (m := ⟨7, 7⟩) (meth := k7m7) (c := k7c7) (by decide +kernel) rfl rfl rfl (by decide +kernel)
set_option maxRecDepth 65536 in
theorem w_c27 : (Jvm.Cond.code ({ cls := "jdk/internal/util/Preconditions", name := "checkIndex", desc := "(IILjava/util/function/BiFunction;)I" } : Jvm.MethodName) jdk_41_method_11_code (3 : Nat) (Option.some Jvm.ClassFile.FieldType.int)).before args0 about1 = true := code_word (m := ⟨10, 1⟩) (meth := k10m1) (c := k10c1) (by decide +kernel) rfl rfl rfl (by decide +kernel)
set_option maxRecDepth 65536 in
theorem w_c28 : (Jvm.Cond.code ({ cls := "com/example/cohabit/cohabit/NumbersIsDecimalPinLaw", name := "expo", desc := "(C)Z" } : Jvm.MethodName) method_7_code (1 : Nat) (Option.some Jvm.ClassFile.FieldType.boolean)).before args0 about1 = true := code_word (m := ⟨1, 6⟩) (meth := k1m6) (c := k1c6) (by decide +kernel) rfl rfl rfl (by decide +kernel)
set_option maxRecDepth 65536 in
theorem w_c29 : (Jvm.Cond.code ({ cls := "java/lang/StringLatin1", name := "charAt", desc := "([BI)C" } : Jvm.MethodName) jdk_43_method_2_code (2 : Nat) (Option.some Jvm.ClassFile.FieldType.char)).before args0 about1 = true := code_word (m := ⟨11, 1⟩) (meth := k11m1) (c := k11c1) (by decide +kernel) rfl rfl rfl (by decide +kernel)
def codes1 : List Jvm.Cond := [Jvm.Cond.code x code maxLocals ret, Jvm.Cond.code ({ cls := "com/example/cohabit/cohabit/NumbersIsDecimalPinLaw", name := "ch", desc := "(I)C" } : Jvm.MethodName) method_3_code (2 : Nat) (Option.some Jvm.ClassFile.FieldType.char), Jvm.Cond.code ({ cls := "com/example/cohabit/cohabit/NumbersIsDecimalPinLaw", name := "make", desc := "(ICCCCCCCC)Ljava/lang/String;" } : Jvm.MethodName) method_4_code (9 : Nat) (Option.some (Jvm.ClassFile.FieldType.object "java/lang/String")), Jvm.Cond.code ({ cls := "java/lang/String", name := "<init>", desc := "([C)V" } : Jvm.MethodName) jdk_42_method_3_code (2 : Nat) (Option.none : Option Jvm.ClassFile.FieldType), Jvm.Cond.code ({ cls := "java/lang/String", name := "<init>", desc := "([CIILjava/lang/Void;)V" } : Jvm.MethodName) jdk_42_method_149_code (6 : Nat) (Option.none : Option Jvm.ClassFile.FieldType), Jvm.Cond.code ({ cls := "java/lang/Object", name := "<init>", desc := "()V" } : Jvm.MethodName) object_method_1_code (1 : Nat) (Option.none : Option Jvm.ClassFile.FieldType), Jvm.Cond.code ({ cls := "com/example/cohabit/cohabit/Numbers", name := "isDecimal", desc := "(Ljava/lang/String;)Z" } : Jvm.MethodName) prog_24_method_2_code (5 : Nat) (Option.some Jvm.ClassFile.FieldType.boolean), Jvm.Cond.code ({ cls := "java/lang/String", name := "length", desc := "()I" } : Jvm.MethodName) jdk_42_method_54_code (1 : Nat) (Option.some Jvm.ClassFile.FieldType.int), Jvm.Cond.code ({ cls := "java/lang/String", name := "coder", desc := "()B" } : Jvm.MethodName) jdk_42_method_152_code (1 : Nat) (Option.some Jvm.ClassFile.FieldType.byte), Jvm.Cond.code ({ cls := "com/example/cohabit/cohabit/Numbers", name := "digitsFrom", desc := "(Ljava/lang/String;I)I" } : Jvm.MethodName) prog_24_method_3_code (3 : Nat) (Option.some Jvm.ClassFile.FieldType.int), Jvm.Cond.code ({ cls := "java/lang/StringUTF16", name := "compress", desc := "([CII)[B" } : Jvm.MethodName) jdk_52_method_16_code (6 : Nat) (Option.some (Jvm.ClassFile.FieldType.array Jvm.ClassFile.FieldType.byte)), Jvm.Cond.code ({ cls := "java/lang/StringUTF16", name := "compress", desc := "([CI[BII)I" } : Jvm.MethodName) jdk_52_method_21_code (7 : Nat) (Option.some Jvm.ClassFile.FieldType.int), Jvm.Cond.code ({ cls := "java/lang/StringUTF16", name := "toBytes", desc := "([CII)[B" } : Jvm.MethodName) jdk_52_method_14_code (5 : Nat) (Option.some (Jvm.ClassFile.FieldType.array Jvm.ClassFile.FieldType.byte)), Jvm.Cond.code ({ cls := "java/lang/StringUTF16", name := "newBytesFor", desc := "(I)[B" } : Jvm.MethodName) jdk_52_method_2_code (1 : Nat) (Option.some (Jvm.ClassFile.FieldType.array Jvm.ClassFile.FieldType.byte)), Jvm.Cond.code ({ cls := "java/lang/StringUTF16", name := "newBytesLength", desc := "(I)I" } : Jvm.MethodName) jdk_52_method_3_code (1 : Nat) (Option.some Jvm.ClassFile.FieldType.int), Jvm.Cond.code ({ cls := "java/lang/StringUTF16", name := "putChar", desc := "([BII)V" } : Jvm.MethodName) jdk_52_method_4_code (3 : Nat) (Option.none : Option Jvm.ClassFile.FieldType), Jvm.Cond.code ({ cls := "java/lang/StringUTF16", name := "getChar", desc := "([BI)C" } : Jvm.MethodName) jdk_52_method_5_code (2 : Nat) (Option.some Jvm.ClassFile.FieldType.char), Jvm.Cond.code ({ cls := "java/lang/StringUTF16", name := "coderFromArrayLen", desc := "([BI)B" } : Jvm.MethodName) jdk_52_method_15_code (2 : Nat) (Option.some Jvm.ClassFile.FieldType.byte), Jvm.Cond.code ({ cls := "com/example/cohabit/cohabit/NumbersIsDecimalPinLaw", name := "step", desc := "(IC)I" } : Jvm.MethodName) method_8_code (2 : Nat) (Option.some Jvm.ClassFile.FieldType.int), Jvm.Cond.code ({ cls := "com/example/cohabit/cohabit/NumbersIsDecimalPinLaw", name := "digit", desc := "(C)Z" } : Jvm.MethodName) method_5_code (1 : Nat) (Option.some Jvm.ClassFile.FieldType.boolean), Jvm.Cond.code ({ cls := "com/example/cohabit/cohabit/NumbersIsDecimalPinLaw", name := "sign", desc := "(C)Z" } : Jvm.MethodName) method_6_code (1 : Nat) (Option.some Jvm.ClassFile.FieldType.boolean), Jvm.Cond.code ({ cls := "java/lang/String", name := "charAt", desc := "(I)C" } : Jvm.MethodName) jdk_42_method_56_code (2 : Nat) (Option.some Jvm.ClassFile.FieldType.char), Jvm.Cond.code ({ cls := "java/lang/String", name := "isLatin1", desc := "()Z" } : Jvm.MethodName) jdk_42_method_154_code (1 : Nat) (Option.some Jvm.ClassFile.FieldType.boolean), Jvm.Cond.code ({ cls := "java/lang/StringUTF16", name := "charAt", desc := "([BI)C" } : Jvm.MethodName) jdk_52_method_83_code (2 : Nat) (Option.some Jvm.ClassFile.FieldType.char), Jvm.Cond.code ({ cls := "java/lang/StringUTF16", name := "checkIndex", desc := "(I[B)V" } : Jvm.MethodName) jdk_52_method_91_code (2 : Nat) (Option.none : Option Jvm.ClassFile.FieldType), Jvm.Cond.code ({ cls := "java/lang/StringUTF16", name := "length", desc := "([B)I" } : Jvm.MethodName) jdk_52_method_6_code (1 : Nat) (Option.some Jvm.ClassFile.FieldType.int), Jvm.Cond.code ({ cls := "java/lang/String", name := "checkIndex", desc := "(II)V" } : Jvm.MethodName) jdk_42_method_155_code (2 : Nat) (Option.none : Option Jvm.ClassFile.FieldType), Jvm.Cond.code ({ cls := "jdk/internal/util/Preconditions", name := "checkIndex", desc := "(IILjava/util/function/BiFunction;)I" } : Jvm.MethodName) jdk_41_method_11_code (3 : Nat) (Option.some Jvm.ClassFile.FieldType.int), Jvm.Cond.code ({ cls := "com/example/cohabit/cohabit/NumbersIsDecimalPinLaw", name := "expo", desc := "(C)Z" } : Jvm.MethodName) method_7_code (1 : Nat) (Option.some Jvm.ClassFile.FieldType.boolean), Jvm.Cond.code ({ cls := "java/lang/StringLatin1", name := "charAt", desc := "([BI)C" } : Jvm.MethodName) jdk_43_method_2_code (2 : Nat) (Option.some Jvm.ClassFile.FieldType.char)]
set_option maxRecDepth 65536 in
theorem codes_eq : words1.filter isCode = codes1 := rfl
theorem w_codes : ∀ c ∈ words1.filter isCode, c.before args0 about1 = true := by
  rw [codes_eq]
  intro c hc
  simp only [codes1, List.mem_cons, List.not_mem_nil, or_false] at hc
  rcases hc with rfl | rfl | rfl | rfl | rfl | rfl | rfl | rfl | rfl | rfl | rfl | rfl | rfl | rfl | rfl | rfl | rfl | rfl | rfl | rfl | rfl | rfl | rfl | rfl | rfl | rfl | rfl | rfl | rfl | rfl
  · exact w_c0
  · exact w_c1
  · exact w_c2
  · exact w_c3
  · exact w_c4
  · exact w_c5
  · exact w_c6
  · exact w_c7
  · exact w_c8
  · exact w_c9
  · exact w_c10
  · exact w_c11
  · exact w_c12
  · exact w_c13
  · exact w_c14
  · exact w_c15
  · exact w_c16
  · exact w_c17
  · exact w_c18
  · exact w_c19
  · exact w_c20
  · exact w_c21
  · exact w_c22
  · exact w_c23
  · exact w_c24
  · exact w_c25
  · exact w_c26
  · exact w_c27
  · exact w_c28
  · exact w_c29
set_option maxRecDepth 65536 in
theorem w_t1 : (words1.take 24).all (fun c => isCode c || c.before args0 about1) = true := by decide +kernel
set_option maxRecDepth 65536 in
theorem w_t2 : ((words1.drop 24).take 24).all (fun c => isCode c || c.before args0 about1) = true := by decide +kernel
set_option maxRecDepth 65536 in
theorem w_t3 : (((words1.drop 24).drop 24).take 24).all (fun c => isCode c || c.before args0 about1) = true := by decide +kernel
set_option maxRecDepth 65536 in
theorem w_t4 : ((((words1.drop 24).drop 24).drop 24).take 24).all (fun c => isCode c || c.before args0 about1) = true := by decide +kernel
set_option maxRecDepth 65536 in
theorem w_t5 : (((((words1.drop 24).drop 24).drop 24).drop 24).take 24).all (fun c => isCode c || c.before args0 about1) = true := by decide +kernel
set_option maxRecDepth 65536 in
theorem w_t6 : (((((words1.drop 24).drop 24).drop 24).drop 24).drop 24).all (fun c => isCode c || c.before args0 about1) = true := by decide +kernel
theorem w_tables : (allAtoms (Jvm.Cond.code x code maxLocals ret :: tables_1)).before args0 about1 = true := by
  rw [allAtoms_all]
  show words1.all (fun c => c.before args0 about1) = true
  refine all_split ?_ w_codes
  rw [← List.take_append_drop 24 words1, List.all_append, w_t1, ← List.take_append_drop 24 (words1.drop 24), List.all_append, w_t2, ← List.take_append_drop 24 ((words1.drop 24).drop 24), List.all_append, w_t3, ← List.take_append_drop 24 (((words1.drop 24).drop 24).drop 24), List.all_append, w_t4, ← List.take_append_drop 24 ((((words1.drop 24).drop 24).drop 24).drop 24), List.all_append, w_t5, w_t6]
  rfl
set_option maxRecDepth 65536 in
theorem w_rest : rest_1_c.before args0 about1 = true := by decide +kernel
set_option maxRecDepth 65536 in
theorem w_case : (Jvm.Cond.and given_1 narrow_1).before args0 about1 = true := by decide +kernel
set_option maxRecDepth 65536 in
theorem w_consts : constsHeld consts_1 about1 := Jvm.Lit.constsHeldB_iff.mp (by decide +kernel)
theorem w_applies : (headSpec (Jvm.Cond.code x code maxLocals ret :: tables_1) room_1).applies x e0.platform about1 = true :=
  (Spec.applies_iff w_frames).mpr ⟨w_running, w_runnable, w_alone, w_named, w_hears, w_ripe, w_room, w_tables⟩
theorem atStart : AtStart classFile x code maxLocals ret World_1 tables_1 room_1 Calls_1 rest_1 Pre_1 launch0 p0 e0 about1 theMethod args0 below0 :=
  ⟨lists_1, trivial, launch0.admits_env _ _ _, launch0.least_env, fairChoices_fair.cas, fairChoices_fair.clock, w_frames, w_args, w_heap, w_applies, ⟨w_consts, trivial⟩, w_rest, w_case⟩
end start1
theorem witness_1 : WitnessClaimed_1 := ⟨start1.p0, start1.e0, start1.about1, start1.theMethod, start1.args0, start1.below0, start1.atStart⟩
end Jvm.Pilot.@@N@@
