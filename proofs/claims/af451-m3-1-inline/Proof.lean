import JvmDerived
import JvmDerived.Pilot.@@N@@Statement
import JvmDerived.Pilot.@@N@@Code
set_option linter.unusedVariables false
set_option linter.unusedSimpArgs false
set_option maxRecDepth 65536
set_option maxHeartbeats 40000000
namespace Jvm.Own
open Jvm Jvm.ClassFile Sem Op Lib Jvm.Free Jvm.Stand Jvm.LawKit Jvm.RoadKit Bundle
section Walk
def Endw (p : Program) (e : Env) (below : List Frame) (T : State) (g : JFrame) (F : Outcome → State → Prop) : Prop :=
  ∃ s₂ o, Steps p.tables e below (T.setTop g) s₂ ∧ s₂.status = .running ∧ Ended s₂ below o ∧ F o s₂
def Core (p : Program) (l : Launch) (e : Env) (R : Room) (s : State) (m : MethodId) (args : Array Value) (below : List Frame) (meth : Method) (c : Code) (bs : ByteArray) (ml : Nat) (ret : Option FieldType) (nm own : String) (Z : State) (a0 : Array Value) (EL : List (String × Nat)) (nw : Bool) (vm : Vm) (T : State) (h : Heap) (k n : Nat) : Prop :=
  (p.tables.exec = Jvm.exec ∧ c.code = bs ∧ c.maxLocals = ml ∧ meth.sig.returnType = ret ∧ meth.locks = false ∧ meth.name = nm ∧ EW Z a0 EL) ∧
  (∃ L, Stand p l e R (s.setVm vm) m args below meth c T L k n ∧ Fr Z.heap.size L) ∧ T.heap = h ∧ Z.Warmed39 vm ∧ vm.findClass own = some m.cls ∧ (∃ k0, s.Since vm k0 ∧ k0 ≤ h.size) ∧ CHr Z EL s.vm s.heap vm h ∧ Ext Z.heap h ∧ (nw = true → s.WarmedH vm ∧ ∀ y, Bk Z EL vm h y → Bk Z EL s.vm s.heap y)
def Fin (s : State) (Z : State) (EL : List (String × Nat)) (nw : Bool) (Q : Option Value → Heap → Prop) (K N : Nat) (o : Outcome) (U : State) : Prop :=
  ∃ v L, o = .returned v ∧ (Q v U.heap ∧ Fr Z.heap.size L ∧ Ext Z.heap U.heap) ∧ (CHr Z EL s.vm s.heap U.vm U.heap ∧ (nw = true → s.WarmedH U.vm ∧ ∀ y, Bk Z EL U.vm U.heap y → Bk Z EL s.vm s.heap y)) ∧ ReturnedEndW s o U L K N
def Met (l : Launch) (Z : State) (EL : List (String × Nat)) (nw : Bool) (y : MethodName) (bs : ByteArray) (ml : Nat) (ret : Option FieldType) (ws : List Jvm.Cond) (rm : Room) (as' : Array Value) (h : Heap) (xs : List Addr) (Q : Option Value → Heap → Prop) : Prop :=
  MetFree l y (head1 (Jvm.Cond.code y bs ml ret :: ws) rm) (fun a U => a = as' ∧ Z.Warmed39 U.vm ∧ U.heap = h ∧ CHv Z EL U.vm h ∧ ∀ x ∈ xs, Safe Z EL U.vm h x) (fun _ _ _ _ _ => True)
    (fun _ U o U' => Fin U Z EL nw Q rm.cells rm.slots o U')
variable {p : Program} {l : Launch} {e : Env} {R : Room} {s : State} {m : MethodId} {args : Array Value} {below : List Frame} {meth : Method} {c : Code}
variable {bs : ByteArray} {ml : Nat} {ret : Option FieldType} {nm own : String} {Z : State} {a0 : Array Value} {EL : List (String × Nat)} {nw : Bool} {vm : Vm} {T T' : State} {h h' : Heap} {k n k' n' : Nat} {F : Outcome → State → Prop} {pc pc' : Nat} {Ls : Array Slot} {rest : List Value} {g g' : JFrame} {Q : Option Value → Heap → Prop}
theorem Endw.st (q : ∀ t, Steps p.tables e below (T'.setTop g') t → Steps p.tables e below (T.setTop g) t) (E : Endw p e below T' g' F) : Endw p e below T g F := by
  obtain ⟨s₂, o, h1, h2⟩ := E; exact ⟨s₂, o, q _ h1, h2⟩
theorem Endw.ste (q : Steps p.tables e below (T.setTop g) (T'.setTop g')) (E : Endw p e below T' g' F) : Endw p e below T g F := Endw.st (fun _ r => q.trans r) E
theorem Endw.eq (q : g = g') (E : Endw p e below T g' F) : Endw p e below T g F := q ▸ E
section Reads
theorem Core.hx (C : Core p l e R s m args below meth c bs ml ret nm own Z a0 EL nw vm T h k n) : p.tables.exec = Jvm.exec := C.1.1
theorem Core.dec (C : Core p l e R s m args below meth c bs ml ret nm own Z a0 EL nw vm T h k n) {r : Except DecodeError (Instr × Nat)} (hd : decode bs pc = r) : decode c.code pc = r := hb C.1.2.1 hd
theorem Core.mlq (C : Core p l e R s m args below meth c bs ml ret nm own Z a0 EL nw vm T h k n) : c.maxLocals = ml := C.1.2.2.1
theorem Core.rtq (C : Core p l e R s m args below meth c bs ml ret nm own Z a0 EL nw vm T h k n) : meth.sig.returnType = ret := C.1.2.2.2.1
theorem Core.locks (C : Core p l e R s m args below meth c bs ml ret nm own Z a0 EL nw vm T h k n) : meth.locks = false := C.1.2.2.2.2.1
theorem Core.nam (C : Core p l e R s m args below meth c bs ml ret nm own Z a0 EL nw vm T h k n) : meth.name = nm := C.1.2.2.2.2.2.1
theorem Core.ew (C : Core p l e R s m args below meth c bs ml ret nm own Z a0 EL nw vm T h k n) : EW Z a0 EL := C.1.2.2.2.2.2.2
theorem Core.here (C : Core p l e R s m args below meth c bs ml ret nm own Z a0 EL nw vm T h k n) : At T m c below := by obtain ⟨-, ⟨_, X, -⟩, -⟩ := C; exact X.here
theorem Core.heq (C : Core p l e R s m args below meth c bs ml ret nm own Z a0 EL nw vm T h k n) : T.heap = h := C.2.2.1
theorem Core.warm (C : Core p l e R s m args below meth c bs ml ret nm own Z a0 EL nw vm T h k n) : Z.Warmed39 vm := C.2.2.2.1
theorem Core.hown (C : Core p l e R s m args below meth c bs ml ret nm own Z a0 EL nw vm T h k n) : vm.findClass own = some m.cls := C.2.2.2.2.1
theorem Core.since (C : Core p l e R s m args below meth c bs ml ret nm own Z a0 EL nw vm T h k n) : ∃ k0, s.Since vm k0 ∧ k0 ≤ h.size := C.2.2.2.2.2.1
theorem Core.chr (C : Core p l e R s m args below meth c bs ml ret nm own Z a0 EL nw vm T h k n) : CHr Z EL s.vm s.heap vm h := C.2.2.2.2.2.2.1
theorem Core.chv (C : Core p l e R s m args below meth c bs ml ret nm own Z a0 EL nw vm T h k n) : CHv Z EL vm h := C.chr.1
theorem Core.old (C : Core p l e R s m args below meth c bs ml ret nm own Z a0 EL nw vm T h k n) : Ext Z.heap h := C.2.2.2.2.2.2.2.1
theorem Core.nwm (C : Core p l e R s m args below meth c bs ml ret nm own Z a0 EL nw vm T h k n) : nw = true → s.WarmedH vm ∧ ∀ y, Bk Z EL vm h y → Bk Z EL s.vm s.heap y := C.2.2.2.2.2.2.2.2
theorem Core.le (C : Core p l e R s m args below meth c bs ml ret nm own Z a0 EL nw vm T h k n) : Z.heap.size ≤ h.size := C.old.1
end Reads
theorem CHr.step (A : CHr Z EL s.vm s.heap vm h) (B : CHr Z EL vm h vm h') : CHr Z EL s.vm s.heap vm h' := A.trans B
theorem old_keep {ws : List Addr} (O : Ext Z.heap h) (K : Keep h h' ws) (q : ∀ x ∈ ws, Z.heap.size ≤ x) : Ext Z.heap h' :=
  ⟨Nat.le_trans O.1 K.1, fun x c r => K.2.1 x c (O.2 x c r) fun z => absurd (Array.getElem?_eq_some_iff.mp r).1 (Nat.not_lt.mpr (q x z))⟩
theorem keep_of_ext (E : Ext h h') : Keep h h' [] := (Keep.refl h []).ext E
theorem Core.on (C : Core p l e R s m args below meth c bs ml ret nm own Z a0 EL nw vm T h k n) {ws : List Addr} {L' : List Loc} (X' : Stand p l e R (s.setVm vm) m args below meth c T' L' k' n') (N : Fr Z.heap.size L') (e' : T'.heap = h') (K : Keep h h' ws) (q : ∀ x ∈ ws, Z.heap.size ≤ x) (S : ∀ x ∈ ws, Safe Z EL vm h x) :
    Core p l e R s m args below meth c bs ml ret nm own Z a0 EL nw vm T' h' k' n' :=
  ⟨C.1, ⟨L', X', N⟩, e', C.warm, C.hown, by obtain ⟨k0, h1, h2⟩ := C.since; exact ⟨k0, h1, Nat.le_trans h2 K.1⟩, CHr.step C.chr (CHr.keep K S C.chv), old_keep C.old K q, fun z => ⟨(C.nwm z).1, fun y b => (C.nwm z).2 y ((CHv.keepStep K S C.chv).2 y b)⟩⟩
theorem Core.same (C : Core p l e R s m args below meth c bs ml ret nm own Z a0 EL nw vm T h k n) {L' : List Loc} (X' : Stand p l e R (s.setVm vm) m args below meth c T' L' k' n') (N : Fr Z.heap.size L') (e' : T'.heap = h) :
    Core p l e R s m args below meth c bs ml ret nm own Z a0 EL nw vm T' h k' n' :=
  C.on (ws := []) X' N e' (Keep.refl _ _) all0 sf0
theorem Core.getF (C : Core p l e R s m args below meth c bs ml ret nm own Z a0 EL nw vm T h k n) {O nm' d : String} {ix : Nat} {a : Addr} {v : Value} (w : (Jvm.Cond.fieldLink own ix O nm' d).before a0 Z = true) (f : Fld Z h a O nm' d v) (hd : decode bs pc = .ok (.getfield ix, 3)) (hp : pc + 3 = pc')
    (K : ∀ T', Core p l e R s m args below meth c bs ml ret nm own Z a0 EL nw vm T' h k n → Endw p e below T' (mkF m pc' Ls (v :: rest)) F) : Endw p e below T (mkF m pc Ls (.ref a :: rest)) F := by
  subst hp
  obtain ⟨-, ⟨L, X, N⟩, -⟩ := id C
  obtain ⟨T', X', e', st⟩ := RoadKit.getF X C.hx C.warm C.hown (host := "") (Or.inl w) Via.refl C.heq f (g := mkF m pc Ls (.ref a :: rest)) rfl rfl (C.dec hd)
  exact Endw.st st (K T' (C.same X' N e'))
theorem Core.getFV (C : Core p l e R s m args below meth c bs ml ret nm own Z a0 EL nw vm T h k n) {R0 O nm' d : String} {ix : Nat} {a : Addr} {v : Value} (w : (Jvm.Cond.fieldLink own ix R0 nm' d).before a0 Z = true) (via : Via Z R0 O nm' d) (f : Fld Z h a O nm' d v) (hd : decode bs pc = .ok (.getfield ix, 3)) (hp : pc + 3 = pc')
    (K : ∀ T', Core p l e R s m args below meth c bs ml ret nm own Z a0 EL nw vm T' h k n → Endw p e below T' (mkF m pc' Ls (v :: rest)) F) : Endw p e below T (mkF m pc Ls (.ref a :: rest)) F := by
  subst hp
  obtain ⟨-, ⟨L, X, N⟩, -⟩ := id C
  obtain ⟨T', X', e', st⟩ := RoadKit.getF X C.hx C.warm C.hown (host := "") (Or.inl w) via C.heq f (g := mkF m pc Ls (.ref a :: rest)) rfl rfl (C.dec hd)
  exact Endw.st st (K T' (C.same X' N e'))
theorem Core.getS (C : Core p l e R s m args below meth c bs ml ret nm own Z a0 EL nw vm T h k n) {O nm' d : String} {ix : Nat} {v : Value} (w : (Jvm.Cond.fieldLink own ix O nm' d).before a0 Z = true) (f : Sta Z Z.heap O nm' d v) (hd : decode bs pc = .ok (.getstatic ix, 3)) (hp : pc + 3 = pc')
    (K : ∀ T', Core p l e R s m args below meth c bs ml ret nm own Z a0 EL nw vm T' h k n → Endw p e below T' (mkF m pc' Ls (v :: rest)) F) : Endw p e below T (mkF m pc Ls rest) F := by
  subst hp
  obtain ⟨-, ⟨L, X, N⟩, -⟩ := id C
  obtain ⟨T', X', e', st⟩ := RoadKit.getS X C.hx C.warm C.hown (host := "") w Via.refl C.heq (f.ext C.old) (g := mkF m pc Ls rest) rfl (C.dec hd)
  exact Endw.st st (K T' (C.same X' N e'))
theorem Core.putF (C : Core p l e R s m args below meth c bs ml ret nm own Z a0 EL nw vm T h k n) {O nm' d Cl : String} {ix kk : Nat} {a : Addr} {v old : Value} {ty : FieldType} (w : (Jvm.Cond.fieldLink own ix O nm' d).before a0 Z = true) (f : Fld Z h a O nm' d old) (E : Exa Z h a Cl) (la : (Jvm.Cond.lays Cl O nm' d).before a0 Z = true ∨ ((Jvm.Cond.laysFinal Cl O nm' d).before a0 Z = true ∧ own = O ∧ nm = "<init>")) (wi : (Jvm.Cond.instantiable Cl kk).before a0 Z = true)
    (hty : parseFieldDescriptor d = some ty) (hn : narrow ty v = v) (hf : fits ty v = true) (ge : Z.heap.size ≤ a) (sf : Safe Z EL vm h a) (hd : decode bs pc = .ok (.putfield ix, 3)) (hp : pc + 3 = pc')
    (K : ∀ T' h', Core p l e R s m args below meth c bs ml ret nm own Z a0 EL nw vm T' h' k n → Keep h h' [a] → CHr Z EL vm h vm h' → Wr h h' a (RoadKit.slotOf Z O nm' d) v → Endw p e below T' (mkF m pc' Ls rest) F) : Endw p e below T (mkF m pc Ls (v :: .ref a :: rest)) F := by
  subst hp
  obtain ⟨-, ⟨L, X, N⟩, -⟩ := id C
  obtain ⟨T', h', X', e', W, st⟩ := RoadKit.putF X C.hx C.warm C.hown (host := "") (Or.inl w) Via.refl C.heq f E (la.imp id fun q => ⟨q.1, q.2.1, C.nam.trans q.2.2⟩) wi hty hn hf (g := mkF m pc Ls (v :: .ref a :: rest)) rfl rfl (C.dec hd)
  exact Endw.st st (K T' h' (C.on (ws := [a]) X' (N.app fun y hy => by cases List.mem_singleton.mp hy; exact ge) e' (Keep.of_wr W) (allS ge all0) (sfS sf sf0)) (Keep.of_wr W) (CHr.keep (Keep.of_wr W) (sfS sf sf0) C.chv) W)
theorem Core.new (C : Core p l e R s m args below meth c bs ml ret nm own Z a0 EL nw vm T h k n) {Cl : String} {ix nn : Nat} (w : (Jvm.Cond.classLink own ix Cl).before a0 Z = true) (wi : (Jvm.Cond.instantiable Cl nn).before a0 Z = true) (wz : (Jvm.Cond.initialized Cl).before a0 Z = true) (hd : decode bs pc = .ok (.new ix, 3)) (hp : pc + 3 = pc') (hk : k + 1 ≤ R.cells) (hn : n + nn ≤ R.slots)
    (K : ∀ T' h' x, Core p l e R s m args below meth c bs ml ret nm own Z a0 EL nw vm T' h' (k + 1) (n + nn) → Keep h h' [] → CHr Z EL vm h vm h' → h.size ≤ x → Z.heap.size ≤ x → Exa Z h' x Cl → (∀ {O nm d : String} {ty : FieldType}, Laid Z a0 Cl O nm d → parseFieldDescriptor d = some ty → Fld Z h' x O nm d (defaultValue ty)) → Safe Z EL vm h' x → Endw p e below T' (mkF m pc' Ls (.ref x :: rest)) F) : Endw p e below T (mkF m pc Ls rest) F := by
  subst hp
  obtain ⟨-, ⟨L, X, N⟩, -⟩ := id C
  obtain ⟨T', h', X', e', E, A, D, -, st⟩ := RoadKit.newO X C.hx C.warm C.hown w wi wz C.heq (g := mkF m pc Ls rest) rfl (C.dec hd) hk hn
  exact Endw.st st (K T' h' h.size (C.on (ws := []) X' N e' (keep_of_ext E) all0 sf0) (keep_of_ext E) (CHr.keep (keep_of_ext E) sf0 C.chv) (Nat.le_refl _) C.le A D (Safe.ext E C.chv (Safe.new (Nat.le_refl _))))
theorem Core.newA (C : Core p l e R s m args below meth c bs ml ret nm own Z a0 EL nw vm T h k n) {aty : ArrayType} {z : Int32} {cap : Nat} {vs : List Value} (w : (Jvm.Cond.arrayClass (newarray.typeOf aty)).before a0 Z = true) (hd : decode bs pc = .ok (.newarray aty, 2)) (hp : pc + 2 = pc') (hz : ¬ z < 0) (hcap : z.toNatClampNeg ≤ cap) (hb : cap * 8 ≤ 536870912) (hk : k + 1 ≤ R.cells) (hn : n + cap ≤ R.slots) (hvs : vs = List.replicate vs.length (defaultValue (newarray.typeOf aty)))
    (K : ∀ T' h' x kA, Core p l e R s m args below meth c bs ml ret nm own Z a0 EL nw vm T' h' (k + 1) (n + cap) → Keep h h' [] → CHr Z EL vm h vm h' → h.size ≤ x → Z.heap.size ≤ x → Arv Z h' x kA (newarray.typeOf aty) z vs (defaultValue (newarray.typeOf aty)) → Safe Z EL vm h' x → Endw p e below T' (mkF m pc' Ls (.ref x :: rest)) F) : Endw p e below T (mkF m pc Ls (.int z :: rest)) F := by
  subst hp
  obtain ⟨-, ⟨L, X, N⟩, -⟩ := id C
  obtain ⟨T', h', cA, X', e', E, A, st⟩ := RoadKit.newP X C.hx C.warm w C.heq (g := mkF m pc Ls (.int z :: rest)) rfl (C.dec hd) rfl hz hcap hb hk hn
  have q := (Arv.new A hz).pad (vs' := [] ++ List.replicate vs.length (defaultValue (newarray.typeOf aty))) (pad_rep _ _ _)
  rw [List.nil_append, ← hvs] at q
  exact Endw.st st (K T' h' h.size cA (C.on (ws := []) X' N e' (keep_of_ext E) all0 sf0) (keep_of_ext E) (CHr.keep (keep_of_ext E) sf0 C.chv) (Nat.le_refl _) C.le q (Safe.ext E C.chv (Safe.new (Nat.le_refl _))))
theorem Core.len (C : Core p l e R s m args below meth c bs ml ret nm own Z a0 EL nw vm T h k n) {a : Addr} {kA : ClassId} {ty : FieldType} {z : Int32} {vs : List Value} {dv : Value} (A : Arv Z h a kA ty z vs dv) (hd : decode bs pc = .ok (.arraylength, 1)) (hp : pc + 1 = pc')
    (K : Endw p e below T (mkF m pc' Ls (.int z :: rest)) F) : Endw p e below T (mkF m pc Ls (.ref a :: rest)) F := by
  subst hp
  obtain ⟨-, ⟨L, X, N⟩, -⟩ := id C
  obtain ⟨cl, Ar, -, S, hz, -⟩ := A
  refine Endw.st (fun t r => X.arraylength C.hx (by rw [C.heq]; exact Ar.1) (State.isArrayOf_alike C.warm.alike Ar.2.1) (g := mkF m pc Ls (.ref a :: rest)) rfl rfl (C.dec hd) t r) ?_
  rw [len_of S hz]; exact K
theorem Core.caload (C : Core p l e R s m args below meth c bs ml ret nm own Z a0 EL nw vm T h k n) {a : Addr} {kA : ClassId} {z j : Int32} {vs : List Value} {dv v : Value} (A : Arv Z h a kA .char z vs dv) (hj : ¬ j < 0 ∧ j < z) (hv : vs.getD j.toNatClampNeg dv = v) (hd : decode bs pc = .ok (.caload, 1)) (hp : pc + 1 = pc')
    (K : Endw p e below T (mkF m pc' Ls (v :: rest)) F) : Endw p e below T (mkF m pc Ls (.int j :: .ref a :: rest)) F := by
  subst hp
  obtain ⟨-, ⟨L, X, N⟩, -⟩ := id C
  obtain ⟨cl, Ar, -, S, hz, H, -⟩ := A
  exact Endw.st (fun t r => X.caload C.hx (by rw [C.heq]; exact Ar.1) (State.isArrayOf_alike C.warm.alike Ar.2.1) Ar.2.2 (inb_of S hj) (H.at (inb_of S hj) hv) (g := mkF m pc Ls (.int j :: .ref a :: rest)) rfl rfl (C.dec hd) t r) K
theorem Core.baload (C : Core p l e R s m args below meth c bs ml ret nm own Z a0 EL nw vm T h k n) {a : Addr} {kA : ClassId} {z j : Int32} {vs : List Value} {dv v : Value} (A : Arv Z h a kA .byte z vs dv) (hj : ¬ j < 0 ∧ j < z) (hv : vs.getD j.toNatClampNeg dv = v) (hd : decode bs pc = .ok (.baload, 1)) (hp : pc + 1 = pc')
    (K : Endw p e below T (mkF m pc' Ls (v :: rest)) F) : Endw p e below T (mkF m pc Ls (.int j :: .ref a :: rest)) F := by
  subst hp
  obtain ⟨-, ⟨L, X, N⟩, -⟩ := id C
  obtain ⟨cl, Ar, -, S, hz, H, -⟩ := A
  exact Endw.st (fun t r => X.baloadBytes C.hx (by rw [C.heq]; exact Ar.1) (State.isArrayOf_alike C.warm.alike Ar.2.1) Ar.2.2 (inb_of S hj) (H.at (inb_of S hj) hv) (g := mkF m pc Ls (.int j :: .ref a :: rest)) rfl rfl (C.dec hd) t r) K
theorem Core.aaload (C : Core p l e R s m args below meth c bs ml ret nm own Z a0 EL nw vm T h k n) {a : Addr} {kA : ClassId} {ty : FieldType} {z j : Int32} {vs : List Value} {dv v : Value} (A : Arv Z h a kA ty z vs dv) (hty : ty.isReference = true) (hj : ¬ j < 0 ∧ j < z) (hv : vs.getD j.toNatClampNeg dv = v) (hd : decode bs pc = .ok (.aaload, 1)) (hp : pc + 1 = pc')
    (K : Endw p e below T (mkF m pc' Ls (v :: rest)) F) : Endw p e below T (mkF m pc Ls (.int j :: .ref a :: rest)) F := by
  subst hp
  obtain ⟨-, ⟨L, X, N⟩, -⟩ := id C
  obtain ⟨cl, Ar, -, S, hz, H, -⟩ := A
  exact Endw.st (fun t r => X.aaload C.hx (by rw [C.heq]; exact Ar.1) (State.isArrayOf_alike C.warm.alike Ar.2.1) hty Ar.2.2 (inb_of S hj) (H.at (inb_of S hj) hv) (g := mkF m pc Ls (.int j :: .ref a :: rest)) rfl rfl (C.dec hd) t r) K
theorem Core.castore (C : Core p l e R s m args below meth c bs ml ret nm own Z a0 EL nw vm T h k n) {a : Addr} {kA : ClassId} {z j x x' : Int32} {vs vs' : List Value} {dv : Value} (A : Arv Z h a kA .char z vs dv) (hj : ¬ j < 0 ∧ j < z) (i : Nat) (hi : j.toNatClampNeg = i) (hl : i < vs.length) (hx' : nar .char x = x') (ge : Z.heap.size ≤ a) (hvs : vs.set i (.int x') = vs') (hd : decode bs pc = .ok (.castore, 1)) (hp : pc + 1 = pc')
    (K : ∀ T' h', Core p l e R s m args below meth c bs ml ret nm own Z a0 EL nw vm T' h' k n → Keep h h' [a] → CHr Z EL vm h vm h' → Arv Z h' a kA .char z vs' dv → Endw p e below T' (mkF m pc' Ls rest) F) : Endw p e below T (mkF m pc Ls (.int x :: .int j :: .ref a :: rest)) F := by
  subst hp hx' hvs
  obtain ⟨-, ⟨L, X, N⟩, -⟩ := id C
  have sf : Safe Z EL vm h a := Safe.arv C.warm.alike A (by decide)
  obtain ⟨cl, Ar, q1, S, hz, H, G⟩ := A
  obtain ⟨T', h', X', e', W, st⟩ := RoadKit.stC X C.hx C.warm C.heq Ar (inb_of S hj) (g := mkF m pc Ls (.int x :: .int j :: .ref a :: rest)) rfl rfl (C.dec hd)
  exact Endw.st st (K T' h' (C.on (ws := [a]) X' (N.app fun y hy => by cases List.mem_singleton.mp hy; exact ge) e' (Keep.of_wr W) (allS ge all0) (sfS sf sf0)) (Keep.of_wr W) (CHr.keep (Keep.of_wr W) (sfS sf sf0) C.chv) (Arv.set Ar q1 S hz H G (fits_nar_char _) W i hi hl))
theorem Core.bastore (C : Core p l e R s m args below meth c bs ml ret nm own Z a0 EL nw vm T h k n) {a : Addr} {kA : ClassId} {z j x x' : Int32} {vs vs' : List Value} {dv : Value} (A : Arv Z h a kA .byte z vs dv) (hj : ¬ j < 0 ∧ j < z) (i : Nat) (hi : j.toNatClampNeg = i) (hl : i < vs.length) (hx' : nar .byte x = x') (ge : Z.heap.size ≤ a) (sf : Safe Z EL vm h a) (hvs : vs.set i (.int x') = vs') (hd : decode bs pc = .ok (.bastore, 1)) (hp : pc + 1 = pc')
    (K : ∀ T' h', Core p l e R s m args below meth c bs ml ret nm own Z a0 EL nw vm T' h' k n → Keep h h' [a] → CHr Z EL vm h vm h' → Arv Z h' a kA .byte z vs' dv → Endw p e below T' (mkF m pc' Ls rest) F) : Endw p e below T (mkF m pc Ls (.int x :: .int j :: .ref a :: rest)) F := by
  subst hp hx' hvs
  obtain ⟨-, ⟨L, X, N⟩, -⟩ := id C
  obtain ⟨cl, Ar, q1, S, hz, H, G⟩ := A
  obtain ⟨T', h', X', e', W, st⟩ := RoadKit.stB X C.hx C.warm C.heq Ar (inb_of S hj) (g := mkF m pc Ls (.int x :: .int j :: .ref a :: rest)) rfl rfl (C.dec hd)
  exact Endw.st st (K T' h' (C.on (ws := [a]) X' (N.app fun y hy => by cases List.mem_singleton.mp hy; exact ge) e' (Keep.of_wr W) (allS ge all0) (sfS sf sf0)) (Keep.of_wr W) (CHr.keep (Keep.of_wr W) (sfS sf sf0) C.chv) (Arv.set Ar q1 S hz H G (fits_nar_byte _) W i hi hl))
theorem Core.initO (C : Core p l e R s m args below meth c bs ml ret nm own Z a0 EL nw vm T h k n) {ix : Nat} {a : Addr} (w1 : (Jvm.Cond.methodLink own ix Lib.objectInit).before a0 Z = true) (w2 : (Jvm.Cond.instanceMethod Lib.objectInit).before a0 Z = true) (w3 : (Jvm.Cond.code Lib.objectInit ⟨#[0xb1]⟩ 1 none).before a0 Z = true) (hsz : Ls.size = ml) (hd : decode bs pc = .ok (.invokespecial ix, 3)) (hp : pc + 3 = pc') (hf : 1 ≤ R.frames) {W : Nat} (hW : (rest.map fun v => v.category).sum ≤ W) (hl : W + 12 ≤ R.locals)
    (K : ∀ T', Core p l e R s m args below meth c bs ml ret nm own Z a0 EL nw vm T' h k n → Endw p e below T' (mkF m pc' Ls rest) F) : Endw p e below T (mkF m pc Ls (.ref a :: rest)) F := by
  subst hp
  obtain ⟨-, ⟨L, X, N⟩, -⟩ := id C
  obtain ⟨T', X', e', st⟩ := RoadKit.initO X C.hx C.warm C.hown w1 w2 w3 C.heq (g := mkF m pc Ls (.ref a :: rest)) rfl (hsz.trans C.mlq.symm) rfl (C.dec hd) hf (W := W) (by show 2 * 0 + _ ≤ _; omega) hl
  exact Endw.st st (K T' (C.same X' N e'))
/-! ## calls by a contract of ours -/
theorem backOwn {nw' : Bool} {y : MethodName} {bytes : ByteArray} {mx : Nat} {rt : Option FieldType} {rm : Room} {len W : Nat} {as' : Array Value} {xs : List Addr} (hM : Met l Z EL nw' y bytes mx rt [] rm as' h xs Q) (hZ : Z.Warmed39 vm) (wc : (Jvm.Cond.code y bytes mx rt).before a0 Z = true) (wz : (Jvm.Cond.initialized y.cls).before a0 Z = true) (hf : rm.frames + 1 ≤ R.frames) (hl : W + (mx + 11) + rm.locals ≤ R.locals) (hEL : EW Z a0 EL) (H : CHv Z EL vm h) (hs : ∀ x ∈ xs, x < h.size ∧ Safe Z EL vm h x) :
    BackS l R p e below (s.setVm vm) args y len W (fun A a => a = as' ∧ A.U.heap = h ∧ A.cells + rm.cells ≤ R.cells ∧ A.slots + rm.slots ≤ R.slots)
      (fun A _ v B => ∃ L, (Q v B.U.heap ∧ Fr Z.heap.size L ∧ Ext Z.heap B.U.heap) ∧ B.locs = A.locs ++ L ∧ B.cells = A.cells + rm.cells ∧ B.slots = A.slots + rm.slots ∧ CHr Z EL vm h B.U.vm B.U.heap ∧ (nw' = true → (s.setVm vm).WarmedH B.U.vm ∧ ∀ y, Bk Z EL B.U.vm B.U.heap y → Bk Z EL vm h y)) := by
  refine BackS.of_freeW (bytes := bytes) (maxL := mx) (ret := rt) (E := fun _ f o t L i j => i = rm.cells ∧ j = rm.slots ∧ (∃ v, o = .returned v ∧ Q v t.heap ∧ Fr Z.heap.size L ∧ Ext Z.heap t.heap) ∧ CHr Z EL f.vm f.heap t.vm t.heap ∧ (nw' = true → f.WarmedH t.vm ∧ ∀ y, Bk Z EL t.vm t.heap y → Bk Z EL f.vm f.heap y)) hM hf hl ?_ ?_ (fun _ _ _ _ _ _ _ _ _ => trivial) ?_ ?_
  · intro m' meth' c' A a Y hp
    have hU : Z.Warmed39 A.U.vm := wtrans (s := s.setVm vm) hZ Y.warmed
    refine ⟨?_, mv hU wc, mv hU wz, hp.2.2.1, hp.2.2.2⟩
    show (Jvm.Cond.and _ .tt).before a A.U = true
    rw [Cond.before_and, mv hU wc]; rfl
  · intro m' meth' c' A a g' mk Y hp
    have q := CHv.at Y hZ hEL H
    exact ⟨hp.1, wtrans (s := s.setVm vm) hZ Y.warmed, hp.2.1, q.1, fun x hx => q.safe (hs x hx).1 (hs x hx).2⟩
  · intro a f o t ⟨v, L, h1, h2, h3, h4⟩
    exact ⟨L, _, _, h4, rfl, rfl, ⟨v, h1, h2⟩, h3.1, h3.2⟩
  · intro m' meth' c' A a g' mk v t L i j Y hp _ _ q
    obtain ⟨rfl, rfl, ⟨v', e1, e2⟩, e3, e5⟩ := q
    cases e1
    refine ⟨L, e2, rfl, rfl, rfl, (CHv.at Y hZ hEL H).trans ?_, fun z => ⟨State.WarmedH.trans Y.warmed (e5 z).1, fun y' b => ?_⟩⟩
    · have e4 : CHr Z EL A.U.vm A.U.heap t.vm t.heap := e3
      rw [hp.2.1] at e4; exact e4
    · have b1 : Bk Z EL A.U.vm A.U.heap y' := (e5 z).2 y' b
      rw [hp.2.1] at b1
      rcases (CHv.at Y hZ hEL H).2.2 y' b1 with q | q
      · exact q
      · obtain ⟨c0, hc0⟩ := Bk.there b1; exact absurd (Array.getElem?_eq_some_iff.mp hc0).1 (Nat.not_lt.mpr q)
theorem Core.behind (C : Core p l e R s m args below meth c bs ml ret nm own Z a0 EL nw vm T h k n) {B : Pt} {L L' : List Loc} (X' : Stand p l e R ((s.setVm vm).setVm B.U.vm) m args below meth c B.U B.locs B.cells B.slots) (h2 : (s.setVm vm).Since B.U.vm B.U.heap.size) (N : Fr Z.heap.size L) (N' : Fr Z.heap.size L') (O : Ext Z.heap B.U.heap) (e1 : B.locs = L ++ L') (e2 : B.cells = k') (e3 : B.slots = n') (A : CHr Z EL vm h B.U.vm B.U.heap) (M : nw = true → (s.setVm vm).WarmedH B.U.vm ∧ ∀ y, Bk Z EL B.U.vm B.U.heap y → Bk Z EL vm h y) :
    Core p l e R s m args below meth c bs ml ret nm own Z a0 EL nw B.U.vm B.U B.U.heap k' n' := by
  subst e2 e3
  obtain ⟨k0, hS, hk⟩ := C.since
  obtain ⟨r1, r2, r3, r4⟩ := rebS hS hk X' h2 A.2.1 C.warm C.hown
  exact ⟨C.1, ⟨_, r1, e1 ▸ N.app N'⟩, rfl, r3, r4, ⟨_, r2, Nat.le_refl _⟩, C.chr.trans A, O, fun z => ⟨State.WarmedH.trans (C.nwm z).1 (M z).1, fun y b => (C.nwm z).2 y ((M z).2 y b)⟩⟩
theorem Core.special (C : Core p l e R s m args below meth c bs ml ret nm own Z a0 EL nw vm T h k n) {nw' : Bool} {y : MethodName} {ix : Nat} {bytes : ByteArray} {mx : Nat} {rm : Room} {xs : List Addr} {W : Nat} {a : Addr} {argsL st : List Value} {as' : Array Value} (hy1 : y.name = "<init>")
    (w1 : (Jvm.Cond.methodLink own ix y).before a0 Z = true) (w2 : (Jvm.Cond.instanceMethod y).before a0 Z = true) (w3 : (Jvm.Cond.code y bytes mx none).before a0 Z = true) (w4 : (Jvm.Cond.initialized y.cls).before a0 Z = true) (hy : y.cls ≠ "java/lang/invoke/MethodHandle" ∧ y.cls ≠ "java/lang/invoke/VarHandle")
    (hM : Met l Z EL nw' y bytes mx none [] rm as' h xs Q) (hnn : nw = true → nw' = true) (has : as' = (.ref a :: argsL).toArray) (hs : ∀ x ∈ xs, x < h.size ∧ Safe Z EL vm h x) (hf : rm.frames + 1 ≤ R.frames) (hl : W + (mx + 11) + rm.locals ≤ R.locals) (hk : k + rm.cells ≤ R.cells) (hn : n + rm.slots ≤ R.slots)
    (hlen : ∀ sig, parseMethodDescriptor y.desc = some sig → argsL.length = sig.parameters.length) (hst : st = argsL.reverse ++ .ref a :: rest) (hW : (rest.map fun v => v.category).sum ≤ W) (hsz : Ls.size = ml) (hd : decode bs pc = .ok (.invokespecial ix, 3)) (hp : pc + 3 = pc')
    (K : ∀ vm' T' h' v, Core p l e R s m args below meth c bs ml ret nm own Z a0 EL nw vm' T' h' (k + rm.cells) (n + rm.slots) → CHr Z EL vm h vm' h' → (nw' = true → ∀ y, Bk Z EL vm' h' y → Bk Z EL vm h y) → Q v h' → Endw p e below T' (mkF m pc' Ls (v.toList ++ rest)) F) : Endw p e below T (mkF m pc Ls st) F := by
  subst hp has
  obtain ⟨-, ⟨L, X, N⟩, -⟩ := id C
  obtain ⟨v, vm₁, B, -, X', h2, -, ⟨L', ⟨q1, q2, q3⟩, e1, e2, e3, A, M⟩, st'⟩ := X.specialBackS C.hx (y := y) hy1 C.hown (mvT C.warm w1) (mvT C.warm w2) (mvT C.warm w3) hy (backOwn (W := W) hM C.warm w3 w4 hf hl C.ew C.chv hs) (g := mkF m pc Ls st) rfl (hsz.trans C.mlq.symm) (Steps.refl _) (a := a) (argsL := argsL) (rest := rest) hlen hst (by show 2 * 0 + _ ≤ _; omega) (C.dec hd) (fun _ _ => ⟨rfl, C.heq, hk, hn⟩)
  exact Endw.ste st' (K _ _ _ v (C.behind X' h2 N q2 q3 e1 e2 e3 A (fun z => M (hnn z))) A (fun z => (M z).2) q1)
theorem Core.static (C : Core p l e R s m args below meth c bs ml ret nm own Z a0 EL nw vm T h k n) {nw' : Bool} {y : MethodName} {ix : Nat} {bytes : ByteArray} {mx : Nat} {rt : Option FieldType} {rm : Room} {xs : List Addr} {W : Nat} {argsL st : List Value} {as' : Array Value}
    (w1 : (Jvm.Cond.methodLink own ix y).before a0 Z = true) (w2 : (Jvm.Cond.static y).before a0 Z = true) (w3 : (Jvm.Cond.code y bytes mx rt).before a0 Z = true) (w4 : (Jvm.Cond.initialized y.cls).before a0 Z = true) (hy : y.cls ≠ "java/lang/invoke/MethodHandle" ∧ y.cls ≠ "java/lang/invoke/VarHandle")
    (hM : Met l Z EL nw' y bytes mx rt [] rm as' h xs Q) (hnn : nw = true → nw' = true) (has : as' = argsL.toArray) (hs : ∀ x ∈ xs, x < h.size ∧ Safe Z EL vm h x) (hf : rm.frames + 1 ≤ R.frames) (hl : W + (mx + 11) + rm.locals ≤ R.locals) (hk : k + rm.cells ≤ R.cells) (hn : n + rm.slots ≤ R.slots)
    (hlen : ∀ sig, parseMethodDescriptor y.desc = some sig → argsL.length = sig.parameters.length) (hst : st = argsL.reverse ++ rest) (hW : (rest.map fun v => v.category).sum ≤ W) (hsz : Ls.size = ml) (hd : decode bs pc = .ok (.invokestatic ix, 3)) (hp : pc + 3 = pc')
    (K : ∀ vm' T' h' v, Core p l e R s m args below meth c bs ml ret nm own Z a0 EL nw vm' T' h' (k + rm.cells) (n + rm.slots) → CHr Z EL vm h vm' h' → (nw' = true → ∀ y, Bk Z EL vm' h' y → Bk Z EL vm h y) → Q v h' → Endw p e below T' (mkF m pc' Ls (v.toList ++ rest)) F) : Endw p e below T (mkF m pc Ls st) F := by
  subst hp has
  obtain ⟨-, ⟨L, X, N⟩, -⟩ := id C
  obtain ⟨v, vm₁, B, -, X', h2, -, ⟨L', ⟨q1, q2, q3⟩, e1, e2, e3, A, M⟩, st'⟩ := RoadKit.callSS X C.hx (y := y) C.hown (mvT C.warm w1) (mvT C.warm w2) (mvT C.warm w4) (mvT C.warm w3) hy (backOwn (W := W) hM C.warm w3 w4 hf hl C.ew C.chv hs) (g := mkF m pc Ls st) rfl (hsz.trans C.mlq.symm) (argsL := argsL) (rest := rest) hlen hst (by show 2 * 0 + _ ≤ _; omega) (C.dec hd) (fun _ _ => ⟨rfl, C.heq, hk, hn⟩)
  exact Endw.ste st' (K _ _ _ v (C.behind X' h2 N q2 q3 e1 e2 e3 A (fun z => M (hnn z))) A (fun z => (M z).2) q1)
theorem Core.virtual (C : Core p l e R s m args below meth c bs ml ret nm own Z a0 EL nw vm T h k n) {nw' : Bool} {y z : MethodName} {Cl : String} {ix : Nat} {bytes : ByteArray} {mx : Nat} {rt : Option FieldType} {rm : Room} {xs : List Addr} {W : Nat} {a : Addr} {argsL st : List Value} {as' : Array Value}
    (w1 : (Jvm.Cond.methodLink own ix y).before a0 Z = true) (w2 : (Jvm.Cond.declares y).before a0 Z = true) (hnf : ∀ U : State, Z.Warmed39 U.vm → NotFace U y) (w5 : (Jvm.Cond.selects Cl y z).before a0 Z = true) (w6 : (Jvm.Cond.instanceMethod z).before a0 Z = true) (w3 : (Jvm.Cond.code z bytes mx rt).before a0 Z = true) (w4 : (Jvm.Cond.initialized z.cls).before a0 Z = true) (hy : y.cls ≠ "java/lang/invoke/MethodHandle" ∧ y.cls ≠ "java/lang/invoke/VarHandle")
    (hM : Met l Z EL nw' z bytes mx rt [] rm as' h xs Q) (hnn : nw = true → nw' = true) (has : as' = (.ref a :: argsL).toArray) (E : Exa Z h a Cl) (hs : ∀ x ∈ xs, x < h.size ∧ Safe Z EL vm h x) (hf : rm.frames + 1 ≤ R.frames) (hl : W + (mx + 11) + rm.locals ≤ R.locals) (hk : k + rm.cells ≤ R.cells) (hn : n + rm.slots ≤ R.slots)
    (hlen : ∀ sig, parseMethodDescriptor y.desc = some sig → argsL.length = sig.parameters.length) (hst : st = argsL.reverse ++ .ref a :: rest) (hW : (rest.map fun v => v.category).sum ≤ W) (hsz : Ls.size = ml) (hd : decode bs pc = .ok (.invokevirtual ix, 3)) (hp : pc + 3 = pc')
    (K : ∀ vm' T' h' v, Core p l e R s m args below meth c bs ml ret nm own Z a0 EL nw vm' T' h' (k + rm.cells) (n + rm.slots) → CHr Z EL vm h vm' h' → (nw' = true → ∀ y, Bk Z EL vm' h' y → Bk Z EL vm h y) → Q v h' → Endw p e below T' (mkF m pc' Ls (v.toList ++ rest)) F) : Endw p e below T (mkF m pc Ls st) F := by
  subst hp has
  obtain ⟨-, ⟨L, X, N⟩, -⟩ := id C
  obtain ⟨cq, kq, qa, qb, qc⟩ := isOf (s := s.setVm vm) C.warm C.heq E
  obtain ⟨v, vm₁, B, -, X', h2, -, ⟨L', ⟨q1, q2, q3⟩, e1, e2, e3, A, M⟩, st'⟩ := X.virtualBackS C.hx (y := y) (z := z) C.hown (mvT C.warm w1) (mvT C.warm w2) (hnf _ (show Z.Warmed39 (s.setVm vm).vm from C.warm)) (mvT C.warm w5) (mvT C.warm w6) hy (backOwn (W := W) hM C.warm w3 w4 hf hl C.ew C.chv hs) qa qc (g := mkF m pc Ls st) rfl (hsz.trans C.mlq.symm) (Steps.refl _) (argsL := argsL) (rest := rest) hlen hst (by show 2 * 0 + _ ≤ _; omega) (C.dec hd) (fun _ _ => ⟨rfl, C.heq, hk, hn⟩)
  exact Endw.ste st' (K _ _ _ v (C.behind X' h2 N q2 q3 e1 e2 e3 A (fun z => M (hnn z))) A (fun z => (M z).2) q1)
/-! ## calls by a law of the library's (it interns nothing) -/
theorem Core.behindF (C : Core p l e R s m args below meth c bs ml ret nm own Z a0 EL nw vm T h k n) {B : Pt} {L L' : List Loc} {ws : List Addr} (X' : Stand p l e R (s.setVm vm) m args below meth c B.U B.locs B.cells B.slots) (N : Fr Z.heap.size L) (N' : Fr Z.heap.size L') (K : Keep h B.U.heap ws) (ge : ∀ x ∈ ws, Z.heap.size ≤ x) (S : ∀ x ∈ ws, Safe Z EL vm h x) (e1 : B.locs = L ++ L') (e2 : B.cells = k') (e3 : B.slots = n') :
    Core p l e R s m args below meth c bs ml ret nm own Z a0 EL nw vm B.U B.U.heap k' n' := by
  subst e2 e3
  exact C.on X' (e1 ▸ N.app N') rfl K ge S
theorem Core.specialF (C : Core p l e R s m args below meth c bs ml ret nm own Z a0 EL nw vm T h k n) {y : MethodName} {ix : Nat} {bytes : ByteArray} {mx ck cn : Nat} {ws : List Addr} {W : Nat} {a : Addr} {argsL st : List Value} {as' : Array Value} {Qf : Option Value → Heap → List Loc → Prop} (hy1 : y.name = "<init>")
    (w1 : (Jvm.Cond.methodLink own ix y).before a0 Z = true) (w2 : (Jvm.Cond.instanceMethod y).before a0 Z = true) (w3 : (Jvm.Cond.code y bytes mx none).before a0 Z = true) (hy : y.cls ≠ "java/lang/invoke/MethodHandle" ∧ y.cls ≠ "java/lang/invoke/VarHandle")
    (hK : Back l R p e below (s.setVm vm) args y 3 W (fun P a => a = as' ∧ P.U.heap = h ∧ P.cells + ck ≤ R.cells ∧ P.slots + cn ≤ R.slots) (fun P _ v B => ∃ L, Qf v B.U.heap L ∧ B.locs = P.locs ++ L ∧ B.cells = P.cells + ck ∧ B.slots = P.slots + cn))
    (hQ : ∀ v h' L, Qf v h' L → Fr Z.heap.size L ∧ Keep h h' ws) (ge : ∀ x ∈ ws, Z.heap.size ≤ x) (S : ∀ x ∈ ws, Safe Z EL vm h x) (has : as' = (.ref a :: argsL).toArray) (hk : k + ck ≤ R.cells) (hn : n + cn ≤ R.slots)
    (hlen : ∀ sig, parseMethodDescriptor y.desc = some sig → argsL.length = sig.parameters.length) (hst : st = argsL.reverse ++ .ref a :: rest) (hW : (rest.map fun v => v.category).sum ≤ W) (hsz : Ls.size = ml) (hd : decode bs pc = .ok (.invokespecial ix, 3)) (hp : pc + 3 = pc')
    (K : ∀ T' h' v, Core p l e R s m args below meth c bs ml ret nm own Z a0 EL nw vm T' h' (k + ck) (n + cn) → Keep h h' ws → CHr Z EL vm h vm h' → (∃ L, Qf v h' L) → Endw p e below T' (mkF m pc' Ls (v.toList ++ rest)) F) : Endw p e below T (mkF m pc Ls st) F := by
  subst hp has
  obtain ⟨-, ⟨L, X, N⟩, -⟩ := id C
  obtain ⟨v, vm₁, B, -, X', ⟨L', q1, e1, e2, e3⟩, st'⟩ := X.specialBack C.hx (y := y) hy1 C.hown (mvT C.warm w1) (mvT C.warm w2) (mvT C.warm w3) hy hK (g := mkF m pc Ls st) rfl (hsz.trans C.mlq.symm) (Steps.refl _) (a := a) (argsL := argsL) (rest := rest) hlen hst (by show 2 * 0 + _ ≤ _; omega) (C.dec hd) (fun _ _ => ⟨rfl, C.heq, hk, hn⟩)
  obtain ⟨r1, r2⟩ := hQ _ _ _ q1
  exact Endw.ste st' (K _ _ v (C.behindF X' N r1 r2 ge S e1 e2 e3) r2 (CHr.keep r2 S C.chv) ⟨_, q1⟩)
theorem Met.of {y : MethodName} {bytes : ByteArray} {mx : Nat} {rt : Option FieldType} {ws : List Jvm.Cond} {rm : Room} {as' : Array Value} {xs : List Addr} (hy : plainFor y = true) (hEL : EW Z a0 EL) (O : Ext Z.heap h)
    (body : ∀ p e s m below meth c T, Core p l e rm s m as' below meth c bytes mx rt y.name y.cls Z a0 EL nw s.vm T h 0 0 → (∀ x ∈ xs, Safe Z EL s.vm h x) → Endw p e below T (entryFrame m as' mx) (Fin s Z EL nw Q rm.cells rm.slots)) :
    Met l Z EL nw y bytes mx rt ws rm as' h xs Q := by
  refine MetFree.of_bodySF hy hisR ?_
  intro p e s m args below meth c s₁ Bd hml hP hK
  obtain ⟨rfl, hZ, hh, hC, hS⟩ := hP
  have X0 : Stand p l e rm s m args below meth c s₁ [] 0 0 := Stand.of_body Bd
  have e0 : s₁.heap = h := by rw [← hh, Bd.state]; rfl
  have hC' : CHv Z EL s.vm s.heap := by rw [hh]; exact hC
  refine body p e s m below meth c s₁ ⟨⟨Bd.exec, Bd.bytes, hml, Bd.returns, BodyLoose.notSynchronized Bd, (name_of_methodNamed Bd.named Bd.method).1, hEL⟩, ⟨[], X0, Fr.nil _⟩, e0, hZ, findClass_of_methodNamed Bd.named, ⟨s.heap.size, (State.WarmedH.refl s).since _, by rw [hh]; exact Nat.le_refl _⟩, ?_, O, fun _ => ⟨State.WarmedH.refl s, fun y b => by rw [hh]; exact b⟩⟩ hS
  rw [← hh]; exact CHr.refl hC'
theorem Core.leave (C : Core p l e R s m args below meth c bs ml ret nm own Z a0 EL nw vm T h k n) {K N : Nat} {v : Option Value} (hv : ret = none → v = none) (hk : k ≤ K) (hn : n ≤ N) (q : Q v h) (st : ∀ {L : List Loc} {vm' : Vm}, Stand p l e R (s.setVm vm') m args below meth c T L k n → ∀ fs, (∀ (f : JFrame) (acts : List Action), f.method = m → f.locked = none → f.entered = [] → (doReturn e (T.setTop f) acts v).1 = T.setFrames fs) → Steps p.tables e below (T.setTop g) (T.setFrames fs)) :
    Endw p e below T g (Fin s Z EL nw Q K N) := by
  obtain ⟨-, ⟨L, X, NL⟩, -⟩ := id C
  obtain ⟨k0, hS, hk0⟩ := C.since
  have hk1 : k0 ≤ T.heap.size := by rw [C.heq]; exact hk0
  obtain ⟨fs, h1, h2, h3, h4, h5, h6, h7⟩ := X.leaveW hS hk1 (v := v) (fun hr => hv (C.rtq.symm.trans hr)) C.locks
  have e1 : (T.setFrames fs).heap = h := C.heq
  refine ⟨_, _, st X fs h1, h2, h3, v, L, rfl, ⟨by rw [e1]; exact q, NL, by rw [e1]; exact C.old⟩, ⟨?_, fun z => ⟨State.WarmedH.trans (C.nwm z).1 X.warmed, fun y b => ?_⟩⟩, h4, h5, h6, h7.mono hk hn⟩
  · have A := C.chr.trans (CHv.at X C.warm C.ew C.chv)
    rw [e1]; exact A
  · rw [e1] at b
    have b1 : Bk Z EL T.vm h y := b
    rcases (CHv.at X C.warm C.ew C.chv).2.2 y b1 with q1 | q1
    · exact (C.nwm z).2 y q1
    · obtain ⟨c0, hc0⟩ := Bk.there b1; exact absurd (Array.getElem?_eq_some_iff.mp hc0).1 (Nat.not_lt.mpr q1)
theorem Core.retV (C : Core p l e R s m args below meth c bs ml none nm own Z a0 EL nw vm T h k n) {K N : Nat} (hd : decode bs pc = .ok (.return_, 1)) (hk : k ≤ K) (hn : n ≤ N) (q : Q none h) : Endw p e below T (mkF m pc Ls []) (Fin s Z EL nw Q K N) :=
  C.leave (fun _ => rfl) hk hn q fun X fs hl => X.returnOut C.hx C.rtq (C.dec hd) hl
theorem Core.retX (C : Core p l e R s m args below meth c bs ml ret nm own Z a0 EL nw vm T h k n) {K N : Nat} {t : FieldType} {w : Value} {i : Instr} (hr : ret = some t) (hn' : narrow t w = w) (hi : (i = .ireturn ∧ (t = .int ∨ t = .boolean ∨ t = .byte ∨ t = .char ∨ t = .short) ∧ ∃ z, w = .int z) ∨ (i = .lreturn ∧ t = .long ∧ ∃ z, w = .long z) ∨ (i = .dreturn ∧ t = .double ∧ ∃ z, w = .double z) ∨ (i = .freturn ∧ t = .float ∧ ∃ z, w = .float z) ∨ (i = .areturn ∧ t.isReference = true ∧ w.isRef = true))
    (hd : decode bs pc = .ok (i, 1)) (hk : k ≤ K) (hn : n ≤ N) (q : Q (some w) h) : Endw p e below T (mkF m pc Ls (w :: rest)) (Fin s Z EL nw Q K N) :=
  C.leave (fun z => by subst hr; cases z) hk hn q fun X fs hl => RoadKit.retOut X C.hx (C.rtq.trans hr) hn' hi (C.dec hd) hl
theorem Core.retI (C : Core p l e R s m args below meth c bs ml ret nm own Z a0 EL nw vm T h k n) {K N : Nat} {t : FieldType} {z : Int32} (hr : ret = some t) (ht : t = .int ∨ t = .boolean ∨ t = .byte ∨ t = .char ∨ t = .short) (hn' : narrow t (.int z) = .int z) (hd : decode bs pc = .ok (.ireturn, 1)) (hk : k ≤ K) (hn : n ≤ N) (q : Q (some (.int z)) h) : Endw p e below T (mkF m pc Ls (.int z :: rest)) (Fin s Z EL nw Q K N) :=
  C.retX hr hn' (Or.inl ⟨rfl, ht, _, rfl⟩) hd hk hn q
theorem Core.retA (C : Core p l e R s m args below meth c bs ml ret nm own Z a0 EL nw vm T h k n) {K N : Nat} {t : FieldType} {w : Value} (hr : ret = some t) (ht : t.isReference = true) (hw : w.isRef = true) (hn' : narrow t w = w) (hd : decode bs pc = .ok (.areturn, 1)) (hk : k ≤ K) (hn : n ≤ N) (q : Q (some w) h) : Endw p e below T (mkF m pc Ls (w :: rest)) (Fin s Z EL nw Q K N) :=
  C.retX hr hn' (Or.inr (Or.inr (Or.inr (Or.inr ⟨rfl, ht, hw⟩)))) hd hk hn q
/-! ## String constants -/
theorem Core.ldcC (C : Core p l e R s m args below meth c bs ml ret nm own Z a0 EL nw vm T h k n) {text : String} {ix N : Nat} {vs : List Value} {z : Int32} (w : (Jvm.Cond.stringLink own ix text).before a0 Z = true) (wS : ∀ a ∈ Bundle.stringAtoms, a.before a0 Z = true) (hmem : (own, ix) ∈ EL) (ht : (∀ c ∈ text.toList, c.toNat < 256) ∧ text.toList.map (fun c => Value.int (Jvm.Lit.byteI c.toNat.toUInt16)) = vs) (hz : ¬ z < 0) (hl : z.toNatClampNeg = vs.length)
    (hN : 4 * text.toList.length ≤ N) (hbig : N ≤ 536870912) (hk : k + 2 ≤ R.cells) (hn : n + (N + 4) ≤ R.slots) (hd : decode bs pc = .ok (.ldc ix, 2)) (hp : pc + 2 = pc') (hnw : nw = false)
    (K : ∀ vm' T' h' a b kA, Core p l e R s m args below meth c bs ml ret nm own Z a0 EL nw vm' T' h' (k + 2) (n + (N + 4)) → Keep h h' [] → CHr Z EL vm h vm' h' → Exa Z h' a "java/lang/String" → Fld Z h' a "java/lang/String" "coder" "B" (.int 0) → Fld Z h' a "java/lang/String" "value" "[B" (.ref b) → Arv Z h' b kA .byte z vs (.int 0) → (∀ x, Safe Z EL vm' h' x → x ≠ a ∧ x ≠ b) → Endw p e below T' (mkF m pc' Ls (.ref a :: rest)) F) : Endw p e below T (mkF m pc Ls rest) F := by
  subst hp
  obtain ⟨-, ⟨L, X, NL⟩, -⟩ := id C
  obtain ⟨k0, hS, hk0⟩ := C.since
  obtain ⟨a, T', h', k1, b, kA, X', e', E, hS', hk1, hZ', hown', r1, r2, r3, r4, -, -, A, -, r5, st⟩ := RoadKit.ldcCH X C.hx C.warm C.hown w wS C.heq hS hk0 C.ew hmem C.chv ht hz hl (g := mkF m pc Ls rest) rfl (C.dec hd) hN hbig hk hn
  exact Endw.st st (K T'.vm T' h' a b kA ⟨C.1, ⟨L, X', NL⟩, e', hZ', hown', ⟨k1, hS', hk1⟩, C.chr.trans A, old_keep C.old (keep_of_ext E) all0, fun z => by rw [hnw] at z; cases z⟩ (keep_of_ext E) A r1 r2 r3 r4 r5)
end Walk
end Jvm.Own
namespace Jvm.Own
open Jvm Jvm.ClassFile Sem Op Lib Jvm.Free Jvm.Stand Jvm.LawKit Jvm.RoadKit Bundle
section Help
variable {p : Program} {l : Launch} {e : Env} {R : Room} {s : State} {m : MethodId} {args : Array Value} {below : List Frame} {meth : Method} {c : Code}
variable {bs : ByteArray} {ml : Nat} {ret : Option FieldType} {nm own : String} {Z : State} {a0 : Array Value} {EL : List (String × Nat)} {nw : Bool} {vm : Vm} {T T' : State} {h h' : Heap} {k n : Nat} {g : JFrame} {rest : List Value}
theorem own_ldcI (C : Core p l e R s m args below meth c bs ml ret nm own Z a0 EL nw vm T h k n) {ix : Nat} {v : Int32} {target : State} (w : (Jvm.Cond.constant own ix v).before a0 Z = true) (hg : g.method = m) (hd : decode bs g.pc = .ok (.ldc ix, 2)) (hr : Steps p.tables e below (T.setTop { g with pc := g.pc + 2, stack := .int v :: g.stack }) target) : Steps p.tables e below (T.setTop g) target := by
  obtain ⟨-, ⟨L, X, -⟩, -⟩ := id C
  exact X.ldcI C.hx C.hown (mvT C.warm w) hg (C.dec hd) hr
theorem own_toInt {y : Int32} (h : y.toBitVec.toNat < 2147483648) : y.toInt = (y.toBitVec.toNat : Int) := by
  have : y.toInt = y.toBitVec.toInt := rfl
  rw [this, BitVec.toInt_eq_toNat_cond, if_pos (by omega)]
theorem own_and_nat (x m : Int32) : (x &&& m).toBitVec.toNat = x.toBitVec.toNat &&& m.toBitVec.toNat := by simp [Int32.toBitVec_and, BitVec.toNat_and]
theorem own_cI (x : Int32) : (Value.int x).category = 1 := rfl
theorem own_cR (x : Addr) : (Value.ref x).category = 1 := rfl
theorem own_cN : Value.null.category = 1 := rfl
theorem own_cJ (x : Int64) : (Value.long x).category = 2 := rfl
theorem own_cD (x : UInt64) : (Value.double x).category = 2 := rfl
def B8 (c : Int32) : Prop := ¬ c < 0 ∧ ¬ (255 : Int32) < c
theorem own_mask255 (x : Int32) : B8 (x &&& 255) := by
  have e : (x &&& 255).toBitVec.toNat ≤ 255 := by rw [own_and_nat]; exact Nat.and_le_right
  have q := own_toInt (y := x &&& 255) (by omega)
  refine ⟨?_, ?_⟩ <;> rw [Int32.lt_iff_toInt_lt, q]
  · show ¬ (_ < (0 : Int)); omega
  · show ¬ ((255 : Int) < _); omega
theorem own_b16 {c : Int32} (h : B8 c) : ¬ c < 0 ∧ ¬ (65535 : Int32) < c := by
  refine ⟨h.1, fun q => h.2 ?_⟩
  rw [Int32.lt_iff_toInt_lt] at q ⊢
  have e1 : (65535 : Int32).toInt = 65535 := rfl
  have e2 : (255 : Int32).toInt = 255 := rfl
  omega
theorem own_c0 {P : Int32 → Prop} : ∀ c ∈ ([] : List Int32), P c := fun _ q => nomatch q
theorem own_cS {P : Int32 → Prop} {y : Int32} {L : List Int32} (q : P y) (r : ∀ c ∈ L, P c) : ∀ c ∈ y :: L, P c := fun x z => (List.mem_cons.mp z).elim (fun u => u ▸ q) (r x)
theorem own_nar_ref {v : Value} {t : FieldType} (h : v.isRef = true) (ht : t.isReference = true := by rfl) : narrow t v = v := by
  cases v <;> cases t <;> first | rfl | (cases h; done) | (cases ht; done)
theorem own_fits_ref {v : Value} {t : FieldType} (h : v.isRef = true) (ht : t.isReference = true := by rfl) : fits t v = true := by
  cases v <;> cases t <;> first | rfl | (cases h; done) | (cases ht; done)
theorem own_nar_byte {x : Int32} : nar .byte (x.toInt8.toInt32) = x.toInt8.toInt32 := by
  show (x.toInt8.toInt32).toInt8.toInt32 = _
  simp
theorem own_eqInt {args : Array Value} {first s : State} {o : Option Outcome} {idx : List Nat} {t : Term} {n : Int32} (h : (Jvm.Cond.eq t (Term.int n)).value args first o s idx = some true) : t.eval args first o idx s = some (.int n) := by
  simp only [Cond.value, Term.eval] at h
  cases ht : t.eval args first o idx s with
  | none => simp [ht] at h
  | some x => cases x <;> simp_all
def bys (cs : List Int32) : List Value := (cs.map fun c => c.toInt8.toInt32).map Value.int
def Str (Z : State) (h : Heap) (a b : Addr) (kb : ClassId) (cs : List Int32) : Prop :=
  Exa Z h a "java/lang/String" ∧ Fld Z h a "java/lang/String" "coder" "B" (.int 0) ∧ Fld Z h a "java/lang/String" "value" "[B" (.ref b) ∧
    Arv Z h b kb .byte (Int32.ofNat cs.length) (bys cs) (.int 0) ∧ (∀ c ∈ cs, B8 c) ∧ cs.length ≤ 4000
theorem Str.keep {a b : Addr} {kb : ClassId} {cs : List Int32} {ws : List Addr} (S : Str Z h a b kb cs) (K : Keep h h' ws) (q1 : a ∉ ws) (q2 : b ∉ ws) : Str Z h' a b kb cs :=
  ⟨S.1.keep K, S.2.1.keep K q1, S.2.2.1.keep K q1, S.2.2.2.1.keep K q2, S.2.2.2.2⟩
theorem own_checkcastNull (C : Core p l e R s m args below meth c bs ml ret nm own Z a0 EL nw vm T h k n) {ix : Nat} {target : State} (hg : g.method = m) (hs : g.stack = .null :: rest) (hd : decode bs g.pc = .ok (.checkcast ix, 3)) (hr : Steps p.tables e below (T.setTop { g with pc := g.pc + 3 }) target) : Steps p.tables e below (T.setTop g) target := by
  obtain ⟨-, ⟨L, X, -⟩, -⟩ := id C
  exact X.checkcastNull C.hx hg hs (C.dec hd) _ hr
variable {F : Outcome → State → Prop} {pc pc' : Nat} {Ls : Array Slot}
theorem Core.castY (C : Core p l e R s m args below meth c bs ml ret nm own Z a0 EL nw vm T h k n) {K : String} {ix : Nat} {a : Addr} (w : (Jvm.Cond.classLink own ix K).before a0 Z = true) (f : Ins Z h a K true) (hd : decode bs pc = .ok (.checkcast ix, 3)) (hp : pc + 3 = pc')
    (Kk : ∀ T', Core p l e R s m args below meth c bs ml ret nm own Z a0 EL nw vm T' h k n → Endw p e below T' (mkF m pc' Ls (.ref a :: rest)) F) : Endw p e below T (mkF m pc Ls (.ref a :: rest)) F := by
  subst hp
  obtain ⟨-, ⟨L, X, N⟩, -⟩ := id C
  obtain ⟨T', X', e', st⟩ := RoadKit.castY X C.hx C.warm C.hown w C.heq f (g := mkF m pc Ls (.ref a :: rest)) rfl rfl (C.dec hd)
  exact Endw.st st (Kk T' (C.same X' N e'))
theorem Core.instNo (C : Core p l e R s m args below meth c bs ml ret nm own Z a0 EL nw vm T h k n) {K Cl : String} {ix : Nat} {a : Addr} (w : (Jvm.Cond.classLink own ix K).before a0 Z = true) (E : Exa Z h a Cl) (f : ∃ c t, Z.vm.findClass Cl = some c ∧ Z.vm.findClass K = some t ∧ Z.vm.assignable c t = false) (hd : decode bs pc = .ok (.instanceof ix, 3)) (hp : pc + 3 = pc')
    (Kk : ∀ T', Core p l e R s m args below meth c bs ml ret nm own Z a0 EL nw vm T' h k n → Endw p e below T' (mkF m pc' Ls (.int 0 :: rest)) F) : Endw p e below T (mkF m pc Ls (.ref a :: rest)) F := by
  subst hp
  obtain ⟨-, ⟨L, X, N⟩, -⟩ := id C
  obtain ⟨T', X', e', st⟩ := RoadKit.instNo X C.hx C.warm C.hown w C.heq E f (g := mkF m pc Ls (.ref a :: rest)) rfl rfl (C.dec hd)
  exact Endw.st st (Kk T' (C.same X' N e'))
theorem own_found {K : String} {i : Nat} (wk : (Jvm.Cond.instantiable K i).before a0 Z = true) : ∃ t kt, Z.vm.findClass K = some t ∧ Z.vm.classes[t]? = some kt ∧ kt.kind = .ordinary ∧ kt.isInterface = false := by
  obtain ⟨t, kt, h1, h2, h3, h4, -⟩ := Cond.instantiable_spec wk
  exact ⟨t, kt, h1, h2, h3, (Bool.or_eq_false_iff.mp h4).1⟩
theorem own_NSroot {O K : String} {i : Nat} (w : (Jvm.Cond.noSuperclass O).before a0 Z = true) (wk : (Jvm.Cond.instantiable K i).before a0 Z = true) (hn : O ≠ K) : NS Z O K := by
  obtain ⟨c, k, h1, h2, h3, -, -⟩ := Cond.noSuperclass_spec w
  obtain ⟨t, -, g1, -⟩ := own_found wk
  have ne := ids_ne h1 g1 hn
  refine ⟨c, t, h1, g1, fun fuel => ?_⟩
  cases fuel with
  | zero => rfl
  | succ f => simp [Vm.isSubclassAux, ne, h2, h3]
theorem own_NSno {Cl S K : String} {i : Nat} (w : (Jvm.Cond.superclass Cl S).before a0 Z = true) (wk : (Jvm.Cond.instantiable K i).before a0 Z = true) (n : NS Z Cl K) (hn : Cl ≠ K) : ∃ c t, Z.vm.findClass Cl = some c ∧ Z.vm.findClass K = some t ∧ Z.vm.assignable c t = false := by
  obtain ⟨c, t, h0, g0, n3⟩ := n
  obtain ⟨p, k, kp, h1, h2, h3, h4, h5, -, h7⟩ := Cond.superclass_spec h0 w
  obtain ⟨t', kt, g1, g2, g3, g4⟩ := own_found wk
  cases g0.symm.trans g1
  have ne := ids_ne h0 g0 hn
  refine ⟨c, t, h0, g0, ?_⟩
  show Z.vm.assignableAux (255 + 1) c t = false
  simp [Vm.assignableAux, ne, h2, g2, h5, g3, g4, Vm.isSubclass, n3]
end Help
end Jvm.Own
namespace Jvm.Own
open Jvm Jvm.ClassFile Sem Op Lib Jvm.Free Jvm.Stand Jvm.LawKit Jvm.RoadKit Bundle
section Calls
variable {p : Program} {l : Launch} {e : Env} {R : Room} {s : State} {m : MethodId} {args : Array Value} {below : List Frame} {meth : Method} {c : Code}
variable {bs : ByteArray} {ml : Nat} {ret : Option FieldType} {nm own : String} {Z : State} {a0 : Array Value} {EL : List (String × Nat)} {nw nw' : Bool} {vm vm' : Vm} {T T' : State} {h h' : Heap} {k n k' n' : Nat} {F : Outcome → State → Prop} {pc pc' : Nat} {Ls : Array Slot} {rest : List Value} {g g' : JFrame} {Q : Option Value → Heap → Prop}
theorem own_safe_new {t : Addr} (M : ∀ y, Bk Z EL vm' h' y → Bk Z EL vm h y) (ge : h.size ≤ t) : Safe Z EL vm' h' t := fun b => Safe.new ge (M t b)
def Plain (Z : State) (C : String) : Prop := ∃ c k, Z.vm.findClass C = some c ∧ Z.vm.classes[c]? = some k ∧ k.isInterface = false
theorem own_plain {C : String} {y : MethodName} (w : (Jvm.Cond.selects C y y).before a0 Z = true) (wi : (Jvm.Cond.instanceMethod y).before a0 Z = true) : Plain Z y.cls := by
  obtain ⟨mk, methM, hn, -, -, -⟩ := Cond.instanceMethod_spec wi
  obtain ⟨kr, h1, h2⟩ := notFace_of_selects w _ hn
  exact ⟨_, kr, findClass_of_methodNamed hn, h1, h2⟩
theorem own_nf {y : MethodName} (P : Plain Z y.cls) : NotFace Z y := fun r0 h0 => by
  obtain ⟨cc, kc, h1, h2, h3⟩ := P
  cases h1.symm.trans (findClass_of_methodNamed h0)
  exact ⟨kc, h2, h3⟩
theorem own_same {y : MethodName} (w : (Jvm.Cond.declares y).before a0 Z = true) (P : Plain Z y.cls) (hy : y.cls ≠ "java/lang/invoke/MethodHandle" ∧ y.cls ≠ "java/lang/invoke/VarHandle") : (Jvm.Cond.sameMethod y.cls y.cls y.name y.desc).before a0 Z = true := by
  obtain ⟨r0, r, hn, -, -, -⟩ := Cond.declares_spec w
  obtain ⟨c, kc, h1, h2, h3⟩ := P
  have hf := State.methodFound?_of_named hn hy
  have hn' : Z.methodNamed? ⟨y.cls, y.name, y.desc⟩ = some r0 := hn
  simp [Cond.before, Cond.holds, Cond.value, h1, hf, hn', h2, h3]
theorem Core.super (C : Core p l e R s m args below meth c bs ml ret nm own Z a0 EL nw vm T h k n) {y : MethodName} {Cl : String} {ix : Nat} {bytes : ByteArray} {mx : Nat} {rt : Option FieldType} {rm : Room} {xs : List Addr} {W : Nat} {a : Addr} {argsL st : List Value} {as' : Array Value} (hne : y.name ≠ "<init>")
    (w1 : (Jvm.Cond.methodLink own ix y).before a0 Z = true) (w2 : (Jvm.Cond.sameMethod y.cls y.cls y.name y.desc).before a0 Z = true) (w6 : (Jvm.Cond.instanceMethod y).before a0 Z = true) (w5 : (Jvm.Cond.superclass own y.cls).before a0 Z = true) (w3 : (Jvm.Cond.code y bytes mx rt).before a0 Z = true) (w4 : (Jvm.Cond.initialized y.cls).before a0 Z = true)
    (hM : Met l Z EL nw' y bytes mx rt [] rm as' h xs Q) (hnn : nw = true → nw' = true) (has : as' = (.ref a :: argsL).toArray) (E : Exa Z h a Cl) (hs : ∀ x ∈ xs, x < h.size ∧ Safe Z EL vm h x) (hf : rm.frames + 1 ≤ R.frames) (hl : W + (mx + 11) + rm.locals ≤ R.locals) (hk : k + rm.cells ≤ R.cells) (hn : n + rm.slots ≤ R.slots)
    (hlen : ∀ sig, parseMethodDescriptor y.desc = some sig → argsL.length = sig.parameters.length) (hst : st = argsL.reverse ++ .ref a :: rest) (hW : (rest.map fun v => v.category).sum ≤ W) (hsz : Ls.size = ml) (hd : decode bs pc = .ok (.invokespecial ix, 3)) (hp : pc + 3 = pc')
    (K : ∀ vm' T' h' v, Core p l e R s m args below meth c bs ml ret nm own Z a0 EL nw vm' T' h' (k + rm.cells) (n + rm.slots) → CHr Z EL vm h vm' h' → (nw' = true → ∀ y, Bk Z EL vm' h' y → Bk Z EL vm h y) → Q v h' → Endw p e below T' (mkF m pc' Ls (v.toList ++ rest)) F) : Endw p e below T (mkF m pc Ls st) F := by
  subst hp has
  obtain ⟨-, ⟨L, X, N⟩, -⟩ := id C
  obtain ⟨v, vm₁, B, -, X', h2, -, ⟨L', ⟨q1, q2, q3⟩, e1, e2, e3, A, M⟩, st'⟩ := RoadKit.superBackS (a0 := a0) (s := s.setVm vm) (K := Cl) X C.hx C.warm (y := y) C.hown w1 w2 w6 w5 hne (backOwn (W := W) hM C.warm w3 w4 hf hl C.ew C.chv hs) C.heq (Ins.self E) (g := mkF m pc Ls st) rfl (hsz.trans C.mlq.symm) w3 (argsL := argsL) (rest := rest) hlen hst (by show 2 * 0 + _ ≤ _; omega) (C.dec hd) (fun _ _ => ⟨rfl, C.heq, hk, hn⟩)
  exact Endw.ste st' (K _ _ _ v (C.behind X' h2 N q2 q3 e1 e2 e3 A (fun z => M (hnn z))) A (fun z => (M z).2) q1)
theorem Core.priv (C : Core p l e R s m args below meth c bs ml ret nm own Z a0 EL nw vm T h k n) {y : MethodName} {Cl : String} {ix : Nat} {bytes : ByteArray} {mx : Nat} {rt : Option FieldType} {rm : Room} {xs : List Addr} {W : Nat} {a : Addr} {argsL st : List Value} {as' : Array Value}
    (w1 : (Jvm.Cond.methodLink own ix y).before a0 Z = true) (w6 : (Jvm.Cond.instanceMethod y).before a0 Z = true) (P : Plain Z y.cls) (w7 : (Jvm.Cond.privateMethod y).before a0 Z = true) (w3 : (Jvm.Cond.code y bytes mx rt).before a0 Z = true) (w4 : (Jvm.Cond.initialized y.cls).before a0 Z = true) (hy : y.cls ≠ "java/lang/invoke/MethodHandle" ∧ y.cls ≠ "java/lang/invoke/VarHandle")
    (hM : Met l Z EL nw' y bytes mx rt [] rm as' h xs Q) (hnn : nw = true → nw' = true) (has : as' = (.ref a :: argsL).toArray) (E : Exa Z h a Cl) (hs : ∀ x ∈ xs, x < h.size ∧ Safe Z EL vm h x) (hf : rm.frames + 1 ≤ R.frames) (hl : W + (mx + 11) + rm.locals ≤ R.locals) (hk : k + rm.cells ≤ R.cells) (hn : n + rm.slots ≤ R.slots)
    (hlen : ∀ sig, parseMethodDescriptor y.desc = some sig → argsL.length = sig.parameters.length) (hst : st = argsL.reverse ++ .ref a :: rest) (hW : (rest.map fun v => v.category).sum ≤ W) (hsz : Ls.size = ml) (hd : decode bs pc = .ok (.invokevirtual ix, 3)) (hp : pc + 3 = pc')
    (K : ∀ vm' T' h' v, Core p l e R s m args below meth c bs ml ret nm own Z a0 EL nw vm' T' h' (k + rm.cells) (n + rm.slots) → CHr Z EL vm h vm' h' → (nw' = true → ∀ y, Bk Z EL vm' h' y → Bk Z EL vm h y) → Q v h' → Endw p e below T' (mkF m pc' Ls (v.toList ++ rest)) F) : Endw p e below T (mkF m pc Ls st) F := by
  subst hp has
  obtain ⟨-, ⟨L, X, N⟩, -⟩ := id C
  obtain ⟨cell, c1, c2⟩ := Exa.cell E
  obtain ⟨cP, kP, p1, p2, p3⟩ := P
  have w5 : (Jvm.Cond.selects y.cls y y).before a0 Z = true := selects_self_of_private p1 p2 p3 (Cond.privateMethod_at w7) w6 hy
  obtain ⟨v, vm₁, B, -, X', h2, -, ⟨L', ⟨q1, q2, q3⟩, e1, e2, e3, A, M⟩, st'⟩ := X.privateBackS C.hx (y := y) C.hown (mvT C.warm w1) (mvT C.warm w6) (mvT C.warm w5) (Cond.privateMethod_at (mvP (s := s.setVm vm) C.warm w7 (args := #[]))) (mvT C.warm w3) hy (backOwn (W := W) hM C.warm w3 w4 hf hl C.ew C.chv hs) (g := mkF m pc Ls st) rfl (hsz.trans C.mlq.symm) (Steps.refl _) (a := a) (by rw [C.heq]; exact c1) c2 (argsL := argsL) (rest := rest) hlen hst (by show 2 * 0 + _ ≤ _; omega) (C.dec hd) (fun _ _ => ⟨rfl, C.heq, hk, hn⟩)
  exact Endw.ste st' (K _ _ _ v (C.behind X' h2 N q2 q3 e1 e2 e3 A (fun z => M (hnn z))) A (fun z => (M z).2) q1)
theorem Core.acopy (C : Core p l e R s m args below meth c bs ml ret nm own Z a0 EL nw vm T h k n) {ix : Nat} {a b : Addr} {k1 k2 : ClassId} {ty : FieldType} {z1 z2 sp dp nn : Int32} {vs vd vr : List Value} {d1 d2 : Value} {W : Nat}
    (w1 : (Jvm.Cond.methodLink own ix Jvm.Stand.acN).before a0 Z = true) (w2 : (Jvm.Cond.native Jvm.Stand.acN).before a0 Z = true) (w3 : (Jvm.Cond.static Jvm.Stand.acN).before a0 Z = true) (w4 : (Jvm.Cond.initialized "java/lang/System").before a0 Z = true)
    (A : Arv Z h a k1 ty z1 vs d1) (B : Arv Z h b k2 ty z2 vd d2) (hty : refKind ty = false) (h1 : ¬ sp < 0) (h2 : ¬ dp < 0) (h3 : ¬ nn < 0) (h4 : sp.toNatClampNeg + nn.toNatClampNeg ≤ z1.toNatClampNeg) (h5 : dp.toNatClampNeg + nn.toNatClampNeg ≤ z2.toNatClampNeg) (hl : dp.toNatClampNeg + nn.toNatClampNeg ≤ vd.length)
    (hr : vd.take dp.toNatClampNeg ++ ((List.range nn.toNatClampNeg).map fun i => vs.getD (sp.toNatClampNeg + i) d1) ++ vd.drop (dp.toNatClampNeg + nn.toNatClampNeg) = vr) (ge : Z.heap.size ≤ b) (sf : Safe Z EL vm h b) (hsz : Ls.size = ml) (hd : decode bs pc = .ok (.invokestatic ix, 3)) (hp : pc + 3 = pc')
    (hf : 1 ≤ R.frames) (hW : (rest.map fun v => v.category).sum ≤ W) (hlo : W + (nativeFrameWords "java/lang/System" "arraycopy" 5 + 11) ≤ R.locals)
    (K : ∀ T' h', Core p l e R s m args below meth c bs ml ret nm own Z a0 EL nw vm T' h' k n → Keep h h' [b] → CHr Z EL vm h vm h' → Arv Z h' b k2 ty z2 vr d2 → Endw p e below T' (mkF m pc' Ls rest) F) : Endw p e below T (mkF m pc Ls (.int nn :: .int dp :: .ref b :: .int sp :: .ref a :: rest)) F := by
  subst hp hr
  obtain ⟨-, ⟨L, X, N⟩, -⟩ := id C
  obtain ⟨T', h', L', X', e', N', Kp, V, st⟩ := RoadKit.cpA X C.hx C.warm C.hown w1 w2 w3 w4 C.heq A B (Or.inl ⟨rfl, hty⟩) h1 h2 h3 h4 h5 rfl hl N ge (g := mkF m pc Ls (.int nn :: .int dp :: .ref b :: .int sp :: .ref a :: rest)) rfl (hsz.trans C.mlq.symm) rfl (C.dec hd) hf (W := W) (by show 2 * 0 + _ ≤ _; omega) hlo
  exact Endw.st st (K T' h' (C.on (ws := [b]) X' N' e' Kp (allS ge all0) (sfS sf sf0)) Kp (CHr.keep Kp (sfS sf sf0) C.chv) V)
end Calls
end Jvm.Own
namespace Jvm.Own
open Jvm Jvm.ClassFile Sem Op Lib Jvm.Free Jvm.Stand Jvm.LawKit Jvm.RoadKit Bundle
section Num
theorem own_ti {n : Nat} (h : n < 2147483648) : (Int32.ofNat n).toInt = (n : Int) := Int32.toInt_ofNat_small (by omega)
theorem own_nn {n : Nat} (h : n < 2147483648) : ¬ Int32.ofNat n < 0 := by
  rw [Int32.lt_iff_toInt_lt, own_ti h]; show ¬ ((n : Int) < 0); omega
theorem own_nc {n : Nat} (h : n < 2147483648) : (Int32.ofNat n).toNatClampNeg = n := by
  simp only [Int32.toNatClampNeg, own_ti h]; omega
theorem own_lt {a b : Nat} (ha : a < 2147483648) (hb : b < 2147483648) : Int32.ofNat a < Int32.ofNat b ↔ a < b := by
  rw [Int32.lt_iff_toInt_lt, own_ti ha, own_ti hb]; omega
theorem own_ieq {a b : Nat} (ha : a < 2147483648) (hb : b < 2147483648) : Int32.ofNat a = Int32.ofNat b ↔ a = b := by
  constructor
  · intro e; have := congrArg Int32.toInt e; rw [own_ti ha, own_ti hb] at this; omega
  · rintro rfl; rfl
theorem own_add (a b : Nat) : Int32.ofNat a + Int32.ofNat b = Int32.ofNat (a + b) := (Int32.ofNat_add a b).symm
theorem own_sub {a b : Nat} (h : b ≤ a) : Int32.ofNat a - Int32.ofNat b = Int32.ofNat (a - b) := by
  have e : Int32.ofNat a = Int32.ofNat (a - b) + Int32.ofNat b := by rw [own_add]; congr 1; omega
  rw [e]; exact Int32.add_sub_cancel _ _
theorem own_shr0 (x : Int32) : x >>> ((0 : Int32) &&& 31) = x := by
  rw [show ((0 : Int32) &&& 31) = 0 from by decide]
  apply Int32.toBitVec_inj.mp; rw [Int32.toBitVec_shiftRight, show (0 : Int32).toBitVec.smod 32 = 0#32 from by decide]; simp
theorem own_shl0 (x : Int32) : x <<< ((0 : Int32) &&& 31) = x := by
  rw [show ((0 : Int32) &&& 31) = 0 from by decide]
  apply Int32.toBitVec_inj.mp; rw [Int32.toBitVec_shiftLeft, show (0 : Int32).toBitVec.smod 32 = 0#32 from by decide]; simp
theorem bys_len (cs : List Int32) : (bys cs).length = cs.length := by simp [bys]
theorem bys_app (cs ds : List Int32) : bys (cs ++ ds) = bys cs ++ bys ds := by simp [bys]
theorem own_cat (cs ds : List Int32) : ((bys cs ++ List.replicate ds.length (Value.int 0)).take cs.length) ++ ((List.range ds.length).map fun i => (bys ds).getD (0 + i) (Value.int 0)) ++ ((bys cs ++ List.replicate ds.length (Value.int 0)).drop (cs.length + ds.length)) = bys (cs ++ ds) := by
  have h1 : (bys cs ++ List.replicate ds.length (Value.int 0)).take cs.length = bys cs := by rw [← bys_len cs]; exact List.take_left
  have h2 : (bys cs ++ List.replicate ds.length (Value.int 0)).drop (cs.length + ds.length) = [] := by
    apply List.drop_eq_nil_of_le; simp [bys_len]
  have h3 : ((List.range ds.length).map fun i => (bys ds).getD (0 + i) (Value.int 0)) = bys ds := by
    apply List.ext_getElem
    · simp [bys_len]
    · intro i q1 q2
      simp only [List.getElem_map, List.getElem_range, Nat.zero_add]
      rw [List.getD_eq_getElem?_getD, List.getElem?_eq_getElem q2]; rfl
  rw [h1, h2, h3, List.append_nil, bys_app]
end Num
end Jvm.Own
namespace Jvm.Own
open Jvm Jvm.ClassFile Sem Op Lib Jvm.Free Jvm.Stand Jvm.LawKit Jvm.RoadKit Bundle
section Sb
variable {p : Program} {l : Launch} {e : Env} {R : Room} {s : State} {m : MethodId} {args : Array Value} {below : List Frame} {meth : Method} {c : Code}
variable {bs : ByteArray} {ml : Nat} {ret : Option FieldType} {nm own : String} {Z : State} {a0 : Array Value} {EL : List (String × Nat)} {nw : Bool} {vm : Vm} {T T' : State} {h h' : Heap} {k n : Nat} {F : Outcome → State → Prop} {pc pc' : Nat} {Ls : Array Slot} {rest : List Value}
def Sb (Z : State) (h : Heap) (b t : Addr) (kb : ClassId) (cs : List Int32) (cap : Nat) : Prop :=
  Exa Z h b "java/lang/StringBuilder" ∧ (Fld Z h b "java/lang/AbstractStringBuilder" "coder" "B" (.int 0) ∧ Fld Z h b "java/lang/AbstractStringBuilder" "count" "I" (.int (Int32.ofNat cs.length))) ∧ Fld Z h b "java/lang/AbstractStringBuilder" "value" "[B" (.ref t) ∧
    Arv Z h t kb .byte (Int32.ofNat cap) (bys cs) (.int 0) ∧ (∀ c ∈ cs, B8 c) ∧ cs.length ≤ cap ∧ cap ≤ 4000
theorem Sb.keep {b t : Addr} {kb : ClassId} {cs : List Int32} {cap : Nat} {ws : List Addr} (S : Sb Z h b t kb cs cap) (K : Keep h h' ws) (q1 : b ∉ ws) (q2 : t ∉ ws) : Sb Z h' b t kb cs cap :=
  ⟨S.1.keep K, ⟨S.2.1.1.keep K q1, S.2.1.2.keep K q1⟩, S.2.2.1.keep K q1, S.2.2.2.1.keep K q2, S.2.2.2.2⟩
theorem Sb.le {b t : Addr} {kb : ClassId} {cs : List Int32} {cap : Nat} (S : Sb Z h b t kb cs cap) : cs.length ≤ cap := S.2.2.2.2.2.1
theorem Sb.le4 {b t : Addr} {kb : ClassId} {cs : List Int32} {cap : Nat} (S : Sb Z h b t kb cs cap) : cap ≤ 4000 := S.2.2.2.2.2.2
theorem Str.le4 {b t : Addr} {kb : ClassId} {cs : List Int32} (S : Str Z h b t kb cs) : cs.length ≤ 4000 := S.2.2.2.2.2
theorem own_all_app {P : Int32 → Prop} {cs ds : List Int32} (h1 : ∀ c ∈ cs, P c) (h2 : ∀ c ∈ ds, P c) : ∀ c ∈ cs ++ ds, P c := fun c q => (List.mem_append.mp q).elim (h1 c) (h2 c)
theorem Core.acopyCat (C : Core p l e R s m args below meth c bs ml ret nm own Z a0 EL nw vm T h k n) {ix : Nat} {a b : Addr} {k1 k2 : ClassId} {cs ds : List Int32} {cap W : Nat}
    (w1 : (Jvm.Cond.methodLink own ix Jvm.Stand.acN).before a0 Z = true) (w2 : (Jvm.Cond.native Jvm.Stand.acN).before a0 Z = true) (w3 : (Jvm.Cond.static Jvm.Stand.acN).before a0 Z = true) (w4 : (Jvm.Cond.initialized "java/lang/System").before a0 Z = true)
    (A : Arv Z h a k1 .byte (Int32.ofNat ds.length) (bys ds) (.int 0)) (B : Arv Z h b k2 .byte (Int32.ofNat cap) (bys cs) (.int 0)) (hle : cs.length + ds.length ≤ cap) (hc : cap ≤ 4000) (ge : Z.heap.size ≤ b) (sf : Safe Z EL vm h b) (hsz : Ls.size = ml) (hd : decode bs pc = .ok (.invokestatic ix, 3)) (hp : pc + 3 = pc')
    (hf : 1 ≤ R.frames) (hW : (rest.map fun v => v.category).sum ≤ W) (hlo : W + (nativeFrameWords "java/lang/System" "arraycopy" 5 + 11) ≤ R.locals)
    (K : ∀ T' h', Core p l e R s m args below meth c bs ml ret nm own Z a0 EL nw vm T' h' k n → Keep h h' [b] → CHr Z EL vm h vm h' → Arv Z h' b k2 .byte (Int32.ofNat cap) (bys (cs ++ ds)) (.int 0) → Endw p e below T' (mkF m pc' Ls rest) F) : Endw p e below T (mkF m pc Ls (.int (Int32.ofNat ds.length) :: .int (Int32.ofNat cs.length) :: .ref b :: .int 0 :: .ref a :: rest)) F := by
  have e1 : (Int32.ofNat cs.length).toNatClampNeg = cs.length := own_nc (by omega)
  have e2 : (Int32.ofNat ds.length).toNatClampNeg = ds.length := own_nc (by omega)
  have e3 : (Int32.ofNat cap).toNatClampNeg = cap := own_nc (by omega)
  have e0 : (0 : Int32).toNatClampNeg = 0 := by decide
  refine C.acopy (ty := .byte) (vr := bys (cs ++ ds)) w1 w2 w3 w4 A (B.pad (vs' := bys cs ++ List.replicate ds.length (.int 0)) (pad_rep _ _ _)) rfl (by decide) (own_nn (by omega)) (own_nn (by omega)) (by rw [e0, e2]; omega) (by rw [e1, e2, e3]; omega) (by rw [e1, e2]; simp [bys_len]) ?_ ge sf hsz hd hp hf hW hlo K
  rw [e1, e2, e0]; exact own_cat cs ds
theorem Core.acopyNew (C : Core p l e R s m args below meth c bs ml ret nm own Z a0 EL nw vm T h k n) {ix : Nat} {a b : Addr} {k1 k2 : ClassId} {cs : List Int32} {cap N M W : Nat}
    (w1 : (Jvm.Cond.methodLink own ix Jvm.Stand.acN).before a0 Z = true) (w2 : (Jvm.Cond.native Jvm.Stand.acN).before a0 Z = true) (w3 : (Jvm.Cond.static Jvm.Stand.acN).before a0 Z = true) (w4 : (Jvm.Cond.initialized "java/lang/System").before a0 Z = true)
    (A : Arv Z h a k1 .byte (Int32.ofNat cap) (bys cs) (.int 0)) (B : Arv Z h b k2 .byte (Int32.ofNat N) [] (.int 0)) (h1 : cs.length ≤ M) (h2 : M ≤ cap) (h3 : M ≤ N) (hc : cap ≤ 4000) (hN : N ≤ 4000) (ge : Z.heap.size ≤ b) (sf : Safe Z EL vm h b) (hsz : Ls.size = ml) (hd : decode bs pc = .ok (.invokestatic ix, 3)) (hp : pc + 3 = pc')
    (hf : 1 ≤ R.frames) (hW : (rest.map fun v => v.category).sum ≤ W) (hlo : W + (nativeFrameWords "java/lang/System" "arraycopy" 5 + 11) ≤ R.locals)
    (K : ∀ T' h', Core p l e R s m args below meth c bs ml ret nm own Z a0 EL nw vm T' h' k n → Keep h h' [b] → CHr Z EL vm h vm h' → Arv Z h' b k2 .byte (Int32.ofNat N) (bys cs) (.int 0) → Endw p e below T' (mkF m pc' Ls rest) F) : Endw p e below T (mkF m pc Ls (.int (Int32.ofNat M) :: .int 0 :: .ref b :: .int 0 :: .ref a :: rest)) F := by
  have e2 : (Int32.ofNat M).toNatClampNeg = M := own_nc (by omega)
  have e3 : (Int32.ofNat cap).toNatClampNeg = cap := own_nc (by omega)
  have e4 : (Int32.ofNat N).toNatClampNeg = N := own_nc (by omega)
  have e0 : (0 : Int32).toNatClampNeg = 0 := by decide
  have V : ∀ i, (bys cs).getD i (Value.int 0) = (bys cs ++ List.replicate (M - cs.length) (Value.int 0)).getD i (Value.int 0) := fun i => (pad_rep _ _ _ i).symm
  refine C.acopy (ty := .byte) (vr := bys cs ++ List.replicate (M - cs.length) (.int 0)) w1 w2 w3 w4 A (B.pad (vs' := [] ++ List.replicate M (.int 0)) (pad_rep _ _ _)) rfl (by decide) (by decide) (own_nn (by omega)) (by rw [e0, e2, e3]; omega) (by rw [e0, e2, e4]; omega) (by rw [e0, e2]; simp) ?_ ge sf hsz hd hp hf hW hlo ?_
  · rw [e0, e2]
    have q2 : (([] : List Value) ++ List.replicate M (Value.int 0)).drop (0 + M) = [] := by apply List.drop_eq_nil_of_le; simp
    rw [q2, List.take_zero, List.nil_append, List.append_nil]
    apply List.ext_getElem
    · simp [bys_len]; omega
    · intro i q1 q2
      simp only [List.getElem_map, List.getElem_range, Nat.zero_add]
      rw [V i, List.getD_eq_getElem?_getD, List.getElem?_eq_getElem q2]; rfl
  · intro T' h' C' Kp A' V'
    exact K T' h' C' Kp A' (V'.pad fun i => (pad_rep _ _ _ i).symm)
end Sb
end Jvm.Own
namespace Jvm.Own
open Jvm
section SbNum
theorem own_sub_le {a b : Nat} (h : a ≤ b) (hb : b ≤ 4000) : ¬ (0 : Int32) < Int32.ofNat a - Int32.ofNat b := by
  rw [Int32.lt_iff_toInt_lt, Int32.toInt_sub, own_ti (by omega), own_ti (by omega)]
  show ¬ ((0 : Int) < _)
  rw [Int.bmod_eq_of_le (by omega) (by omega)]; omega
theorem own_sub0 (x : Int32) : x - 0 = x := Int32.sub_zero x
theorem own_min_r {a b : Nat} (h : b < a) (ha : a ≤ 100000) : (if Int32.ofNat b < Int32.ofNat a then Int32.ofNat b else Int32.ofNat a) = Int32.ofNat b := if_pos ((own_lt (by omega) (by omega)).mpr h)
theorem own_min_l {a b : Nat} (h : a < b) (hb : b ≤ 100000) : (if Int32.ofNat b < Int32.ofNat a then Int32.ofNat b else Int32.ofNat a) = Int32.ofNat a := if_neg (fun q => absurd ((own_lt (by omega) (by omega)).mp q) (by omega))
theorem own_max {a b : Nat} (ha : a ≤ 4000) (hb : b ≤ 4000) : (if Int32.ofNat a < Int32.ofNat b then Int32.ofNat b else Int32.ofNat a) = Int32.ofNat (Nat.max a b) := by
  by_cases q : a < b
  · rw [if_pos ((own_lt (by omega) (by omega)).mpr q), show Nat.max a b = b from Nat.max_eq_right (by omega)]
  · rw [if_neg (fun z => q ((own_lt (by omega) (by omega)).mp z)), show Nat.max a b = a from Nat.max_eq_left (by omega)]
theorem own_pos {n : Nat} (h : 0 < n) (h2 : n < 2147483648) : (0 : Int32) < Int32.ofNat n := by
  rw [Int32.lt_iff_toInt_lt, own_ti h2]; show (0 : Int) < _; omega
theorem own_small {n : Nat} (h : n < 2147483639) : ¬ (2147483639 : Int32) < Int32.ofNat n := by
  rw [Int32.lt_iff_toInt_lt, own_ti (by omega)]; show ¬ ((2147483639 : Int) < _); omega
theorem own_nmax {n : Nat} (h : n < 2147483647) : ¬ Int32.ofNat n = (2147483647 : Int32) := fun e => by
  have := congrArg Int32.toInt e; rw [own_ti (by omega)] at this
  have e2 : (2147483647 : Int32).toInt = 2147483647 := rfl
  omega
theorem own_sub_gt {a b : Nat} (h : b < a) (ha : a ≤ 4000) : (0 : Int32) < Int32.ofNat a - Int32.ofNat b := by
  rw [own_sub (by omega)]; exact own_pos (by omega) (by omega)
def Grow (cap k nc : Nat) : Prop := k ≤ nc ∧ nc = cap + Nat.max (k - cap) (cap + 2)
end SbNum
end Jvm.Own
namespace Jvm.Own
section Wd
def C16 (c : Int32) : Prop := ¬ c < 0 ∧ ¬ (65535 : Int32) < c
def own_lo (c : Int32) : Int32 := c.toInt8.toInt32
def own_hi (c : Int32) : Int32 := (c >>> ((8 : Int32) &&& 31)).toInt8.toInt32
def wideI : List Int32 → List Int32
  | [] => []
  | c :: r => own_lo c :: own_hi c :: wideI r
theorem own_toNat {x : Int32} (h0 : ¬ x < 0) : x.toInt = (x.toBitVec.toNat : Int) := by
  rw [Int32.lt_iff_toInt_lt] at h0
  have e0 : (0 : Int32).toInt = 0 := rfl
  have := x.toBitVec.isLt
  have e : x.toInt = x.toBitVec.toInt := rfl
  rw [e] at h0 ⊢
  rw [BitVec.toInt_eq_toNat_cond] at h0 ⊢
  split at h0 <;> split <;> omega
theorem own_lo_and (x : Int32) : (own_lo x &&& 255).toBitVec.toNat = x.toBitVec.toNat % 256 := by
  have h : (own_lo x).toBitVec = (x.toBitVec.signExtend 8).signExtend 32 := by rw [own_lo, Int8.toBitVec_toInt32, Int32.toBitVec_toInt8]
  rw [Int32.toBitVec_and, BitVec.toNat_and, h]
  have e : ((x.toBitVec.signExtend 8).signExtend 32).toNat % 256 = x.toBitVec.toNat % 256 := by
    rw [BitVec.toNat_signExtend]
    have hlt := x.toBitVec.isLt
    simp only [BitVec.toNat_setWidth, BitVec.toNat_signExtend]
    split <;> split <;> omega
  rw [← e]
  exact Nat.and_two_pow_sub_one_eq_mod _ 8
theorem own_c16N {c : Int32} (h : C16 c) : c.toBitVec.toNat < 65536 := by
  have hc := own_toNat h.1
  have h1 := h.2
  rw [Int32.lt_iff_toInt_lt] at h1
  have e1 : (65535 : Int32).toInt = 65535 := rfl
  omega
theorem own_bvEq {x y : Int32} (h : x.toBitVec.toNat = y.toBitVec.toNat) : x = y := Int32.toBitVec_inj.mp (BitVec.eq_of_toNat_eq h)
theorem own_i2cN (x : Int32) : (x.toUInt32.toUInt16.toUInt32.toInt32).toBitVec.toNat = x.toBitVec.toNat % 65536 := by
  show BitVec.toNat ((x.toBitVec.setWidth 16).setWidth 32) = _
  rw [BitVec.toNat_setWidth, BitVec.toNat_setWidth]
  omega
theorem own_i2c16 {x : Int32} (h : C16 x) : x.toUInt32.toUInt16.toUInt32.toInt32 = x := own_bvEq (by rw [own_i2cN]; have := own_c16N h; omega)
theorem own_chr8 {c : Int32} (h : ¬ c < 0 ∧ ¬ (255 : Int32) < c) : own_lo c &&& 255 = c := by
  have hc := own_toNat h.1
  have h1 := h.2
  rw [Int32.lt_iff_toInt_lt] at h1
  have e1 : (255 : Int32).toInt = 255 := rfl
  exact own_bvEq (by rw [own_lo_and]; omega)
end Wd
end Jvm.Own
namespace Jvm.Own
open Jvm Jvm.ClassFile Sem Op Lib Jvm.Free Jvm.Stand Jvm.LawKit Jvm.RoadKit Bundle
section Wide
variable {p : Program} {l : Launch} {e : Env} {R : Room} {s : State} {m : MethodId} {args : Array Value} {below : List Frame} {meth : Method} {c : Code}
variable {bs : ByteArray} {ml : Nat} {ret : Option FieldType} {nm own : String} {Z : State} {a0 : Array Value} {EL : List (String × Nat)} {nw : Bool} {vm : Vm} {T T' : State} {h h' : Heap} {k n : Nat} {F : Outcome → State → Prop} {pc pc' : Nat} {Ls : Array Slot} {rest : List Value}
def own_vals (cs : List Int32) : List Value := cs.map Value.int
def own_wide (cs : List Int32) : List Value := own_vals (wideI cs)
theorem own_mapD (xs : List Int32) (i : Nat) : (own_vals xs).getD i (.int 0) = .int (xs.getD i 0) := by
  rw [own_vals, List.getD_eq_getElem?_getD, List.getElem?_map, List.getD_eq_getElem?_getD]
  cases xs[i]? <;> rfl
theorem own_bys1 (cs : List Int32) (x : Int32) : bys (cs ++ [x]) = bys cs ++ [.int x.toInt8.toInt32] := by simp [bys]
theorem own_bysV (cs : List Int32) : bys cs = own_vals (cs.map own_lo) := rfl
theorem own_bysD (cs : List Int32) {j : Nat} (h : j < cs.length) : (bys cs).getD j (.int 0) = .int (own_lo (cs.getD j 0)) := by
  rw [own_bysV, own_mapD]; congr 1
  rw [List.getD_eq_getElem?_getD, List.getElem?_map, List.getD_eq_getElem?_getD, List.getElem?_eq_getElem h]; rfl
theorem own_getAll {P : Int32 → Prop} {cs : List Int32} {j : Nat} (h : j < cs.length) (q : ∀ c ∈ cs, P c) : P (cs.getD j 0) := by
  rw [List.getD_eq_getElem?_getD, List.getElem?_eq_getElem h]; exact q _ (List.getElem_mem h)
theorem own_narC {x : Int32} (h : C16 x) : narrow .char (.int x) = .int x := congrArg Value.int (own_i2c16 h)
theorem own_inc (j : Nat) : Int32.ofNat j + (1 : Int32) = Int32.ofNat (j + 1) := own_add j 1
theorem own_n0 {n : Nat} (h : 0 < n) (h2 : n ≤ 4000) : ¬ Int32.ofNat n = (0 : Int32) := fun q => absurd ((own_ieq (b := 0) (by omega) (by omega)).mp q) (by omega)
def Wid (Z : State) (h : Heap) (a b : Addr) (kb : ClassId) (cs : List Int32) : Prop :=
  Exa Z h a "java/lang/String" ∧ Fld Z h a "java/lang/String" "coder" "B" (.int 1) ∧ Fld Z h a "java/lang/String" "value" "[B" (.ref b) ∧
    Arv Z h b kb .byte (Int32.ofNat (2 * cs.length)) (own_wide cs) (.int 0) ∧ (∀ c ∈ cs, C16 c) ∧ cs.length ≤ 8
theorem Wid.keep {a b : Addr} {kb : ClassId} {cs : List Int32} {ws : List Addr} (S : Wid Z h a b kb cs) (K : Keep h h' ws) (q1 : a ∉ ws) (q2 : b ∉ ws) : Wid Z h' a b kb cs :=
  ⟨S.1.keep K, S.2.1.keep K q1, S.2.2.1.keep K q1, S.2.2.2.1.keep K q2, S.2.2.2.2⟩
def Txt (Z : State) (h : Heap) (a b : Addr) (kb : ClassId) (cs : List Int32) : Prop := (Str Z h a b kb cs ∧ cs.length ≤ 8) ∨ Wid Z h a b kb cs
theorem Txt.keep {a b : Addr} {kb : ClassId} {cs : List Int32} {ws : List Addr} (S : Txt Z h a b kb cs) (K : Keep h h' ws) (q1 : a ∉ ws) (q2 : b ∉ ws) : Txt Z h' a b kb cs :=
  S.imp (fun q => ⟨q.1.keep K q1 q2, q.2⟩) (fun q => q.keep K q1 q2)
theorem Txt.exa {a b : Addr} {kb : ClassId} {cs : List Int32} (S : Txt Z h a b kb cs) : Exa Z h a "java/lang/String" := S.elim (fun q => q.1.1) (fun q => q.1)
theorem Core.bastoreEnd (C : Core p l e R s m args below meth c bs ml ret nm own Z a0 EL nw vm T h k n) {a : Addr} {kA : ClassId} {N i : Nat} {x x' : Int32} {vs : List Value} (A : Arv Z h a kA .byte (Int32.ofNat N) vs (.int 0)) (hi : vs.length = i) (hlt : i < N) (hN : N ≤ 4000) (hx' : nar .byte x = x') (ge : Z.heap.size ≤ a) (sf : Safe Z EL vm h a) (hd : decode bs pc = .ok (.bastore, 1)) (hp : pc + 1 = pc')
    (K : ∀ T' h', Core p l e R s m args below meth c bs ml ret nm own Z a0 EL nw vm T' h' k n → Keep h h' [a] → CHr Z EL vm h vm h' → Arv Z h' a kA .byte (Int32.ofNat N) (vs ++ [.int x']) (.int 0) → Endw p e below T' (mkF m pc' Ls rest) F) : Endw p e below T (mkF m pc Ls (.int x :: .int (Int32.ofNat i) :: .ref a :: rest)) F := by
  refine C.bastore (vs' := vs ++ [.int x']) (A.pad (vs' := vs ++ List.replicate 1 (.int 0)) (pad_rep _ _ _)) ⟨own_nn (by omega), (own_lt (by omega) (by omega)).mpr hlt⟩ i (own_nc (by omega)) (by simp; omega) hx' ge sf ?_ hd hp K
  subst hi
  rw [List.set_append_right _ _ (Nat.le_refl _), Nat.sub_self]; rfl
theorem Core.baloadN (C : Core p l e R s m args below meth c bs ml ret nm own Z a0 EL nw vm T h k n) {a : Addr} {kA : ClassId} {N j : Nat} {vs : List Value} {dv v : Value} (A : Arv Z h a kA .byte (Int32.ofNat N) vs dv) (hj : j < N) (hN : N ≤ 8000) (hv : vs.getD j dv = v) (hd : decode bs pc = .ok (.baload, 1)) (hp : pc + 1 = pc')
    (K : Endw p e below T (mkF m pc' Ls (v :: rest)) F) : Endw p e below T (mkF m pc Ls (.int (Int32.ofNat j) :: .ref a :: rest)) F :=
  C.baload A ⟨own_nn (by omega), (own_lt (by omega) (by omega)).mpr hj⟩ (by rw [own_nc (by omega)]; exact hv) hd hp K
end Wide
end Jvm.Own
namespace Jvm.Own
open Jvm Jvm.ClassFile Sem Op Lib Jvm.Free Jvm.Stand Jvm.LawKit Jvm.RoadKit Bundle
section Clone
variable {p : Program} {l : Launch} {e : Env} {R : Room} {s : State} {m : MethodId} {args : Array Value} {below : List Frame} {meth : Method} {c : Code}
variable {bs : ByteArray} {ml : Nat} {ret : Option FieldType} {nm own : String} {Z : State} {a0 : Array Value} {EL : List (String × Nat)} {nw : Bool} {vm : Vm} {T T' : State} {h h' : Heap} {k n : Nat} {F : Outcome → State → Prop} {pc pc' : Nat} {Ls : Array Slot} {rest : List Value} {g : JFrame}
theorem Core.newAE (C : Core p l e R s m args below meth c bs ml ret nm own Z a0 EL nw vm T h k n) {aty : ArrayType} {z : Int32} {cap : Nat} {vs : List Value} {ad : String} (had : "[" ++ (newarray.typeOf aty).toString = ad) (w : (Jvm.Cond.arrayClass (newarray.typeOf aty)).before a0 Z = true) (hd : decode bs pc = .ok (.newarray aty, 2)) (hp : pc + 2 = pc') (hz : ¬ z < 0) (hcap : z.toNatClampNeg ≤ cap) (hb : cap * 8 ≤ 536870912) (hk : k + 1 ≤ R.cells) (hn : n + cap ≤ R.slots) (hvs : vs = List.replicate vs.length (defaultValue (newarray.typeOf aty)))
    (K : ∀ T' h' x kA, Core p l e R s m args below meth c bs ml ret nm own Z a0 EL nw vm T' h' (k + 1) (n + cap) → Keep h h' [] → CHr Z EL vm h vm h' → h.size ≤ x → Z.heap.size ≤ x → Arv Z h' x kA (newarray.typeOf aty) z vs (defaultValue (newarray.typeOf aty)) → Safe Z EL vm h' x → Exa Z h' x ad → Endw p e below T' (mkF m pc' Ls (.ref x :: rest)) F) : Endw p e below T (mkF m pc Ls (.int z :: rest)) F := by
  subst hp
  obtain ⟨-, ⟨L, X, N⟩, -⟩ := id C
  obtain ⟨T', h', cA, X', e', E, A, Ex, st⟩ := RoadKit.newPE X C.hx C.warm w C.heq (g := mkF m pc Ls (.int z :: rest)) rfl (C.dec hd) rfl hz hcap hb hk hn had
  have q := (Arv.new A hz).pad (vs' := [] ++ List.replicate vs.length (defaultValue (newarray.typeOf aty))) (pad_rep _ _ _)
  rw [List.nil_append, ← hvs] at q
  exact Endw.st st (K T' h' h.size cA (C.on (ws := []) X' N e' (keep_of_ext E) all0 sf0) (keep_of_ext E) (CHr.keep (keep_of_ext E) sf0 C.chv) (Nat.le_refl _) C.le q (Safe.ext E C.chv (Safe.new (Nat.le_refl _))) Ex)
theorem Core.clone (C : Core p l e R s m args below meth c bs ml ret nm own Z a0 EL nw vm T h k n) {ad : String} {ix : Nat} (w1 : (Jvm.Cond.methodLink own ix ⟨ad, "clone", "()Ljava/lang/Object;"⟩).before a0 Z = true) (w2 : (Jvm.Cond.sameMethod ad "java/lang/Object" "clone" "()Ljava/lang/Object;").before a0 Z = true) (w3 : (Jvm.Cond.native ⟨"java/lang/Object", "clone", "()Ljava/lang/Object;"⟩).before a0 Z = true)
    (w4 : (Jvm.Cond.instanceMethod ⟨"java/lang/Object", "clone", "()Ljava/lang/Object;"⟩).before a0 Z = true) (w5 : (Jvm.Cond.selects ad ⟨ad, "clone", "()Ljava/lang/Object;"⟩ ⟨"java/lang/Object", "clone", "()Ljava/lang/Object;"⟩).before a0 Z = true) (w6 : (Jvm.Cond.castable ad "java/lang/Cloneable").before a0 Z = true)
    {a : Addr} {kA : ClassId} {ty : FieldType} {z : Int32} {vs : List Value} {dv : Value} (A : Arv Z h a kA ty z vs dv) (E : Exa Z h a ad) {W cap : Nat} (hf : 1 ≤ R.frames) (hW : (rest.map fun v => v.category).sum ≤ W) (hl : W + 14 ≤ R.locals) (hcap : z.toNatClampNeg ≤ cap) (hk : k + 1 ≤ R.cells) (hn : n + cap ≤ R.slots) (hsz : Ls.size = ml) (hd : decode bs pc = .ok (.invokevirtual ix, 3)) (hp : pc + 3 = pc')
    (K : ∀ T' h' x, Core p l e R s m args below meth c bs ml ret nm own Z a0 EL nw vm T' h' (k + 1) (n + cap) → Keep h h' [] → CHr Z EL vm h vm h' → h.size ≤ x → Z.heap.size ≤ x → Arv Z h' x kA ty z vs dv → Safe Z EL vm h' x → Exa Z h' x ad → Endw p e below T' (mkF m pc' Ls (.ref x :: rest)) F) : Endw p e below T (mkF m pc Ls (.ref a :: rest)) F := by
  subst hp
  obtain ⟨-, ⟨L, X, N⟩, -⟩ := id C
  obtain ⟨cl, Ar, q1, S, q3, H, G⟩ := A
  have FC : FitC Z cl := fitC_of Ar fun i hi v hv => by rw [H i hi] at hv; cases hv; exact G i hi
  obtain ⟨T', h', X', e', ex, A', E', st⟩ := RoadKit.cloneA X C.hx C.warm C.hown w1 w2 w3 w4 w5 w6 C.heq Ar E FC (g := mkF m pc Ls (.ref a :: rest)) rfl (hsz.trans C.mlq.symm) rfl (C.dec hd) hf (W := W) (by show 2 * 0 + _ ≤ _; omega) hl (by rw [S]; exact hcap) hk hn
  exact Endw.st st (K T' h' h.size (C.on (ws := []) X' N e' (keep_of_ext ex) all0 sf0) (keep_of_ext ex) (CHr.keep (keep_of_ext ex) sf0 C.chv) (Nat.le_refl _) C.le ⟨cloneOf cl, A', q1, S, q3, H, G⟩ (Safe.ext ex C.chv (Safe.new (Nat.le_refl _))) E')
end Clone
end Jvm.Own
namespace Jvm.Own
open Jvm Jvm.ClassFile Sem Op Lib Jvm.Free Jvm.Stand Jvm.LawKit Jvm.RoadKit Bundle
section Lat
variable {p : Program} {l : Launch} {e : Env} {R : Room} {s : State} {m : MethodId} {args : Array Value} {below : List Frame} {meth : Method} {c : Code}
variable {bs : ByteArray} {ml : Nat} {ret : Option FieldType} {nm own : String} {Z : State} {a0 : Array Value} {EL : List (String × Nat)} {nw : Bool} {vm : Vm} {T T' : State} {h h' : Heap} {k n : Nat} {F : Outcome → State → Prop} {pc pc' : Nat} {Ls : Array Slot} {rest : List Value} {Q : Option Value → Heap → Prop}
theorem own_mvPub {s' : State} {as' : Array Value} {y : MethodName} (hZ : Z.Warmed39 s'.vm) (w : (Jvm.Cond.publicMethod y).before a0 Z = true) : (Jvm.Cond.publicMethod y).before as' s' = true := by
  have h1 : (Jvm.Cond.publicMethod y).before a0 (Z.setVm s'.vm) = true := Cond.rides hZ rfl w
  exact h1
theorem own_mvUnh {s' : State} {as' : Array Value} {C n d : String} (hZ : Z.Warmed39 s'.vm) (w : (Jvm.Cond.unhidden C n d).before a0 Z = true) : (Jvm.Cond.unhidden C n d).before as' s' = true := by
  have h1 : (Jvm.Cond.unhidden C n d).before a0 (Z.setVm s'.vm) = true := Cond.rides hZ rfl w
  exact h1
theorem own_mvFace {s' : State} {as' : Array Value} {A n d : String} (hA : A ≠ "java/lang/invoke/MethodHandle" ∧ A ≠ "java/lang/invoke/VarHandle") (hZ : Z.Warmed39 s'.vm) (w : (Jvm.Cond.interfaceMethod A A n d).before a0 Z = true) : (Jvm.Cond.interfaceMethod A A n d).before as' s' = true := by
  have h1 : (Jvm.Cond.interfaceMethod A A n d).before a0 (Z.setVm s'.vm) = true := Cond.rides hZ (by simp [Cond.keepsFace, Cond.keeps, Cond.faceAtom, hA.1, hA.2]) w
  exact h1
theorem Core.iface (C : Core p l e R s m args below meth c bs ml ret nm own Z a0 EL nw vm T h k n) {nw' : Bool} {y z : MethodName} {Cl : String} {ix cnt : Nat} {bytes : ByteArray} {mx : Nat} {rt : Option FieldType} {rm : Room} {xs : List Addr} {W : Nat} {a : Addr} {argsL st : List Value} {as' : Array Value}
    (w1 : (Jvm.Cond.methodLink own ix y).before a0 Z = true) (w2 : (Jvm.Cond.declares y).before a0 Z = true) (wf : (Jvm.Cond.interfaceMethod y.cls y.cls y.name y.desc).before a0 Z = true) (w5 : (Jvm.Cond.selects Cl y z).before a0 Z = true) (w6 : (Jvm.Cond.instanceMethod z).before a0 Z = true) (wp : (Jvm.Cond.publicMethod z).before a0 Z = true) (wu : (Jvm.Cond.unhidden Cl y.name y.desc).before a0 Z = true) (wc : (Jvm.Cond.castable Cl y.cls).before a0 Z = true) (w3 : (Jvm.Cond.code z bytes mx rt).before a0 Z = true) (w4 : (Jvm.Cond.initialized z.cls).before a0 Z = true) (hy : y.cls ≠ "java/lang/invoke/MethodHandle" ∧ y.cls ≠ "java/lang/invoke/VarHandle")
    (hM : Met l Z EL nw' z bytes mx rt [] rm as' h xs Q) (hnn : nw = true → nw' = true) (has : as' = (.ref a :: argsL).toArray) (E : Exa Z h a Cl) (hs : ∀ x ∈ xs, x < h.size ∧ Safe Z EL vm h x) (hf : rm.frames + 1 ≤ R.frames) (hl : W + (mx + 11) + rm.locals ≤ R.locals) (hk : k + rm.cells ≤ R.cells) (hn : n + rm.slots ≤ R.slots)
    (hlen : ∀ sig, parseMethodDescriptor y.desc = some sig → argsL.length = sig.parameters.length) (hst : st = argsL.reverse ++ .ref a :: rest) (hW : (rest.map fun v => v.category).sum ≤ W) (hsz : Ls.size = ml) (hd : decode bs pc = .ok (.invokeinterface ix cnt, 5)) (hp : pc + 5 = pc')
    (K : ∀ vm' T' h' v, Core p l e R s m args below meth c bs ml ret nm own Z a0 EL nw vm' T' h' (k + rm.cells) (n + rm.slots) → CHr Z EL vm h vm' h' → (nw' = true → ∀ y, Bk Z EL vm' h' y → Bk Z EL vm h y) → Q v h' → Endw p e below T' (mkF m pc' Ls (v.toList ++ rest)) F) : Endw p e below T (mkF m pc Ls st) F := by
  subst hp has
  obtain ⟨-, ⟨L, X, N⟩, -⟩ := id C
  obtain ⟨cq, kq, qa, qb, qc⟩ := isOf (s := s.setVm vm) C.warm C.heq E
  obtain ⟨v, vm₁, B, -, X', h2, -, ⟨L', ⟨q1, q2, q3⟩, e1, e2, e3, A, M⟩, st'⟩ := X.interfaceBackS C.hx (xi := y) (y := z) C.hown (mvT C.warm w1) (mvT C.warm w2) (own_mvFace (s' := s.setVm vm) hy C.warm wf) (mvT C.warm w5) (mvT C.warm w6) (own_mvPub (s' := s.setVm vm) C.warm wp) (own_mvUnh (s' := s.setVm vm) C.warm wu) (mvT C.warm wc) hy (backOwn (W := W) hM C.warm w3 w4 hf hl C.ew C.chv hs) qa qb qc (g := mkF m pc Ls st) rfl (hsz.trans C.mlq.symm) (Steps.refl _) (argsL := argsL) (rest := rest) hlen hst (by show 2 * 0 + _ ≤ _; omega) (C.dec hd) (fun _ _ => ⟨rfl, C.heq, hk, hn⟩)
  exact Endw.ste st' (K _ _ _ v (C.behind X' h2 N q2 q3 e1 e2 e3 A (fun z => M (hnn z))) A (fun z => (M z).2) q1)
end Lat
end Jvm.Own
namespace Jvm.Own
open Jvm Jvm.ClassFile Sem Op Lib Jvm.Free Jvm.Stand Jvm.LawKit Jvm.RoadKit Bundle
section Coll
variable {p : Program} {l : Launch} {e : Env} {R : Room} {s : State} {m : MethodId} {args : Array Value} {below : List Frame} {meth : Method} {c : Code}
variable {bs : ByteArray} {ml : Nat} {ret : Option FieldType} {nm own : String} {Z : State} {a0 : Array Value} {EL : List (String × Nat)} {nw : Bool} {vm : Vm} {T T' : State} {h h' : Heap} {k n : Nat} {g : JFrame} {F : Outcome → State → Prop} {pc pc' : Nat} {Ls : Array Slot} {rest : List Value} {Q : Option Value → Heap → Prop}
def Mi (Z : State) (C : String) (m : Addr) : Prop := ∃ (c : ClassId) (k : Class), Z.vm.findClass C = some c ∧ Z.vm.classes[c]? = some k ∧ k.mirror = some m
theorem Core.ldcMir (C : Core p l e R s m args below meth c bs ml ret nm own Z a0 EL nw vm T h k n) {K : String} {ix : Nat} {a : Addr} (w : (Jvm.Cond.classLink own ix K).before a0 Z = true) (M : Mi Z K a) (hd : decode bs pc = .ok (.ldc ix, 2)) (hp : pc + 2 = pc')
    (Kk : ∀ T', Core p l e R s m args below meth c bs ml ret nm own Z a0 EL nw vm T' h k n → Endw p e below T' (mkF m pc' Ls (.ref a :: rest)) F) : Endw p e below T (mkF m pc Ls rest) F := by
  subst hp
  obtain ⟨-, ⟨L, X, N⟩, -⟩ := id C
  have hev : (Term.mirror K).eval args (s.setVm vm) none [] (s.setVm vm) = some (.ref a) := by
    obtain ⟨c0, k0, h1, h2, h3⟩ := M
    obtain ⟨k', q1, q2⟩ := C.warm.alike.2.2 _ _ h2
    have f1 : vm.findClass K = some c0 := by rw [C.warm.alike.findClass]; exact h1
    have f2 : vm.classes[c0]? = some k' := q1
    have f3 : k'.mirror = some a := by rw [q2]; exact h3
    simp [Term.eval, f1, f2, f3]
  obtain ⟨vm', X', st⟩ := X.ldcMirror C.hx C.hown (mvT C.warm w) hev (g := mkF m pc Ls rest) rfl (C.dec hd)
  exact Endw.st st (Kk _ (C.same X' N C.heq))
theorem Core.getClass (C : Core p l e R s m args below meth c bs ml ret nm own Z a0 EL nw vm T h k n) {K : String} {ix : Nat} {a mr : Addr} {W : Nat}
    (w1 : (Jvm.Cond.methodLink own ix ⟨"java/lang/Object", "getClass", "()Ljava/lang/Class;"⟩).before a0 Z = true) (w2 : (Jvm.Cond.declares ⟨"java/lang/Object", "getClass", "()Ljava/lang/Class;"⟩).before a0 Z = true) (w3 : (Jvm.Cond.noSuperclass "java/lang/Object").before a0 Z = true) (w4 : (Jvm.Cond.selects K ⟨"java/lang/Object", "getClass", "()Ljava/lang/Class;"⟩ ⟨"java/lang/Object", "getClass", "()Ljava/lang/Class;"⟩).before a0 Z = true)
    (w5 : (Jvm.Cond.instanceMethod ⟨"java/lang/Object", "getClass", "()Ljava/lang/Class;"⟩).before a0 Z = true) (w6 : (Jvm.Cond.native ⟨"java/lang/Object", "getClass", "()Ljava/lang/Class;"⟩).before a0 Z = true) (E : Exa Z h a K) (M : Mi Z K mr) (hsz : Ls.size = ml) (hd : decode bs pc = .ok (.invokevirtual ix, 3)) (hp : pc + 3 = pc') (hf : 1 ≤ R.frames) (hW : (rest.map fun v => v.category).sum ≤ W) (hl : W + (nativeFrameWords "java/lang/Object" "getClass" 1 + 11) ≤ R.locals)
    (Kk : ∀ T', Core p l e R s m args below meth c bs ml ret nm own Z a0 EL nw vm T' h k n → Endw p e below T' (mkF m pc' Ls (.ref mr :: rest)) F) : Endw p e below T (mkF m pc Ls (.ref a :: rest)) F := by
  subst hp
  obtain ⟨-, ⟨L, X, N⟩, -⟩ := id C
  obtain ⟨cB, kB, i1, -, i3⟩ := isOf (s := s.setVm vm) C.warm C.heq E
  obtain ⟨cc, kc, m1, m2, m3⟩ := M
  have i1' : vm.findClass K = some cB := i1
  rw [C.warm.alike.findClass] at i1'
  cases i1'.symm.trans m1
  obtain ⟨k', q, ek⟩ := C.warm.alike.2.2 _ _ m2
  obtain ⟨vm', X', st⟩ := X.getClassOf C.hx C.hown (mvT C.warm w1) (mvT C.warm w2) (nf_top (args := #[]) (mvT C.warm w3)) (mvT C.warm w4) (mvT C.warm w5) (mvT C.warm w6) (show vm.findClass K = some _ from by rw [C.warm.alike.findClass]; exact m1) i3 q (by rw [ek]; exact m3) (g := mkF m pc Ls (.ref a :: rest)) rfl (hsz.trans C.mlq.symm) rfl (C.dec hd) hf (by show 2 * 0 + _ + _ ≤ _; omega)
  exact Endw.st st (Kk _ (C.same X' N C.heq))
theorem own_ldcF (C : Core p l e R s m args below meth c bs ml ret nm own Z a0 EL nw vm T h k n) {ix : Nat} {v : UInt32} {target : State} (w : (Jvm.Cond.constantFloat own ix v).before a0 Z = true) (hg : g.method = m) (hd : decode bs g.pc = .ok (.ldc ix, 2)) (hr : Steps p.tables e below (T.setTop { g with pc := g.pc + 2, stack := .float v :: g.stack }) target) : Steps p.tables e below (T.setTop g) target := by
  obtain ⟨-, ⟨L, X, -⟩, -⟩ := id C
  exact X.ldcFloatC C.hx C.hown (mvT C.warm w) hg (C.dec hd) _ hr
theorem Core.iaload (C : Core p l e R s m args below meth c bs ml ret nm own Z a0 EL nw vm T h k n) {a : Addr} {kA : ClassId} {z j : Int32} {vs : List Value} {dv v : Value} (A : Arv Z h a kA .int z vs dv) (hj : ¬ j < 0 ∧ j < z) (hv : vs.getD j.toNatClampNeg dv = v) (hd : decode bs pc = .ok (.iaload, 1)) (hp : pc + 1 = pc')
    (K : Endw p e below T (mkF m pc' Ls (v :: rest)) F) : Endw p e below T (mkF m pc Ls (.int j :: .ref a :: rest)) F := by
  subst hp
  obtain ⟨-, ⟨L, X, N⟩, -⟩ := id C
  obtain ⟨cl, Ar, -, S, hz, H, -⟩ := A
  exact Endw.st (fun t r => X.iaload C.hx (by rw [C.heq]; exact Ar.1) (State.isArrayOf_alike C.warm.alike Ar.2.1) Ar.2.2 (inb_of S hj) (H.at (inb_of S hj) hv) (g := mkF m pc Ls (.int j :: .ref a :: rest)) rfl rfl (C.dec hd) t r) K
theorem Core.newR (C : Core p l e R s m args below meth c bs ml ret nm own Z a0 EL nw vm T h k n) {K ad : String} {ix : Nat} {z : Int32} {cap : Nat} {vs : List Value} (had : "[" ++ (FieldType.object K).toString = ad) (w1 : (Jvm.Cond.classLink own ix K).before a0 Z = true) (w2 : (Jvm.Cond.arrayOver (.object K)).before a0 Z = true) (hd : decode bs pc = .ok (.anewarray ix, 3)) (hp : pc + 3 = pc') (hz : ¬ z < 0) (hcap : z.toNatClampNeg ≤ cap) (hb : cap * 8 ≤ 536870912) (hk : k + 1 ≤ R.cells) (hn : n + cap ≤ R.slots) (hvs : vs = List.replicate vs.length .null)
    (Kk : ∀ T' h' x kA, Core p l e R s m args below meth c bs ml ret nm own Z a0 EL nw vm T' h' (k + 1) (n + cap) → Keep h h' [] → CHr Z EL vm h vm h' → h.size ≤ x → Z.heap.size ≤ x → Arv Z h' x kA (.object K) z vs .null → Safe Z EL vm h' x → Exa Z h' x ad → Ovr Z kA K → Endw p e below T' (mkF m pc' Ls (.ref x :: rest)) F) : Endw p e below T (mkF m pc Ls (.int z :: rest)) F := by
  subst hp
  obtain ⟨-, ⟨L, X, N⟩, -⟩ := id C
  obtain ⟨T', h', cA, X', e', E, A, Ex, Ov, st⟩ := RoadKit.newRE X C.hx C.warm C.hown w1 w2 C.heq (g := mkF m pc Ls (.int z :: rest)) rfl (C.dec hd) rfl hz hcap hb hk hn had
  have q := (Arv.new A hz).pad (vs' := [] ++ List.replicate vs.length (defaultValue (.object K))) (pad_rep _ _ _)
  rw [List.nil_append, show defaultValue (.object K) = Value.null from rfl, ← hvs] at q
  exact Endw.st st (Kk T' h' h.size cA (C.on (ws := []) X' N e' (keep_of_ext E) all0 sf0) (keep_of_ext E) (CHr.keep (keep_of_ext E) sf0 C.chv) (Nat.le_refl _) C.le q (Safe.ext E C.chv (Safe.new (Nat.le_refl _))) Ex Ov)
theorem Core.aastore (C : Core p l e R s m args below meth c bs ml ret nm own Z a0 EL nw vm T h k n) {a y : Addr} {kA : ClassId} {K : String} {z j : Int32} {vs vs' : List Value} {dv : Value} (A : Arv Z h a kA (.object K) z vs dv) (O : Ovr Z kA K) (I : Ins Z h y K true) (hj : ¬ j < 0 ∧ j < z) (i : Nat) (hi : j.toNatClampNeg = i) (hl : i < vs.length) (ge : Z.heap.size ≤ a) (hvs : vs.set i (.ref y) = vs') (hd : decode bs pc = .ok (.aastore, 1)) (hp : pc + 1 = pc')
    (Kk : ∀ T' h', Core p l e R s m args below meth c bs ml ret nm own Z a0 EL nw vm T' h' k n → Keep h h' [a] → CHr Z EL vm h vm h' → Arv Z h' a kA (.object K) z vs' dv → Endw p e below T' (mkF m pc' Ls rest) F) : Endw p e below T (mkF m pc Ls (.ref y :: .int j :: .ref a :: rest)) F := by
  subst hp hvs
  obtain ⟨-, ⟨L, X, N⟩, -⟩ := id C
  have sf : Safe Z EL vm h a := Safe.arv C.warm.alike A (by simp)
  obtain ⟨cl, Ar, q1, S, hz, H, G⟩ := A
  obtain ⟨T', h', X', e', W, st⟩ := RoadKit.stR X C.hx C.warm C.heq Ar (inb_of S hj) rfl (Sto.ofV Ar q1 O I) (g := mkF m pc Ls (.ref y :: .int j :: .ref a :: rest)) rfl rfl (C.dec hd)
  exact Endw.st st (Kk T' h' (C.on (ws := [a]) X' (N.app fun y hy => by cases List.mem_singleton.mp hy; exact ge) e' (Keep.of_wr W) (allS ge all0) (sfS sf sf0)) (Keep.of_wr W) (CHr.keep (Keep.of_wr W) (sfS sf sf0) C.chv) (Arv.set Ar q1 S hz H G (own_fits_ref rfl) W i hi hl))
theorem Core.putFV (C : Core p l e R s m args below meth c bs ml ret nm own Z a0 EL nw vm T h k n) {R0 O nm' d Cl : String} {ix kk : Nat} {a : Addr} {v old : Value} {ty : FieldType} (w : (Jvm.Cond.fieldLink own ix R0 nm' d).before a0 Z = true) (via : Via Z R0 O nm' d) (f : Fld Z h a O nm' d old) (E : Exa Z h a Cl) (la : (Jvm.Cond.lays Cl O nm' d).before a0 Z = true ∨ ((Jvm.Cond.laysFinal Cl O nm' d).before a0 Z = true ∧ own = O ∧ nm = "<init>")) (wi : (Jvm.Cond.instantiable Cl kk).before a0 Z = true)
    (hty : parseFieldDescriptor d = some ty) (hn : narrow ty v = v) (hf : fits ty v = true) (ge : Z.heap.size ≤ a) (sf : Safe Z EL vm h a) (hd : decode bs pc = .ok (.putfield ix, 3)) (hp : pc + 3 = pc')
    (K : ∀ T' h', Core p l e R s m args below meth c bs ml ret nm own Z a0 EL nw vm T' h' k n → Keep h h' [a] → CHr Z EL vm h vm h' → Wr h h' a (RoadKit.slotOf Z O nm' d) v → Endw p e below T' (mkF m pc' Ls rest) F) : Endw p e below T (mkF m pc Ls (v :: .ref a :: rest)) F := by
  subst hp
  obtain ⟨-, ⟨L, X, N⟩, -⟩ := id C
  obtain ⟨T', h', X', e', W, st⟩ := RoadKit.putF X C.hx C.warm C.hown (host := "") (Or.inl w) via C.heq f E (la.imp id fun q => ⟨q.1, q.2.1, C.nam.trans q.2.2⟩) wi hty hn hf (g := mkF m pc Ls (v :: .ref a :: rest)) rfl rfl (C.dec hd)
  exact Endw.st st (K T' h' (C.on (ws := [a]) X' (N.app fun y hy => by cases List.mem_singleton.mp hy; exact ge) e' (Keep.of_wr W) (allS ge all0) (sfS sf sf0)) (Keep.of_wr W) (CHr.keep (Keep.of_wr W) (sfS sf sf0) C.chv) W)
theorem own_plain2 {C : String} {x y : MethodName} (w : (Jvm.Cond.selects C x y).before a0 Z = true) : Plain Z y.cls := by
  obtain ⟨c, r, mm, -, -, h3, -, mk, h5, h6⟩ := Cond.selects_spec w
  exact ⟨_, mk, findClass_of_methodNamed h3, h5, h6⟩
theorem own_NSrootP {O K : String} (w : (Jvm.Cond.noSuperclass O).before a0 Z = true) (P : Plain Z K) (hn : O ≠ K) : NS Z O K := by
  obtain ⟨c, k, h1, h2, h3, -, -⟩ := Cond.noSuperclass_spec w
  obtain ⟨t, kt, g1, -, -⟩ := P
  have ne := ids_ne h1 g1 hn
  refine ⟨c, t, h1, g1, fun fuel => ?_⟩
  cases fuel with
  | zero => rfl
  | succ f => simp [Vm.isSubclassAux, ne, h2, h3]
theorem own_NSnoP {Cl S K : String} (w : (Jvm.Cond.superclass Cl S).before a0 Z = true) (P : Plain Z K) (n : NS Z Cl K) (hn : Cl ≠ K) : ∃ c t, Z.vm.findClass Cl = some c ∧ Z.vm.findClass K = some t ∧ Z.vm.assignable c t = false := by
  obtain ⟨c, t, h0, g0, n3⟩ := n
  obtain ⟨p, k, kp, h1, h2, h3, h4, h5, -, h7⟩ := Cond.superclass_spec h0 w
  obtain ⟨t', kt, g1, g2, g4⟩ := P
  cases g0.symm.trans g1
  have ne := ids_ne h0 g0 hn
  refine ⟨c, t, h0, g0, ?_⟩
  show Z.vm.assignableAux (255 + 1) c t = false
  cases hk : kt.kind <;> simp [Vm.assignableAux, ne, h2, g2, h5, hk, g4, Vm.isSubclass, n3]
theorem own_sto {b y : Addr} {kB : ClassId} {K : String} {z : Int32} {vs : List Value} {dv : Value} (B : Arv Z h b kB (.object K) z vs dv) (O : Ovr Z kB K) (I : Ins Z h y K true) : Sto Z h b (.ref y) := by
  obtain ⟨cl, Ar, q1, -⟩ := B; exact Sto.ofV Ar q1 O I
theorem Core.acopyR (C : Core p l e R s m args below meth c bs ml ret nm own Z a0 EL nw vm T h k n) {ix : Nat} {a b : Addr} {k1 k2 : ClassId} {K1 K2 : String} {z1 z2 sp dp nn : Int32} {vs vd vr us : List Value} {d1 d2 : Value} {W : Nat}
    (w1 : (Jvm.Cond.methodLink own ix Jvm.Stand.acN).before a0 Z = true) (w2 : (Jvm.Cond.native Jvm.Stand.acN).before a0 Z = true) (w3 : (Jvm.Cond.static Jvm.Stand.acN).before a0 Z = true) (w4 : (Jvm.Cond.initialized "java/lang/System").before a0 Z = true)
    (A : Arv Z h a k1 (.object K1) z1 vs d1) (B : Arv Z h b k2 (.object K2) z2 vd d2) (St : StoL Z h b us) (h1 : ¬ sp < 0) (h2 : ¬ dp < 0) (h3 : ¬ nn < 0) (h4 : sp.toNatClampNeg + nn.toNatClampNeg ≤ z1.toNatClampNeg) (h5 : dp.toNatClampNeg + nn.toNatClampNeg ≤ z2.toNatClampNeg) (hl : dp.toNatClampNeg + nn.toNatClampNeg ≤ vd.length)
    (hus : us = (List.range nn.toNatClampNeg).map fun i => vs.getD (sp.toNatClampNeg + i) d1) (hr : vd.take dp.toNatClampNeg ++ us ++ vd.drop (dp.toNatClampNeg + nn.toNatClampNeg) = vr) (ge : Z.heap.size ≤ b) (hsz : Ls.size = ml) (hd : decode bs pc = .ok (.invokestatic ix, 3)) (hp : pc + 3 = pc')
    (hf : 1 ≤ R.frames) (hW : (rest.map fun v => v.category).sum ≤ W) (hlo : W + (nativeFrameWords "java/lang/System" "arraycopy" 5 + 11) ≤ R.locals)
    (K : ∀ T' h', Core p l e R s m args below meth c bs ml ret nm own Z a0 EL nw vm T' h' k n → Keep h h' [b] → CHr Z EL vm h vm h' → Arv Z h' b k2 (.object K2) z2 vr d2 → Endw p e below T' (mkF m pc' Ls rest) F) : Endw p e below T (mkF m pc Ls (.int nn :: .int dp :: .ref b :: .int sp :: .ref a :: rest)) F := by
  subst hp hr
  obtain ⟨-, ⟨L, X, N⟩, -⟩ := id C
  have sf : Safe Z EL vm h b := Safe.arv C.warm.alike B (by simp)
  obtain ⟨T', h', L', X', e', N', Kp, V, st⟩ := RoadKit.cpA X C.hx C.warm C.hown w1 w2 w3 w4 C.heq A B (Or.inr ⟨rfl, rfl, St⟩) h1 h2 h3 h4 h5 hus hl N ge (g := mkF m pc Ls (.int nn :: .int dp :: .ref b :: .int sp :: .ref a :: rest)) rfl (hsz.trans C.mlq.symm) rfl (C.dec hd) hf (W := W) (by show 2 * 0 + _ ≤ _; omega) hlo
  exact Endw.st st (K T' h' (C.on (ws := [b]) X' N' e' Kp (allS ge all0) (sfS sf sf0)) Kp (CHr.keep Kp (sfS sf sf0) C.chv) V)
theorem Core.virtualUp (C : Core p l e R s m args below meth c bs ml ret nm own Z a0 EL nw vm T h k n) {nw' : Bool} {y z : MethodName} {Cl ow : String} {ix : Nat} {bytes : ByteArray} {mx : Nat} {rt : Option FieldType} {rm : Room} {xs : List Addr} {W : Nat} {a : Addr} {argsL st : List Value} {as' : Array Value}
    (w1 : (Jvm.Cond.methodLink own ix y).before a0 Z = true) (ws : (Jvm.Cond.sameMethod y.cls ow y.name y.desc).before a0 Z = true) (w2 : (Jvm.Cond.declares ⟨ow, y.name, y.desc⟩).before a0 Z = true) (ho : ow ≠ "java/lang/invoke/MethodHandle" ∧ ow ≠ "java/lang/invoke/VarHandle") (w5 : (Jvm.Cond.selects Cl y z).before a0 Z = true) (w6 : (Jvm.Cond.instanceMethod z).before a0 Z = true) (w3 : (Jvm.Cond.code z bytes mx rt).before a0 Z = true) (w4 : (Jvm.Cond.initialized z.cls).before a0 Z = true)
    (hM : Met l Z EL nw' z bytes mx rt [] rm as' h xs Q) (hnn : nw = true → nw' = true) (has : as' = (.ref a :: argsL).toArray) (E : Exa Z h a Cl) (hs : ∀ x ∈ xs, x < h.size ∧ Safe Z EL vm h x) (hf : rm.frames + 1 ≤ R.frames) (hl : W + (mx + 11) + rm.locals ≤ R.locals) (hk : k + rm.cells ≤ R.cells) (hn : n + rm.slots ≤ R.slots)
    (hlen : ∀ sig, parseMethodDescriptor y.desc = some sig → argsL.length = sig.parameters.length) (hst : st = argsL.reverse ++ .ref a :: rest) (hW : (rest.map fun v => v.category).sum ≤ W) (hsz : Ls.size = ml) (hd : decode bs pc = .ok (.invokevirtual ix, 3)) (hp : pc + 3 = pc')
    (K : ∀ vm' T' h' v, Core p l e R s m args below meth c bs ml ret nm own Z a0 EL nw vm' T' h' (k + rm.cells) (n + rm.slots) → CHr Z EL vm h vm' h' → (nw' = true → ∀ y, Bk Z EL vm' h' y → Bk Z EL vm h y) → Q v h' → Endw p e below T' (mkF m pc' Ls (v.toList ++ rest)) F) : Endw p e below T (mkF m pc Ls st) F := by
  subst hp has
  obtain ⟨-, ⟨L, X, N⟩, -⟩ := id C
  obtain ⟨cq, kq, qa, qb, qc⟩ := isOf (s := s.setVm vm) C.warm C.heq E
  obtain ⟨v, vm₁, B, -, X', h2, -, ⟨L', ⟨q1, q2, q3⟩, e1, e2, e3, A, M⟩, st'⟩ := X.virtualBackUpS C.hx (x := y) (y := z) (owner := ow) C.hown (mvT C.warm w1) (mvT C.warm ws) (mvT C.warm w2) ho (mvT C.warm w5) (mvT C.warm w6) (backOwn (W := W) hM C.warm w3 w4 hf hl C.ew C.chv hs) qa qc (g := mkF m pc Ls st) rfl (hsz.trans C.mlq.symm) (Steps.refl _) (argsL := argsL) (rest := rest) hlen hst (by show 2 * 0 + _ ≤ _; omega) (C.dec hd) (fun _ _ => ⟨rfl, C.heq, hk, hn⟩)
  exact Endw.ste st' (K _ _ _ v (C.behind X' h2 N q2 q3 e1 e2 e3 A (fun z => M (hnn z))) A (fun z => (M z).2) q1)
theorem Core.lswHit (C : Core p l e R s m args below meth c bs ml ret nm own Z a0 EL nw vm T h k n) {kk : Int32} {df : Int} {ps : Array (Int × Int)} {len : Nat} {b off : Int} (hd : decode bs pc = .ok (.lookupswitch df ps, len)) (hso : (ps.toList.zip (ps.toList.drop 1)).all (fun (a, next) => a.1 < next.1) = true) (hfi : ps.find? (·.1 == kk.toInt) = some (b, off)) (ho : 0 ≤ (pc : Int) + off) (hp : ((pc : Int) + off).toNat = pc')
    (K : Endw p e below T (mkF m pc' Ls rest) F) : Endw p e below T (mkF m pc Ls (.int kk :: rest)) F := by
  subst hp
  obtain ⟨-, ⟨L, X, N⟩, -⟩ := id C
  exact Endw.st (fun t r => X.lookupswitchHit C.hx (g := mkF m pc Ls (.int kk :: rest)) rfl rfl (C.dec hd) hso hfi ho t r) K
theorem Core.tswIn (C : Core p l e R s m args below meth c bs ml ret nm own Z a0 EL nw vm T h k n) {kk : Int32} {df lo hi : Int} {ps : Array Int} {len : Nat} {off : Int} (hd : decode bs pc = .ok (.tableswitch df lo hi ps, len)) (hin : ¬ (kk.toInt < lo ∨ kk.toInt > hi)) (hfi : ps[(kk.toInt - lo).toNat]? = some off) (ho : 0 ≤ (pc : Int) + off) (hp : ((pc : Int) + off).toNat = pc')
    (K : Endw p e below T (mkF m pc' Ls rest) F) : Endw p e below T (mkF m pc Ls (.int kk :: rest)) F := by
  subst hp
  obtain ⟨-, ⟨L, X, N⟩, -⟩ := id C
  exact Endw.st (fun t r => X.tableswitchIn C.hx (g := mkF m pc Ls (.int kk :: rest)) rfl rfl (C.dec hd) hin hfi ho t r) K
theorem Core.getSN (C : Core p l e R s m args below meth c bs ml ret nm own Z a0 EL nw vm T h k n) {O nm' d host : String} {ix : Nat} {v : Value} (w : (Jvm.Cond.fieldLinkNest own ix O nm' d host).before a0 Z = true) (f : Sta Z Z.heap O nm' d v) (hd : decode bs pc = .ok (.getstatic ix, 3)) (hp : pc + 3 = pc')
    (K : ∀ T', Core p l e R s m args below meth c bs ml ret nm own Z a0 EL nw vm T' h k n → Endw p e below T' (mkF m pc' Ls (v :: rest)) F) : Endw p e below T (mkF m pc Ls rest) F := by
  subst hp
  obtain ⟨-, ⟨L, X, N⟩, -⟩ := id C
  obtain ⟨T', X', e', st⟩ := RoadKit.getS2 X C.hx C.warm C.hown (Or.inr w) Via.refl C.heq (f.ext C.old) (g := mkF m pc Ls rest) rfl (C.dec hd)
  exact Endw.st st (K T' (C.same X' N e'))
def MetH (l : Launch) (Z : State) (EL : List (String × Nat)) (y : MethodName) (bs : ByteArray) (ml : Nat) (ret : Option FieldType) (hs : List (Nat × Nat × Nat × Nat)) (rm : Room) (as' : Array Value) (h : Heap) (xs : List Addr) (Q : Option Value → Heap → Prop) : Prop :=
  MetFree l y (head1 [Jvm.Cond.codeWith y bs ml ret hs] rm) (fun a U => a = as' ∧ Z.Warmed39 U.vm ∧ U.heap = h ∧ CHv Z EL U.vm h ∧ ∀ x ∈ xs, Safe Z EL U.vm h x) (fun _ _ _ _ _ => True)
    (fun _ U o U' => Fin U Z EL true Q rm.cells rm.slots o U')
theorem MetH.of {y : MethodName} {bytes : ByteArray} {mx : Nat} {rt : Option FieldType} {hs : List (Nat × Nat × Nat × Nat)} {rm : Room} {as' : Array Value} {xs : List Addr} (hy : plainFor y = true) (hEL : EW Z a0 EL) (O : Ext Z.heap h)
    (body : ∀ p e s m below meth c T, Core p l e rm s m as' below meth c bytes mx rt y.name y.cls Z a0 EL true s.vm T h 0 0 → (∀ x ∈ xs, Safe Z EL s.vm h x) → Endw p e below T (entryFrame m as' mx) (Fin s Z EL true Q rm.cells rm.slots)) :
    MetH l Z EL y bytes mx rt hs rm as' h xs Q := by
  refine MetFree.of_bodySF hy hisWith ?_
  intro p e s m args below meth c s₁ Bd hml hP hK
  obtain ⟨rfl, hZ, hh, hC, hS⟩ := hP
  have X0 : Stand p l e rm s m args below meth c s₁ [] 0 0 := Stand.of_body Bd
  have e0 : s₁.heap = h := by rw [← hh, Bd.state]; rfl
  have hC' : CHv Z EL s.vm s.heap := by rw [hh]; exact hC
  refine body p e s m below meth c s₁ ⟨⟨Bd.exec, Bd.bytes, hml, Bd.returns, BodyLoose.notSynchronized Bd, (name_of_methodNamed Bd.named Bd.method).1, hEL⟩, ⟨[], X0, Fr.nil _⟩, e0, hZ, findClass_of_methodNamed Bd.named, ⟨s.heap.size, (State.WarmedH.refl s).since _, by rw [hh]; exact Nat.le_refl _⟩, ?_, O, fun _ => ⟨State.WarmedH.refl s, fun y b => by rw [hh]; exact b⟩⟩ hS
  rw [← hh]; exact CHr.refl hC'
theorem backOwnH {y : MethodName} {bytes : ByteArray} {mx : Nat} {rt : Option FieldType} {hs : List (Nat × Nat × Nat × Nat)} {rm : Room} {len W : Nat} {as' : Array Value} {xs : List Addr} (hM : MetH l Z EL y bytes mx rt hs rm as' h xs Q) (hZ : Z.Warmed39 vm) (wc : (Jvm.Cond.codeWith y bytes mx rt hs).before a0 Z = true) (wz : (Jvm.Cond.initialized y.cls).before a0 Z = true) (hf : rm.frames + 1 ≤ R.frames) (hl : W + (mx + 11) + rm.locals ≤ R.locals) (hEL : EW Z a0 EL) (H : CHv Z EL vm h) (hx : ∀ x ∈ xs, x < h.size ∧ Safe Z EL vm h x) :
    Back l R p e below (s.setVm vm) args y len W (fun A a => a = as' ∧ A.U.heap = h ∧ A.cells + rm.cells ≤ R.cells ∧ A.slots + rm.slots ≤ R.slots)
      (fun A _ v B => ∃ L, (Q v B.U.heap ∧ Fr Z.heap.size L) ∧ B.locs = A.locs ++ L ∧ B.cells = A.cells + rm.cells ∧ B.slots = A.slots + rm.slots) := by
  refine Back.of_freeWith (bytes := bytes) (maxL := mx) (ret := rt) (handlers := hs) (E := fun _ _ o t L i j => i = rm.cells ∧ j = rm.slots ∧ ∃ v, o = .returned v ∧ Q v t.heap ∧ Fr Z.heap.size L) hM hf hl ?_ ?_ (fun _ _ _ _ _ _ _ _ _ => trivial) ?_ ?_
  · intro m' meth' c' A a Y hp
    have hU : Z.Warmed39 A.U.vm := wtrans (s := s.setVm vm) hZ Y.warmed
    refine ⟨?_, mv hU wc, mv hU wz, hp.2.2.1, hp.2.2.2⟩
    show (Jvm.Cond.and _ .tt).before a A.U = true
    rw [Cond.before_and, mv hU wc]; rfl
  · intro m' meth' c' A a g' mk Y hp
    have q := CHv.at Y hZ hEL H
    exact ⟨hp.1, wtrans (s := s.setVm vm) hZ Y.warmed, hp.2.1, q.1, fun x hx' => q.safe (hx x hx').1 (hx x hx').2⟩
  · intro a f o t ⟨v, L, h1, h2, h3, h4⟩
    exact ⟨L, _, _, ⟨h4.1, (h3.2 rfl).1, h4.2.2.2⟩, rfl, rfl, v, h1, h2.1, h2.2.1⟩
  · intro m' meth' c' A a g' mk v t L i j Y hp _ _ q
    obtain ⟨rfl, rfl, v', e1, e2, e3⟩ := q
    cases e1
    exact ⟨L, ⟨e2, e3⟩, rfl, rfl, rfl⟩
theorem Core.ifaceH (C : Core p l e R s m args below meth c bs ml ret nm own Z a0 EL nw vm T h k n) {y z : MethodName} {Cl : String} {ix cnt : Nat} {bytes : ByteArray} {mx : Nat} {rt : Option FieldType} {hh : List (Nat × Nat × Nat × Nat)} {rm : Room} {xs ws : List Addr} {W : Nat} {a : Addr} {argsL st : List Value} {as' : Array Value}
    (w1 : (Jvm.Cond.methodLink own ix y).before a0 Z = true) (w2 : (Jvm.Cond.declares y).before a0 Z = true) (wf : (Jvm.Cond.interfaceMethod y.cls y.cls y.name y.desc).before a0 Z = true) (w5 : (Jvm.Cond.selects Cl y z).before a0 Z = true) (w6 : (Jvm.Cond.instanceMethod z).before a0 Z = true) (wp : (Jvm.Cond.publicMethod z).before a0 Z = true) (wu : (Jvm.Cond.unhidden Cl y.name y.desc).before a0 Z = true) (wc : (Jvm.Cond.castable Cl y.cls).before a0 Z = true) (w3 : (Jvm.Cond.codeWith z bytes mx rt hh).before a0 Z = true) (w4 : (Jvm.Cond.initialized z.cls).before a0 Z = true) (hy : y.cls ≠ "java/lang/invoke/MethodHandle" ∧ y.cls ≠ "java/lang/invoke/VarHandle")
    (hM : MetH l Z EL z bytes mx rt hh rm as' h xs Q) (hQ : ∀ v h', Q v h' → Keep h h' ws) (ge : ∀ x ∈ ws, Z.heap.size ≤ x) (S : ∀ x ∈ ws, Safe Z EL vm h x) (has : as' = (.ref a :: argsL).toArray) (E : Exa Z h a Cl) (hs : ∀ x ∈ xs, x < h.size ∧ Safe Z EL vm h x) (hf : rm.frames + 1 ≤ R.frames) (hl : W + (mx + 11) + rm.locals ≤ R.locals) (hk : k + rm.cells ≤ R.cells) (hn : n + rm.slots ≤ R.slots)
    (hlen : ∀ sig, parseMethodDescriptor y.desc = some sig → argsL.length = sig.parameters.length) (hst : st = argsL.reverse ++ .ref a :: rest) (hW : (rest.map fun v => v.category).sum ≤ W) (hsz : Ls.size = ml) (hd : decode bs pc = .ok (.invokeinterface ix cnt, 5)) (hp : pc + 5 = pc')
    (K : ∀ T' h' v, Core p l e R s m args below meth c bs ml ret nm own Z a0 EL nw vm T' h' (k + rm.cells) (n + rm.slots) → CHr Z EL vm h vm h' → Q v h' → Endw p e below T' (mkF m pc' Ls (v.toList ++ rest)) F) : Endw p e below T (mkF m pc Ls st) F := by
  subst hp has
  obtain ⟨-, ⟨L, X, N⟩, -⟩ := id C
  obtain ⟨cq, kq, qa, qb, qc⟩ := isOf (s := s.setVm vm) C.warm C.heq E
  obtain ⟨v, vm₁, B, -, X', ⟨L', ⟨q1, q2⟩, e1, e2, e3⟩, st'⟩ := X.interfaceBack C.hx (xi := y) (y := z) C.hown (mvT C.warm w1) (mvT C.warm w2) (own_mvFace (s' := s.setVm vm) hy C.warm wf) (mvT C.warm w5) (mvT C.warm w6) (own_mvPub (s' := s.setVm vm) C.warm wp) (own_mvUnh (s' := s.setVm vm) C.warm wu) (mvT C.warm wc) hy (backOwnH (W := W) hM C.warm w3 w4 hf hl C.ew C.chv hs) qa qb qc (g := mkF m pc Ls st) rfl (hsz.trans C.mlq.symm) (Steps.refl _) (argsL := argsL) (rest := rest) hlen hst (by show 2 * 0 + _ ≤ _; omega) (C.dec hd) (fun _ _ => ⟨rfl, C.heq, hk, hn⟩)
  exact Endw.ste st' (K _ _ v (C.behindF X' N q2 (hQ _ _ q1) ge S e1 e2 e3) (CHr.keep (hQ _ _ q1) S C.chv) q1)
def own_sa (Z : State) (C n d : String) : Addr := match (Term.static C n d).eval #[] Z none [] Z with | some (.ref a) => a | _ => 0
def own_ka (Z : State) (a : Addr) : ClassId := match Z.heap[a]? with | some c => c.cls | none => 0
def own_fa (Z : State) (C n d C' n' d' : String) : Addr := match (Term.field (Term.static C n d) C' n' d').eval #[] Z none [] Z with | some (.ref a) => a | _ => 0
def own_ma (Z : State) (K : String) : Addr := match (Term.mirror K).eval #[] Z none [] Z with | some (.ref a) => a | _ => 0
theorem own_saE {C n d : String} {a : Addr} (e : (Term.static C n d).eval a0 Z none [] Z = some (.ref a)) : own_sa Z C n d = a := by
  have q : (Term.static C n d).eval #[] Z none [] Z = some (.ref a) := e
  simp only [own_sa, q]
theorem own_sR {C n d K : String} (hx : (Jvm.Cond.exactly (Term.static C n d) K).value a0 Z none Z [] = some true) : (Term.static C n d).eval a0 Z none [] Z = some (.ref (own_sa Z C n d)) := by
  obtain ⟨x, e⟩ := exa_v hx
  rw [own_saE e]; exact e
theorem own_fR {C n d C' n' d' K : String} (hx : (Jvm.Cond.exactly (Term.field (Term.static C n d) C' n' d') K).value a0 Z none Z [] = some true) : (Term.field (Term.static C n d) C' n' d').eval a0 Z none [] Z = some (.ref (own_fa Z C n d C' n' d')) := by
  obtain ⟨x, e⟩ := exa_v hx
  have q : (Term.field (Term.static C n d) C' n' d').eval #[] Z none [] Z = some (.ref x) := e
  have r : own_fa Z C n d C' n' d' = x := by simp only [own_fa, q]
  rw [r]; exact e
theorem own_fF {t : Term} {C' n' d' : String} {a : Addr} {v : Value} (e : t.eval a0 Z none [] Z = some (.ref a)) (f : (Term.field t C' n' d').eval a0 Z none [] Z = some v) : Fld Z Z.heap a C' n' d' v := by
  refine Fld.start ?_
  simpa [Term.eval, e] using f
theorem own_mi {K : String} (h : ∃ (c : ClassId) (k : Class) (m : Addr), Z.vm.findClass K = some c ∧ Z.vm.classes[c]? = some k ∧ k.mirror = some m) : Mi Z K (own_ma Z K) := by
  obtain ⟨c, k, m, h1, h2, h3⟩ := h
  have r : own_ma Z K = m := by simp [own_ma, Term.eval, h1, h2, h3]
  rw [r]; exact ⟨c, k, h1, h2, h3⟩
theorem own_hasL {c : Cell} {vs : List Value} {i : Nat} (h : ∀ j, j < vs.length → c.slots[i + j]? = vs[j]?) : HasL c i vs := by
  induction vs generalizing i with
  | nil => trivial
  | cons v r ih =>
    refine ⟨?_, ih fun j hj => ?_⟩
    · have := h 0 (by simp); simpa using this
    · have := h (j + 1) (by simp; omega)
      rw [show i + 1 + j = i + (j + 1) from by omega, this]; rfl
theorem own_arv {t : Term} {a : Addr} {ty : FieldType} {z : Int32} {vs : List Value} {dv : Value} (hf : Fit Z) (ev : t.eval a0 Z none [] Z = some (.ref a)) (ha : (Jvm.Cond.arrayOf t ty).value a0 Z none Z [] = some true) (hl : (Term.length t).eval a0 Z none [] Z = some (.int z)) (hz : ¬ z < 0) (hn : z.toNatClampNeg = vs.length) (h9 : vs.length < 2147483648) (H : ∀ i, i < vs.length → (Term.elem t (.int (Int32.ofNat i))).eval a0 Z none [] Z = vs[i]?) : Arv Z Z.heap a (own_ka Z a) ty z vs dv := by
  obtain ⟨c, A⟩ := Arr.start ev ha
  have q : Z.arrayAt? a = some c := IntBox.arrayAt_of A.1 A.2.1 A.2.2
  have hs : c.slots.size < 2 ^ 31 ∧ c.slots.size.toInt32 = z := by
    simp only [Term.eval, ev, q, Option.bind_eq_bind, Option.bind_some] at hl
    split at hl
    · rename_i h; exact ⟨h, Value.int.inj (Option.some.inj hl)⟩
    · exact nomatch hl
  have hk : own_ka Z a = c.cls := by simp only [own_ka, A.1]
  rw [hk]
  refine Arv.start hf A hs.1 hs.2 hz hn (own_hasL fun j hj => ?_)
  have h := H j hj
  have e1 : ¬ Int32.ofNat j < 0 := own_nn (by omega)
  have e2 : (Int32.ofNat j).toNatClampNeg = j := own_nc (by omega)
  simp only [Term.eval, ev, q, Option.bind_eq_bind, Option.bind_some, e1, if_false, e2] at h
  rw [Nat.zero_add]; exact h
end Coll
end Jvm.Own
namespace Jvm.Own
open Jvm Jvm.ClassFile Sem Op Lib Jvm.Free Jvm.Stand Jvm.LawKit Jvm.RoadKit Bundle
section Short
variable {p : Program} {l : Launch} {e : Env} {R : Room} {s : State} {m : MethodId} {args : Array Value} {below : List Frame} {meth : Method} {c : Code}
variable {bs : ByteArray} {ml : Nat} {ret : Option FieldType} {nm own : String} {Z : State} {a0 : Array Value} {EL : List (String × Nat)} {nw : Bool} {vm : Vm} {T : State} {h : Heap} {k n : Nat} {F : Outcome → State → Prop} {pc pc' : Nat} {Ls l' : Array Slot} {rest : List Value} {v : Value} {x y z : Int32} {i : Int} {o : Int} {cd : ClassFile.Cond}
theorem Core.aL (C : Core p l e R s m args below meth c bs ml ret nm own Z a0 EL nw vm T h k n) {j} (hd : decode bs pc = .ok (.aload_n j, 1)) (hl : Ls[j.val]? = some (.val v)) (hv : v.isRef = true) (K : Endw p e below T (mkF m (pc + 1) Ls (v :: rest)) F) : Endw p e below T (mkF m pc Ls rest) F :=
  Endw.st (fun _ r => XS.aloadN (g := mkF m pc Ls rest) C.here C.hx rfl (C.dec hd) hl hv r) K
theorem Core.aLk (C : Core p l e R s m args below meth c bs ml ret nm own Z a0 EL nw vm T h k n) {j : Nat} (hd : decode bs pc = .ok (.aload j, 2)) (hl : Ls[j]? = some (.val v)) (hv : v.isRef = true) (K : Endw p e below T (mkF m (pc + 2) Ls (v :: rest)) F) : Endw p e below T (mkF m pc Ls rest) F :=
  Endw.st (fun _ r => XS.aload (g := mkF m pc Ls rest) C.here C.hx rfl (C.dec hd) hl hv r) K
theorem Core.iL (C : Core p l e R s m args below meth c bs ml ret nm own Z a0 EL nw vm T h k n) {j} (hd : decode bs pc = .ok (.iload_n j, 1)) (hl : Ls[j.val]? = some (.val (.int x))) (K : Endw p e below T (mkF m (pc + 1) Ls (.int x :: rest)) F) : Endw p e below T (mkF m pc Ls rest) F :=
  Endw.st (fun _ r => XS.iloadN (g := mkF m pc Ls rest) C.here C.hx rfl (C.dec hd) hl r) K
theorem Core.iLk (C : Core p l e R s m args below meth c bs ml ret nm own Z a0 EL nw vm T h k n) {j : Nat} (hd : decode bs pc = .ok (.iload j, 2)) (hl : Ls[j]? = some (.val (.int x))) (K : Endw p e below T (mkF m (pc + 2) Ls (.int x :: rest)) F) : Endw p e below T (mkF m pc Ls rest) F :=
  Endw.st (fun _ r => XS.iload (g := mkF m pc Ls rest) C.here C.hx rfl (C.dec hd) hl r) K
theorem Core.ic (C : Core p l e R s m args below meth c bs ml ret nm own Z a0 EL nw vm T h k n) (hd : decode bs pc = .ok (.iconst i, 1)) (hz : Int32.ofInt i = z) (K : Endw p e below T (mkF m (pc + 1) Ls (.int z :: rest)) F) : Endw p e below T (mkF m pc Ls rest) F :=
  Endw.st (fun _ r => XS.iconst (g := mkF m pc Ls rest) C.here C.hx rfl (C.dec hd) (hz ▸ r)) K
theorem Core.bi (C : Core p l e R s m args below meth c bs ml ret nm own Z a0 EL nw vm T h k n) (hd : decode bs pc = .ok (.bipush i, 2)) (hz : (Int8.ofInt i).toInt32 = z) (K : Endw p e below T (mkF m (pc + 2) Ls (.int z :: rest)) F) : Endw p e below T (mkF m pc Ls rest) F :=
  Endw.st (fun _ r => XS.bipush (g := mkF m pc Ls rest) C.here C.hx rfl (C.dec hd) (hz ▸ r)) K
theorem Core.si (C : Core p l e R s m args below meth c bs ml ret nm own Z a0 EL nw vm T h k n) (hd : decode bs pc = .ok (.sipush i, 3)) (hz : (Int16.ofInt i).toInt32 = z) (K : Endw p e below T (mkF m (pc + 3) Ls (.int z :: rest)) F) : Endw p e below T (mkF m pc Ls rest) F :=
  Endw.st (fun _ r => XS.sipush (g := mkF m pc Ls rest) C.here C.hx rfl (C.dec hd) (hz ▸ r)) K
theorem Core.nu (C : Core p l e R s m args below meth c bs ml ret nm own Z a0 EL nw vm T h k n) (hd : decode bs pc = .ok (.aconst_null, 1)) (K : Endw p e below T (mkF m (pc + 1) Ls (.null :: rest)) F) : Endw p e below T (mkF m pc Ls rest) F :=
  Endw.st (fun _ r => XS.aconstNull (g := mkF m pc Ls rest) C.here C.hx rfl (C.dec hd) r) K
theorem Core.du (C : Core p l e R s m args below meth c bs ml ret nm own Z a0 EL nw vm T h k n) (hd : decode bs pc = .ok (.dup, 1)) (hc : v.category = 1) (K : Endw p e below T (mkF m (pc + 1) Ls (v :: v :: rest)) F) : Endw p e below T (mkF m pc Ls (v :: rest)) F :=
  Endw.st (fun _ r => XS.dup (g := mkF m pc Ls (v :: rest)) C.here C.hx rfl (C.dec hd) rfl hc r) K
theorem Core.fN (C : Core p l e R s m args below meth c bs ml ret nm own Z a0 EL nw vm T h k n) (hd : decode bs pc = .ok (.ifCond cd o, 3)) (hc : ifCond.holds cd x = false) (K : Endw p e below T (mkF m (pc + 3) Ls rest) F) : Endw p e below T (mkF m pc Ls (.int x :: rest)) F :=
  Endw.st (fun _ r => XS.ifNo (g := mkF m pc Ls (.int x :: rest)) C.here C.hx rfl (C.dec hd) rfl hc r) K
theorem Core.fY (C : Core p l e R s m args below meth c bs ml ret nm own Z a0 EL nw vm T h k n) (hd : decode bs pc = .ok (.ifCond cd o, 3)) (hc : ifCond.holds cd x = true) (ho : 0 ≤ (pc : Int) + o) (hp : ((pc : Int) + o).toNat = pc') (K : Endw p e below T (mkF m pc' Ls rest) F) : Endw p e below T (mkF m pc Ls (.int x :: rest)) F :=
  Endw.st (fun _ r => XS.ifYes (g := mkF m pc Ls (.int x :: rest)) C.here C.hx rfl rfl (C.dec hd) rfl hc ho hp r) K
theorem Core.cN (C : Core p l e R s m args below meth c bs ml ret nm own Z a0 EL nw vm T h k n) (hd : decode bs pc = .ok (.if_icmp cd o, 3)) (hc : if_icmp.holds cd x y = false) (K : Endw p e below T (mkF m (pc + 3) Ls rest) F) : Endw p e below T (mkF m pc Ls (.int y :: .int x :: rest)) F :=
  Endw.st (fun _ r => XS.icmpNo (g := mkF m pc Ls (.int y :: .int x :: rest)) C.here C.hx rfl (C.dec hd) rfl hc r) K
theorem Core.cY (C : Core p l e R s m args below meth c bs ml ret nm own Z a0 EL nw vm T h k n) (hd : decode bs pc = .ok (.if_icmp cd o, 3)) (hc : if_icmp.holds cd x y = true) (ho : 0 ≤ (pc : Int) + o) (hp : ((pc : Int) + o).toNat = pc') (K : Endw p e below T (mkF m pc' Ls rest) F) : Endw p e below T (mkF m pc Ls (.int y :: .int x :: rest)) F :=
  Endw.st (fun _ r => XS.icmpYes (g := mkF m pc Ls (.int y :: .int x :: rest)) C.here C.hx rfl rfl (C.dec hd) rfl hc ho hp r) K
theorem Core.go (C : Core p l e R s m args below meth c bs ml ret nm own Z a0 EL nw vm T h k n) (hd : decode bs pc = .ok (.goto o, 3)) (ho : 0 ≤ (pc : Int) + o) (hp : ((pc : Int) + o).toNat = pc') (K : Endw p e below T (mkF m pc' Ls rest) F) : Endw p e below T (mkF m pc Ls rest) F :=
  Endw.st (fun _ r => XS.goto (g := mkF m pc Ls rest) C.here C.hx rfl rfl (C.dec hd) ho hp r) K
theorem Core.iS (C : Core p l e R s m args below meth c bs ml ret nm own Z a0 EL nw vm T h k n) {j} (hd : decode bs pc = .ok (.istore_n j, 1)) (hl : storeLocals Ls j.val (.int x) = some l') (K : Endw p e below T (mkF m (pc + 1) l' rest) F) : Endw p e below T (mkF m pc Ls (.int x :: rest)) F :=
  Endw.st (fun _ r => XS.istoreN (g := mkF m pc Ls (.int x :: rest)) C.here C.hx rfl (C.dec hd) rfl hl r) K
theorem Core.iSk (C : Core p l e R s m args below meth c bs ml ret nm own Z a0 EL nw vm T h k n) {j : Nat} (hd : decode bs pc = .ok (.istore j, 2)) (hl : storeLocals Ls j (.int x) = some l') (K : Endw p e below T (mkF m (pc + 2) l' rest) F) : Endw p e below T (mkF m pc Ls (.int x :: rest)) F :=
  Endw.st (fun _ r => XS.istore (g := mkF m pc Ls (.int x :: rest)) C.here C.hx rfl (C.dec hd) rfl hl r) K
theorem Core.aS (C : Core p l e R s m args below meth c bs ml ret nm own Z a0 EL nw vm T h k n) {j} (hd : decode bs pc = .ok (.astore_n j, 1)) (hv : v.isRef = true) (hl : storeLocals Ls j.val v = some l') (K : Endw p e below T (mkF m (pc + 1) l' rest) F) : Endw p e below T (mkF m pc Ls (v :: rest)) F :=
  Endw.st (fun _ r => XS.astoreN (g := mkF m pc Ls (v :: rest)) C.here C.hx rfl (C.dec hd) rfl hv hl r) K
theorem Core.aSk (C : Core p l e R s m args below meth c bs ml ret nm own Z a0 EL nw vm T h k n) {j : Nat} (hd : decode bs pc = .ok (.astore j, 2)) (hv : v.isRef = true) (hl : storeLocals Ls j v = some l') (K : Endw p e below T (mkF m (pc + 2) l' rest) F) : Endw p e below T (mkF m pc Ls (v :: rest)) F :=
  Endw.st (fun _ r => XS.astore (g := mkF m pc Ls (v :: rest)) C.here C.hx rfl (C.dec hd) rfl hv hl r) K
theorem Core.ad (C : Core p l e R s m args below meth c bs ml ret nm own Z a0 EL nw vm T h k n) (hd : decode bs pc = .ok (.iadd, 1)) (hz : x + y = z) (K : Endw p e below T (mkF m (pc + 1) Ls (.int z :: rest)) F) : Endw p e below T (mkF m pc Ls (.int y :: .int x :: rest)) F :=
  Endw.st (fun _ r => XS.iadd (g := mkF m pc Ls (.int y :: .int x :: rest)) C.here C.hx rfl (C.dec hd) rfl (hz ▸ r)) K
theorem Core.sb (C : Core p l e R s m args below meth c bs ml ret nm own Z a0 EL nw vm T h k n) (hd : decode bs pc = .ok (.isub, 1)) (hz : x - y = z) (K : Endw p e below T (mkF m (pc + 1) Ls (.int z :: rest)) F) : Endw p e below T (mkF m pc Ls (.int y :: .int x :: rest)) F :=
  Endw.st (fun _ r => XS.isub (g := mkF m pc Ls (.int y :: .int x :: rest)) C.here C.hx rfl (C.dec hd) rfl (hz ▸ r)) K
theorem Core.an (C : Core p l e R s m args below meth c bs ml ret nm own Z a0 EL nw vm T h k n) (hd : decode bs pc = .ok (.iand, 1)) (hz : x &&& y = z) (K : Endw p e below T (mkF m (pc + 1) Ls (.int z :: rest)) F) : Endw p e below T (mkF m pc Ls (.int y :: .int x :: rest)) F :=
  Endw.st (fun _ r => XS.iand (g := mkF m pc Ls (.int y :: .int x :: rest)) C.here C.hx rfl (C.dec hd) rfl (hz ▸ r)) K
end Short
end Jvm.Own
/- laws to paste: Road.backV (cut by pick.py; bodies as the Statement names them) -/
namespace Jvm.Pilot.@@N@@
namespace StrChars
open Jvm Sem ClassFile Op Lib Jvm.Stand Jvm.Free.XT Jvm.Free.ALB Jvm.Free.JM Jvm.Free
open Jvm.Lib.Cold (StaticIs)
def Ch (a : Addr) (A : Cell) (U : State) : Prop := Arr .char a A U ∧ Typed .char A
theorem Ch.mv {a : Addr} {A : Cell} {U U' : State} (h : Ch a A U) (hal : U.vm.Alike U'.vm) (hh : U'.heap = U.heap) : Ch a A U' := ⟨h.1.mv hal hh, h.2⟩
theorem Ch.keep {a : Addr} {A : Cell} {U U' : State} (h : Ch a A U) (hal : U.vm.Alike U'.vm) (hk : U'.heap[a]? = some A) : Ch a A U' := ⟨h.1.keep hal hk, h.2⟩
def cv (A : Cell) (i : Nat) : Int32 := match A.slots[i]? with | some (.int x) => x | _ => 0
theorem Ch.get {a : Addr} {A : Cell} {U : State} (h : Ch a A U) {i : Nat} (hi : i < A.slots.size) : A.slots[i]? = some (.int (cv A i)) := by
  have e := Array.getElem?_eq_getElem hi
  have f := h.2 i _ e
  unfold cv; rw [e]
  generalize A.slots[i] = v at f
  cases v <;> simp [fits] at f ⊢
def lo8 (x : Int32) : Int32 := x.toInt8.toInt32
theorem fits_lo8 (y : Int32) : fits .byte (.int (lo8 y)) = true := by
  have h1 := y.toInt8.le_toInt
  have h2 := y.toInt8.toInt_lt
  simp only [lo8, fits, Bool.and_eq_true, decide_eq_true_eq, Int32.le_iff_toInt_le, Int8.toInt_toInt32, show (-128 : Int32).toInt = -128 from by decide, show (127 : Int32).toInt = 127 from by decide]
  omega
def Laid (A A' : Cell) (lo hi : Nat) (f : Nat → Value) : Prop := A'.cls = A.cls ∧ A'.vm = A.vm ∧ A'.slots.size = A.slots.size ∧ ∀ i, A'.slots[i]? = if lo ≤ i ∧ i < hi then some (f i) else A.slots[i]?
theorem Laid.zero (A : Cell) (lo : Nat) (f : Nat → Value) : Laid A A lo (lo + 0) f := ⟨rfl, rfl, rfl, fun i => by rw [if_neg (by omega)]⟩
theorem Laid.step {A Ak : Cell} {lo k : Nat} {f : Nat → Value} {v : Value} (h : Laid A Ak lo k f) (hlo : lo ≤ k) (hk : k < Ak.slots.size) (hv : v = f k) : Laid A (Ak.setSlot k v) lo (k + 1) f := by
  refine ⟨h.1, h.2.1, by simpa [Cell.setSlot] using h.2.2.1, fun i => ?_⟩
  by_cases e : k = i
  · subst e; rw [Cell.slots_setSlot_self v hk, if_pos (by omega), hv]
  · rw [Cell.slots_setSlot_ne v e, h.2.2.2 i]
    by_cases q : lo ≤ i ∧ i < k
    · rw [if_pos q, if_pos (by omega)]
    · rw [if_neg q, if_neg (by omega)]
def U16 : String := "java/lang/StringUTF16"
namespace Cmp5
def yN : MethodName := ⟨"java/lang/StringUTF16", "compress", "([CI[BII)I"⟩
abbrev yB : ByteArray := jdk_52_method_21_code
theorem d0 : decode yB 0 = .ok (.iconst 0, 1) := by decide +kernel
theorem d1 : decode yB 1 = .ok (.istore 5, 2) := by decide +kernel
theorem d3 : decode yB 3 = .ok (.iload 5, 2) := by decide +kernel
theorem d5 : decode yB 5 = .ok (.iload 4, 2) := by decide +kernel
theorem d7 : decode yB 7 = .ok (.if_icmp (.ge) 37, 3) := by decide +kernel
theorem d10 : decode yB 10 = .ok (.aload_n 0, 1) := by decide +kernel
theorem d11 : decode yB 11 = .ok (.iload_n 1, 1) := by decide +kernel
theorem d12 : decode yB 12 = .ok (.caload, 1) := by decide +kernel
theorem d13 : decode yB 13 = .ok (.istore 6, 2) := by decide +kernel
theorem d15 : decode yB 15 = .ok (.iload 6, 2) := by decide +kernel
theorem d17 : decode yB 17 = .ok (.sipush 255, 3) := by decide +kernel
theorem d20 : decode yB 20 = .ok (.if_icmp (.le) 6, 3) := by decide +kernel
theorem d26 : decode yB 26 = .ok (.aload_n 2, 1) := by decide +kernel
theorem d27 : decode yB 27 = .ok (.iload_n 3, 1) := by decide +kernel
theorem d28 : decode yB 28 = .ok (.iload 6, 2) := by decide +kernel
theorem d30 : decode yB 30 = .ok (.i2b, 1) := by decide +kernel
theorem d31 : decode yB 31 = .ok (.bastore, 1) := by decide +kernel
theorem d32 : decode yB 32 = .ok (.iinc 1 1, 3) := by decide +kernel
theorem d35 : decode yB 35 = .ok (.iinc 3 1, 3) := by decide +kernel
theorem d38 : decode yB 38 = .ok (.iinc 5 1, 3) := by decide +kernel
theorem d41 : decode yB 41 = .ok (.goto (-38), 3) := by decide +kernel
theorem d44 : decode yB 44 = .ok (.iload 4, 2) := by decide +kernel
theorem d46 : decode yB 46 = .ok (.ireturn, 1) := by decide +kernel
def site : List Cond := []
def tab : Cond := tabOf yN yB 7 (some .int) site
def P (b : Addr) (A : Cell) (d : Addr) (B : Cell) (o q len : Nat) (args : Array Value) (s : State) : Prop := args = #[.ref b, .int (Int32.ofNat o), .ref d, .int (Int32.ofNat q), .int (Int32.ofNat len)] ∧ Ch b A s ∧ Arr .byte d B s ∧ b ≠ d ∧ o + len ≤ A.slots.size ∧ q + len ≤ B.slots.size ∧ ∀ i, i < len → ¬ 255 < cv A (o + i)
def E (b : Addr) (A : Cell) (d : Addr) (B : Cell) (o q len : Nat) (r : Option Value) (s u : State) : Prop := r = some (.int (Int32.ofNat len)) ∧ ∃ B', Put d B' s u ∧ Laid B B' q (q + len) (fun j => Value.int (lo8 (cv A (o + (j - q)))))
theorem law (l : Launch) (b : Addr) (A : Cell) (d : Addr) (B : Cell) (o q len : Nat) : Law l yN 5 5 0 0 yB 7 (some .int) site (P b A d B o q len) (E b A d B o q len) (copyLocs d q len) 0 0 := by
  refine Law.of_walk (plainFor_of_name (by decide +kernel)) (by decide +kernel) (by decide +kernel) (by decide) (fun _ _ h => by rw [h.1]; rfl) (fun _ U U' hal hh h => ⟨h.1, h.2.1.mv hal hh, h.2.2.1.mv hal hh, h.2.2.2⟩) (fun r U U' V V' h1 hal h2 h => ⟨h.1, h.2.elim fun B' q => ⟨B', q.1.mv h1 h2, q.2⟩⟩) ?_
  intro p e s m args below meth c s₁ X0 hexec hbytes hml hret hlk hnm hown hh0 W hP
  obtain ⟨rfl, hA, hB, hne, l1, l2, hp⟩ := hP
  have c1 : Steps p.tables e below (s₁.setTop (entryFrame m #[.ref b, .int (Int32.ofNat o), .ref d, .int (Int32.ofNat q), .int (Int32.ofNat len)] 7)) (s₁.setTop (mkF m 0 #[.val (.ref b), .val (.int (Int32.ofNat o)), .val (.ref d), .val (.int (Int32.ofNat q)), .val (.int (Int32.ofNat len)), .unset, .unset] [])) := entry rfl
  have hA0 := hA.1.mv X0.warmed.alike hh0
  have hB0 := hB.mv X0.warmed.alike hh0
  have a31 := hA.1.2.2.2
  have c2 : Steps p.tables e below (s₁.setTop (entryFrame m #[.ref b, .int (Int32.ofNat o), .ref d, .int (Int32.ofNat q), .int (Int32.ofNat len)] 7)) (s₁.setTop (mkF m 3 #[.val (.ref b), .val (.int (Int32.ofNat o)), .val (.ref d), .val (.int (Int32.ofNat q)), .val (.int (Int32.ofNat len)), .val (.int 0), .unset] [])) := c1.trans (by
    refine iconstV X0.here hexec rfl 0 (hb hbytes d0) (by decide) ?_
    refine XS.istore X0.here hexec rfl (hb hbytes d1) rfl rfl ?_
    exact Steps.refl _)
  have loop : ∀ (r i : Nat), i + r = len → ∀ (z : Slot), (z = .unset ∨ ∃ w, z = .val w ∧ w.category = 1) → ∀ (Tl : State) (Bk : Cell), Stand p l e { frames := 0, locals := 0, cells := 0, slots := 0 } s m #[.ref b, .int (Int32.ofNat o), .ref d, .int (Int32.ofNat q), .int (Int32.ofNat len)] below meth c Tl ([] ++ copyLocs d q i) 0 0 → Put d Bk s₁ Tl → Laid B Bk q (q + i) (fun j => Value.int (lo8 (cv A (o + (j - q))))) →
      Steps p.tables e below (s₁.setTop (entryFrame m #[.ref b, .int (Int32.ofNat o), .ref d, .int (Int32.ofNat q), .int (Int32.ofNat len)] 7)) (Tl.setTop (mkF m 3 #[.val (.ref b), .val (.int (Int32.ofNat (o + i))), .val (.ref d), .val (.int (Int32.ofNat (q + i))), .val (.int (Int32.ofNat len)), .val (.int (Int32.ofNat i)), z] [])) → ∃ (T' : State) (B' : Cell) (z' : Slot), Stand p l e { frames := 0, locals := 0, cells := 0, slots := 0 } s m #[.ref b, .int (Int32.ofNat o), .ref d, .int (Int32.ofNat q), .int (Int32.ofNat len)] below meth c T' ([] ++ copyLocs d q len) 0 0 ∧ Put d B' s₁ T' ∧ Laid B B' q (q + len) (fun j => Value.int (lo8 (cv A (o + (j - q))))) ∧
      Steps p.tables e below (s₁.setTop (entryFrame m #[.ref b, .int (Int32.ofNat o), .ref d, .int (Int32.ofNat q), .int (Int32.ofNat len)] 7)) (T'.setTop (mkF m 3 #[.val (.ref b), .val (.int (Int32.ofNat (o + len))), .val (.ref d), .val (.int (Int32.ofNat (q + len))), .val (.int (Int32.ofNat len)), .val (.int (Int32.ofNat len)), z'] [])) := by
    intro r
    induction r with
    | zero =>
      intro i hi z hz Tl Bk Xl pl fl cl
      have hil : i = len := by omega
      rw [hil] at Xl fl cl
      exact ⟨Tl, Bk, z, Xl, pl, fl, cl⟩
    | succ r ih =>
      intro i hi z hz Tl Bk Xl pl fl cl
      have all := X0.warmed.alike.symm.trans Xl.warmed.alike
      have hAl := hA0.keep all (pl.other hne hA0.1)
      have hBk := hB0.like all pl.1 fl.1 fl.2.1 fl.2.2.1
      have hlt : q + i < Bk.slots.size := by rw [fl.2.2.1]; omega
      have c3 : Steps p.tables e below (s₁.setTop (entryFrame m #[.ref b, .int (Int32.ofNat o), .ref d, .int (Int32.ofNat q), .int (Int32.ofNat len)] 7)) (Tl.setTop (mkF m 12 #[.val (.ref b), .val (.int (Int32.ofNat (o + i))), .val (.ref d), .val (.int (Int32.ofNat (q + i))), .val (.int (Int32.ofNat len)), .val (.int (Int32.ofNat i)), z] [.int (Int32.ofNat (o + i)), .ref b])) := cl.trans (by
        refine XS.iload Xl.here hexec rfl (hb hbytes d3) rfl ?_
        refine XS.iload Xl.here hexec rfl (hb hbytes d5) rfl ?_
        refine XS.icmpNo Xl.here hexec rfl (hb hbytes d7) rfl (ii_ge_f (lt32 (by omega) (by omega))) ?_
        refine XS.aloadN Xl.here hexec rfl (hb hbytes d10) rfl rfl ?_
        refine XS.iloadN Xl.here hexec rfl (hb hbytes d11) rfl ?_
        exact Steps.refl _)
      have c4 : Steps p.tables e below (s₁.setTop (entryFrame m #[.ref b, .int (Int32.ofNat o), .ref d, .int (Int32.ofNat q), .int (Int32.ofNat len)] 7)) (Tl.setTop (mkF m 13 #[.val (.ref b), .val (.int (Int32.ofNat (o + i))), .val (.ref d), .val (.int (Int32.ofNat (q + i))), .val (.int (Int32.ofNat len)), .val (.int (Int32.ofNat i)), z] [.int (cv A (o + i))])) := c3.trans (by
        refine Xl.aget hexec hAl rfl (hA.get (i := o + i) (by omega)) rfl rfl (hb hbytes d12) ?_
        exact Steps.refl _)
      have c5 : Steps p.tables e below (s₁.setTop (entryFrame m #[.ref b, .int (Int32.ofNat o), .ref d, .int (Int32.ofNat q), .int (Int32.ofNat len)] 7)) (Tl.setTop (mkF m 15 #[.val (.ref b), .val (.int (Int32.ofNat (o + i))), .val (.ref d), .val (.int (Int32.ofNat (q + i))), .val (.int (Int32.ofNat len)), .val (.int (Int32.ofNat i)), .val (.int (cv A (o + i)))] [])) := c4.trans (by
        refine XS.istoreS Xl.here hexec rfl (hb hbytes d13) rfl rfl hz ?_
        exact Steps.refl _)
      have c6 : Steps p.tables e below (s₁.setTop (entryFrame m #[.ref b, .int (Int32.ofNat o), .ref d, .int (Int32.ofNat q), .int (Int32.ofNat len)] 7)) (Tl.setTop (mkF m 31 #[.val (.ref b), .val (.int (Int32.ofNat (o + i))), .val (.ref d), .val (.int (Int32.ofNat (q + i))), .val (.int (Int32.ofNat len)), .val (.int (Int32.ofNat i)), .val (.int (cv A (o + i)))] [.int (lo8 (cv A (o + i))), .int (Int32.ofNat (q + i)), .ref d])) := c5.trans (by
        refine XS.iload Xl.here hexec rfl (hb hbytes d15) rfl ?_
        refine sipushV Xl.here hexec rfl 255 (hb hbytes d17) (by decide) ?_
        refine XS.icmpYes Xl.here hexec rfl (pc0 := 20) rfl (hb hbytes d20) rfl (ii_le_t (hp i (by omega))) (by decide) rfl ?_
        refine XS.aloadN Xl.here hexec rfl (hb hbytes d26) rfl rfl ?_
        refine XS.iloadN Xl.here hexec rfl (hb hbytes d27) rfl ?_
        refine XS.iload Xl.here hexec rfl (hb hbytes d28) rfl ?_
        refine i2b Xl.here hexec rfl (hb hbytes d30) rfl ?_
        exact Steps.refl _)
      obtain ⟨T7, X7, p7, st7⟩ := Xl.aput hexec hBk rfl hlt rfl (fits_lo8 (cv A (o + i))) (g := (mkF m 31 #[.val (.ref b), .val (.int (Int32.ofNat (o + i))), .val (.ref d), .val (.int (Int32.ofNat (q + i))), .val (.int (Int32.ofNat len)), .val (.int (Int32.ofNat i)), .val (.int (cv A (o + i)))] [.int (lo8 (cv A (o + i))), .int (Int32.ofNat (q + i)), .ref d])) rfl (rest := []) rfl (hb hbytes d31)
      have c8 : Steps p.tables e below (s₁.setTop (entryFrame m #[.ref b, .int (Int32.ofNat o), .ref d, .int (Int32.ofNat q), .int (Int32.ofNat len)] 7)) (T7.setTop (mkF m 32 #[.val (.ref b), .val (.int (Int32.ofNat (o + i))), .val (.ref d), .val (.int (Int32.ofNat (q + i))), .val (.int (Int32.ofNat len)), .val (.int (Int32.ofNat i)), .val (.int (cv A (o + i)))] [])) := c6.trans (st7 _ (Steps.refl _))
      have c9 : Steps p.tables e below (s₁.setTop (entryFrame m #[.ref b, .int (Int32.ofNat o), .ref d, .int (Int32.ofNat q), .int (Int32.ofNat len)] 7)) (T7.setTop (mkF m 3 #[.val (.ref b), .val (.int (Int32.ofNat (o + i) + 1)), .val (.ref d), .val (.int (Int32.ofNat (q + i) + 1)), .val (.int (Int32.ofNat len)), .val (.int (Int32.ofNat i + 1)), .val (.int (cv A (o + i)))] [])) := c8.trans (by
        refine iincV X7.here hexec rfl 1 (hb hbytes d32) (by decide) rfl rfl ?_
        refine iincV X7.here hexec rfl 1 (hb hbytes d35) (by decide) rfl rfl ?_
        refine iincV X7.here hexec rfl 1 (hb hbytes d38) (by decide) rfl rfl ?_
        refine XS.goto X7.here hexec rfl (pc0 := 41) rfl (hb hbytes d41) (by decide) rfl ?_
        exact Steps.refl _)
      have c10 : Steps p.tables e below (s₁.setTop (entryFrame m #[.ref b, .int (Int32.ofNat o), .ref d, .int (Int32.ofNat q), .int (Int32.ofNat len)] 7)) (T7.setTop (mkF m 3 #[.val (.ref b), .val (.int (Int32.ofNat (o + (i + 1)))), .val (.ref d), .val (.int (Int32.ofNat (q + (i + 1)))), .val (.int (Int32.ofNat len)), .val (.int (Int32.ofNat (i + 1))), .val (.int (cv A (o + i)))] [])) := by
        have := c9
        rw [succ32, succ32, succ32] at this
        exact this
      exact ih (i + 1) (by omega) _ (Or.inr ⟨_, rfl, rfl⟩) T7 _ (by rw [copyLocs_step, ← List.append_assoc]; exact X7) (pl.trans p7) (fl.step (by omega) hlt (by simp)) c10
  obtain ⟨T9, B9, z9, X9, p9, f9, g9⟩ := loop len 0 (by omega) .unset (Or.inl rfl) s₁ B (by simpa [copyLocs] using X0) ⟨hB0.1, fun _ _ => rfl, rfl⟩ (Laid.zero _ _ _) c2
  have c11 : Steps p.tables e below (s₁.setTop (entryFrame m #[.ref b, .int (Int32.ofNat o), .ref d, .int (Int32.ofNat q), .int (Int32.ofNat len)] 7)) (T9.setTop (mkF m 46 #[.val (.ref b), .val (.int (Int32.ofNat (o + len))), .val (.ref d), .val (.int (Int32.ofNat (q + len))), .val (.int (Int32.ofNat len)), .val (.int (Int32.ofNat len)), z9] [.int (Int32.ofNat len)])) := g9.trans (by
    refine XS.iload X9.here hexec rfl (hb hbytes d3) rfl ?_
    refine XS.iload X9.here hexec rfl (hb hbytes d5) rfl ?_
    refine XS.icmpYes X9.here hexec rfl (pc0 := 7) rfl (hb hbytes d7) rfl (ii_ge_t (nlt32 (by omega) (Nat.le_refl _))) (by decide) rfl ?_
    refine XS.iload X9.here hexec rfl (hb hbytes d44) rfl ?_
    exact Steps.refl _)
  exact ⟨T9, some (.int (Int32.ofNat len)), _, _, _, X9, by simp, rfl, rfl, (fun h => by cases h), ⟨rfl, B9, p9.from hh0, f9⟩, fun fs hl => c11.trans (X9.ireturnOut hexec hret rfl (Or.inl rfl) (hb hbytes d46) hl)⟩
end Cmp5
namespace Cmp3
def yN : MethodName := ⟨"java/lang/StringUTF16", "compress", "([CII)[B"⟩
abbrev yB : ByteArray := jdk_52_method_16_code
theorem d0 : decode yB 0 = .ok (.iload_n 2, 1) := by decide +kernel
theorem d1 : decode yB 1 = .ok (.newarray .byte, 2) := by decide +kernel
theorem d3 : decode yB 3 = .ok (.astore_n 3, 1) := by decide +kernel
theorem d4 : decode yB 4 = .ok (.aload_n 0, 1) := by decide +kernel
theorem d5 : decode yB 5 = .ok (.iload_n 1, 1) := by decide +kernel
theorem d6 : decode yB 6 = .ok (.aload_n 3, 1) := by decide +kernel
theorem d7 : decode yB 7 = .ok (.iconst 0, 1) := by decide +kernel
theorem d8 : decode yB 8 = .ok (.iload_n 2, 1) := by decide +kernel
theorem d9 : decode yB 9 = .ok (.invokestatic 115, 3) := by decide +kernel
theorem d12 : decode yB 12 = .ok (.istore 4, 2) := by decide +kernel
theorem d14 : decode yB 14 = .ok (.iload 4, 2) := by decide +kernel
theorem d16 : decode yB 16 = .ok (.iload_n 2, 1) := by decide +kernel
theorem d17 : decode yB 17 = .ok (.if_icmp (.eq) 40, 3) := by decide +kernel
theorem d57 : decode yB 57 = .ok (.aload_n 3, 1) := by decide +kernel
theorem d58 : decode yB 58 = .ok (.areturn, 1) := by decide +kernel
def site : List Cond := [.arrayClass .byte, Cmp5.tab] ++ staticW U16 115 Cmp5.yN
def tab : Cond := tabOf yN yB 6 (some (.array .byte)) site
def P (b : Addr) (A : Cell) (o len : Nat) (args : Array Value) (s : State) : Prop := args = #[.ref b, .int (Int32.ofNat o), .int (Int32.ofNat len)] ∧ Ch b A s ∧ o + len ≤ A.slots.size ∧ len ≤ 536870912 ∧ ∀ i, i < len → ¬ 255 < cv A (o + i)
def E (b : Addr) (A : Cell) (o len : Nat) (r : Option Value) (s u : State) : Prop := NewArr .byte "[B" len (fun j => .int (lo8 (cv A (o + j)))) r s u ∧ u.heap.size = s.heap.size + 1
theorem law (l : Launch) (b : Addr) (A : Cell) (o len : Nat) : Law l yN 3 3 1 18 yB 6 (some (.array .byte)) site (P b A o len) (E b A o len) [] 1 len := by
  refine Law.of_walk (plainFor_of_name (by decide +kernel)) (by decide +kernel) (by decide +kernel) (by decide) (fun _ _ h => by rw [h.1]; rfl) (fun _ U U' hal hh h => ⟨h.1, h.2.1.mv hal hh, h.2.2⟩) (fun r U U' V V' h1 hal h2 h => ⟨NewArr.mv r U U' V V' h1 hal h2 h.1, by rw [h1, h2]; exact h.2⟩) ?_
  intro p e s m args below meth c s₁ X0 hexec hbytes hml hret hlk hnm hown hh0 W hP
  obtain ⟨rfl, hA, l1, l2, hp⟩ := hP
  have a31 := hA.1.2.2.2
  have c1 : Steps p.tables e below (s₁.setTop (entryFrame m #[.ref b, .int (Int32.ofNat o), .int (Int32.ofNat len)] 6)) (s₁.setTop (mkF m 0 #[.val (.ref b), .val (.int (Int32.ofNat o)), .val (.int (Int32.ofNat len)), .unset, .unset, .unset] [])) := entry rfl
  have c2 : Steps p.tables e below (s₁.setTop (entryFrame m #[.ref b, .int (Int32.ofNat o), .int (Int32.ofNat len)] 6)) (s₁.setTop (mkF m 1 #[.val (.ref b), .val (.int (Int32.ofNat o)), .val (.int (Int32.ofNat len)), .unset, .unset, .unset] [.int (Int32.ofNat len)])) := c1.trans (by
    refine XS.iloadN X0.here hexec rfl (hb hbytes d0) rfl ?_
    exact Steps.refl _)
  obtain ⟨T3, B3, X3, ba3, bs3, bv3, bh3, bf3, st3⟩ := X0.anew hexec (atype := .byte) (wk W (.arrayClass .byte)) rfl (by show len * 1 ≤ _; omega) (by omega) (g := (mkF m 1 #[.val (.ref b), .val (.int (Int32.ofNat o)), .val (.int (Int32.ofNat len)), .unset, .unset, .unset] [.int (Int32.ofNat len)])) rfl (hb hbytes d1) (rest := []) rfl (Nat.le_refl _) (by show 0 + len ≤ len; omega)
  rw [hh0] at ba3 st3
  have kp3 : XT.Kept s T3 := (XT.Kept.of_eq hh0).push bh3
  have hA3 := hA.keep X3.warmed.alike (kp3 _ _ hA.1.1)
  have hne : b ≠ s.heap.size := hA.1.ne
  have c4 : Steps p.tables e below (s₁.setTop (entryFrame m #[.ref b, .int (Int32.ofNat o), .int (Int32.ofNat len)] 6)) (T3.setTop (mkF m 3 #[.val (.ref b), .val (.int (Int32.ofNat o)), .val (.int (Int32.ofNat len)), .unset, .unset, .unset] [.ref s.heap.size])) := c2.trans (st3 _ (Steps.refl _))
  have c5 : Steps p.tables e below (s₁.setTop (entryFrame m #[.ref b, .int (Int32.ofNat o), .int (Int32.ofNat len)] 6)) (T3.setTop (mkF m 9 #[.val (.ref b), .val (.int (Int32.ofNat o)), .val (.int (Int32.ofNat len)), .val (.ref s.heap.size), .unset, .unset] [.int (Int32.ofNat len), .int 0, .ref s.heap.size, .int (Int32.ofNat o), .ref b])) := c4.trans (by
    refine XS.astoreN X3.here hexec rfl (hb hbytes d3) rfl rfl rfl ?_
    refine XS.aloadN X3.here hexec rfl (hb hbytes d4) rfl rfl ?_
    refine XS.iloadN X3.here hexec rfl (hb hbytes d5) rfl ?_
    refine XS.aloadN X3.here hexec rfl (hb hbytes d6) rfl rfl ?_
    refine iconstV X3.here hexec rfl 0 (hb hbytes d7) (by decide) ?_
    refine XS.iloadN X3.here hexec rfl (hb hbytes d8) rfl ?_
    exact Steps.refl _)
  obtain ⟨v6, T6, X6, E6, g6⟩ := X3.callS hexec (Cmp5.law l b A s.heap.size B3 o 0 len) hown (wks W (staticW U16 115 Cmp5.yN)) (wk W Cmp5.tab) (W := 0) (Nat.le_of_ble_eq_true rfl) (Nat.le_of_ble_eq_true rfl) (Nat.le_refl _) (by show 0 + len + 0 ≤ len; omega) (g := (mkF m 9 #[.val (.ref b), .val (.int (Int32.ofNat o)), .val (.int (Int32.ofNat len)), .val (.ref s.heap.size), .unset, .unset] [.int (Int32.ofNat len), .int (Int32.ofNat 0), .ref s.heap.size, .int (Int32.ofNat o), .ref b])) rfl (by rw [hml]; rfl) c5 (argsL := [.ref b, .int (Int32.ofNat o), .ref s.heap.size, .int (Int32.ofNat 0), .int (Int32.ofNat len)]) (rest := []) rfl rfl (by show 2 * 0 + 0 ≤ _; decide) (hb hbytes d9) (⟨rfl, hA3, ba3, hne, l1, by rw [bs3]; simp, hp⟩)
  obtain ⟨rfl, B6, p6, f6⟩ := E6
  have c7 : Steps p.tables e below (s₁.setTop (entryFrame m #[.ref b, .int (Int32.ofNat o), .int (Int32.ofNat len)] 6)) (T6.setTop (mkF m 12 #[.val (.ref b), .val (.int (Int32.ofNat o)), .val (.int (Int32.ofNat len)), .val (.ref s.heap.size), .unset, .unset] [.int (Int32.ofNat len)])) := g6
  have c8 : Steps p.tables e below (s₁.setTop (entryFrame m #[.ref b, .int (Int32.ofNat o), .int (Int32.ofNat len)] 6)) (T6.setTop (mkF m 58 #[.val (.ref b), .val (.int (Int32.ofNat o)), .val (.int (Int32.ofNat len)), .val (.ref s.heap.size), .val (.int (Int32.ofNat len)), .unset] [.ref s.heap.size])) := c7.trans (by
    refine XS.istore X6.here hexec rfl (hb hbytes d12) rfl rfl ?_
    refine XS.iload X6.here hexec rfl (hb hbytes d14) rfl ?_
    refine XS.iloadN X6.here hexec rfl (hb hbytes d16) rfl ?_
    refine XS.icmpYes X6.here hexec rfl (pc0 := 17) rfl (hb hbytes d17) rfl (ii_eq_t rfl) (by decide) rfl ?_
    refine XS.aloadN X6.here hexec rfl (hb hbytes d57) rfl rfl ?_
    exact Steps.refl _)
  have X8 := X6.wide (L' := []) (cells' := 1) (slots' := len) (fun x hx hlt => by
    simp only [List.nil_append, copyLocs, List.mem_map, List.mem_range] at hx
    obtain ⟨i, -, rfl⟩ := hx
    exact absurd hlt (Nat.lt_irrefl _)) (Nat.le_refl _) (by omega)
  exact ⟨T6, some (.ref s.heap.size), _, _, _, X8, rfl, rfl, rfl, (fun h => by cases h), ⟨⟨rfl, B6, ba3.like (X3.warmed.alike.symm.trans X6.warmed.alike) p6.1 f6.1 f6.2.1 f6.2.2.1, f6.2.1.trans bv3, by rw [X6.warmed.alike.findClass, f6.1]; exact bf3, by rw [f6.2.2.1, bs3]; simp, fun j hj => by rw [f6.2.2.2 j, if_pos (by omega)]; rfl, kp3.put p6 (Nat.le_refl _)⟩, by rw [p6.2.2, bh3, hh0]; simp⟩, fun fs hl => c8.trans (X8.areturnOut hexec rfl hret rfl (hb hbytes d58) hl)⟩
end Cmp3
namespace CodL
def yN : MethodName := ⟨"java/lang/StringUTF16", "coderFromArrayLen", "([BI)B"⟩
abbrev yB : ByteArray := jdk_52_method_15_code
theorem d0 : decode yB 0 = .ok (.iload_n 1, 1) := by decide +kernel
theorem d1 : decode yB 1 = .ok (.aload_n 0, 1) := by decide +kernel
theorem d2 : decode yB 2 = .ok (.arraylength, 1) := by decide +kernel
theorem d3 : decode yB 3 = .ok (.isub, 1) := by decide +kernel
theorem d4 : decode yB 4 = .ok (.bipush 31, 2) := by decide +kernel
theorem d6 : decode yB 6 = .ok (.iushr, 1) := by decide +kernel
theorem d7 : decode yB 7 = .ok (.i2b, 1) := by decide +kernel
theorem d8 : decode yB 8 = .ok (.ireturn, 1) := by decide +kernel
def site : List Cond := []
def tab : Cond := tabOf yN yB 2 (some .byte) site
def P (d : Addr) (B : Cell) (args : Array Value) (s : State) : Prop := args = #[.ref d, .int (Int32.ofNat B.slots.size)] ∧ Arr .byte d B s
def E (r : Option Value) (s u : State) : Prop := XT.PureE (some (.int 0)) r s u
theorem law (l : Launch) (d : Addr) (B : Cell) : Law l yN 2 2 0 0 yB 2 (some .byte) site (P d B) E [] 0 0 := by
  refine Law.of_walk (plainFor_of_name (by decide +kernel)) (by decide +kernel) (by decide +kernel) (by decide) (fun _ _ h => by rw [h.1]; rfl) (fun _ U U' hal hh h => ⟨h.1, h.2.mv hal hh⟩) (fun r U U' V V' h1 hal h2 h => XT.PureE.mv r U U' V V' h1 hal h2 h) ?_
  intro p e s m args below meth c s₁ X0 hexec hbytes hml hret hlk hnm hown hh0 W hP
  obtain ⟨rfl, hB⟩ := hP
  have hB0 := hB.mv X0.warmed.alike hh0
  have c1 : Steps p.tables e below (s₁.setTop (entryFrame m #[.ref d, .int (Int32.ofNat B.slots.size)] 2)) (s₁.setTop (mkF m 0 #[.val (.ref d), .val (.int (Int32.ofNat B.slots.size))] [])) := entry rfl
  have c2 : Steps p.tables e below (s₁.setTop (entryFrame m #[.ref d, .int (Int32.ofNat B.slots.size)] 2)) (s₁.setTop (mkF m 2 #[.val (.ref d), .val (.int (Int32.ofNat B.slots.size))] [.ref d, .int (Int32.ofNat B.slots.size)])) := c1.trans (by
    refine XS.iloadN X0.here hexec rfl (hb hbytes d0) rfl ?_
    refine XS.aloadN X0.here hexec rfl (hb hbytes d1) rfl rfl ?_
    exact Steps.refl _)
  have c3 : Steps p.tables e below (s₁.setTop (entryFrame m #[.ref d, .int (Int32.ofNat B.slots.size)] 2)) (s₁.setTop (mkF m 8 #[.val (.ref d), .val (.int (Int32.ofNat B.slots.size))] [.int (lo8 (ushr (Int32.ofNat B.slots.size - Int32.ofNat B.slots.size) 31))])) := c2.trans (by
    refine X0.alen hexec hB0 rfl rfl (hb hbytes d2) ?_
    refine XS.isub X0.here hexec rfl (hb hbytes d3) rfl ?_
    refine bipushV X0.here hexec rfl 31 (hb hbytes d4) (by decide) ?_
    refine iushr X0.here hexec rfl (hb hbytes d6) rfl ?_
    refine i2b X0.here hexec rfl (hb hbytes d7) rfl ?_
    exact Steps.refl _)
  have e0 : lo8 (ushr (Int32.ofNat B.slots.size - Int32.ofNat B.slots.size) 31) = 0 := by rw [Int32.sub_self]; decide
  rw [e0] at c3
  exact ⟨s₁, some (.int 0), _, _, _, X0, rfl, rfl, rfl, (fun h => by cases h), ⟨rfl, hh0⟩, fun fs hl => c3.trans (X0.ireturnOut hexec hret rfl (Or.inr (Or.inr (Or.inl rfl))) (hb hbytes d8) hl)⟩
end CodL
def Got (a : Addr) (D : Cell) (fV fC : Field) (A : Cell) (o len : Nat) (r : Option Value) (s u : State) : Prop := r = none ∧ ∃ D' V : Cell, Blank "java/lang/String" a D' u ∧ Same D D' [fV.slot, fC.slot] ∧ D'.slots[fV.slot]? = some (.ref s.heap.size) ∧ D'.slots[fC.slot]? = some (.int 0) ∧ Arr .byte s.heap.size V u ∧ V.vm = .none ∧ u.vm.findClass "[B" = some V.cls ∧ V.slots.size = len ∧ (∀ j, j < len → V.slots[j]? = some (.int (lo8 (cv A (o + j))))) ∧ (∀ (y : Addr) (c : Cell), y ≠ a → s.heap[y]? = some c → u.heap[y]? = some c) ∧ u.heap.size = s.heap.size + 1
theorem Got.mv {a : Addr} {D A : Cell} {fV fC : Field} {o len : Nat} : ∀ r (U U' V V' : State), U'.heap = U.heap → V.vm.Alike V'.vm → V'.heap = V.heap → Got a D fV fC A o len r U V → Got a D fV fC A o len r U' V' :=
  fun r U U' V V' h1 hal h2 ⟨e0, D', X, a1, a2, a3, a4, a5, a6, a7, a8, a9, a10, a11⟩ => ⟨e0, D', X, a1.mv hal h2, a2, by rw [h1]; exact a3, a4, by rw [h1]; exact a5.mv hal h2, a6, by rw [hal.findClass]; exact a7, a8, a9, by rw [h1, h2]; exact a10, by rw [h1, h2]; exact a11⟩
namespace New4
def yN : MethodName := ⟨"java/lang/String", "<init>", "([CIILjava/lang/Void;)V"⟩
abbrev yB : ByteArray := jdk_42_method_149_code
theorem d0 : decode yB 0 = .ok (.aload_n 0, 1) := by decide +kernel
theorem d1 : decode yB 1 = .ok (.invokespecial 1, 3) := by decide +kernel
theorem d4 : decode yB 4 = .ok (.iload_n 3, 1) := by decide +kernel
theorem d5 : decode yB 5 = .ok (.ifCond (.ne) 22, 3) := by decide +kernel
theorem d27 : decode yB 27 = .ok (.getstatic 38, 3) := by decide +kernel
theorem d30 : decode yB 30 = .ok (.ifCond (.eq) 28, 3) := by decide +kernel
theorem d33 : decode yB 33 = .ok (.aload_n 1, 1) := by decide +kernel
theorem d34 : decode yB 34 = .ok (.iload_n 2, 1) := by decide +kernel
theorem d35 : decode yB 35 = .ok (.iload_n 3, 1) := by decide +kernel
theorem d36 : decode yB 36 = .ok (.invokestatic 177, 3) := by decide +kernel
theorem d39 : decode yB 39 = .ok (.astore 5, 2) := by decide +kernel
theorem d41 : decode yB 41 = .ok (.aload_n 0, 1) := by decide +kernel
theorem d42 : decode yB 42 = .ok (.aload 5, 2) := by decide +kernel
theorem d44 : decode yB 44 = .ok (.iload_n 3, 1) := by decide +kernel
theorem d45 : decode yB 45 = .ok (.invokestatic 47, 3) := by decide +kernel
theorem d48 : decode yB 48 = .ok (.putfield 15, 3) := by decide +kernel
theorem d51 : decode yB 51 = .ok (.aload_n 0, 1) := by decide +kernel
theorem d52 : decode yB 52 = .ok (.aload 5, 2) := by decide +kernel
theorem d54 : decode yB 54 = .ok (.putfield 9, 3) := by decide +kernel
theorem d57 : decode yB 57 = .ok (.return_, 1) := by decide +kernel
def site : List Cond := [.fieldLink "java/lang/String" 38 "java/lang/String" "COMPACT_STRINGS" "Z", Cmp3.tab, CodL.tab, .laysFinal "java/lang/String" "java/lang/String" "value" "[B", .fieldLink "java/lang/String" 9 "java/lang/String" "value" "[B", .laysFinal "java/lang/String" "java/lang/String" "coder" "B", .fieldLink "java/lang/String" 15 "java/lang/String" "coder" "B"] ++ objW "java/lang/String" 1 ++ staticW "java/lang/String" 177 Cmp3.yN ++ staticW "java/lang/String" 47 CodL.yN
def tab : Cond := tabOf yN yB 6 none site
def P (a : Addr) (D : Cell) (fV fC : Field) (b : Addr) (A : Cell) (z : Int32) (o len : Nat) (args : Array Value) (s : State) : Prop := args = #[.ref a, .ref b, .int (Int32.ofNat o), .int (Int32.ofNat len), .null] ∧ Blank "java/lang/String" a D s ∧ Found "java/lang/String" "value" "[B" fV s ∧ Found "java/lang/String" "coder" "B" fC s ∧ Ch b A s ∧ StaticIs s "java/lang/String" "COMPACT_STRINGS" "Z" (.int z) ∧ ¬ z = 0 ∧ 0 < len ∧ o + len ≤ A.slots.size ∧ len ≤ 536870912 ∧ ∀ i, i < len → ¬ 255 < cv A (o + i)
def E (a : Addr) (D : Cell) (fV fC : Field) (A : Cell) (o len : Nat) (r : Option Value) (s u : State) : Prop := Got a D fV fC A o len r s u
theorem law (l : Launch) (a : Addr) (D : Cell) (fV fC : Field) (b : Addr) (A : Cell) (z : Int32) (o len : Nat) : Law l yN 5 4 2 35 yB 6 none site (P a D fV fC b A z o len) (E a D fV fC A o len) [⟨a, fC.slot⟩, ⟨a, fV.slot⟩] 1 len := by
  refine Law.of_walk (plainFor_of_name (by decide +kernel)) (by decide +kernel) (by decide +kernel) (by decide) (fun _ _ h => by rw [h.1]; rfl) (fun _ U U' hal hh h => ⟨h.1, h.2.1.mv hal hh, h.2.2.1.al hal, h.2.2.2.1.al hal, h.2.2.2.2.1.mv hal hh, h.2.2.2.2.2.1.there hal hh, h.2.2.2.2.2.2⟩) (fun r U U' V V' h1 hal h2 h => Got.mv r U U' V V' h1 hal h2 h) ?_
  intro p e s m args below meth c s₁ X0 hexec hbytes hml hret hlk hnm hown hh0 W hP
  obtain ⟨rfl, hB, f1, f2, hA, s1, hz, l0, l1, l2, hp⟩ := hP
  have a31 := hA.1.2.2.2
  have c1 : Steps p.tables e below (s₁.setTop (entryFrame m #[.ref a, .ref b, .int (Int32.ofNat o), .int (Int32.ofNat len), .null] 6)) (s₁.setTop (mkF m 0 #[.val (.ref a), .val (.ref b), .val (.int (Int32.ofNat o)), .val (.int (Int32.ofNat len)), .val .null, .unset] [])) := entry rfl
  have c2 : Steps p.tables e below (s₁.setTop (entryFrame m #[.ref a, .ref b, .int (Int32.ofNat o), .int (Int32.ofNat len), .null] 6)) (s₁.setTop (mkF m 1 #[.val (.ref a), .val (.ref b), .val (.int (Int32.ofNat o)), .val (.int (Int32.ofNat len)), .val .null, .unset] [.ref a])) := c1.trans (by
    refine XS.aloadN X0.here hexec rfl (hb hbytes d0) rfl rfl ?_
    exact Steps.refl _)
  obtain ⟨T3, X3, q3, st3⟩ := X0.oinit hexec hown (wks W (objW "java/lang/String" 1)) (g := (mkF m 1 #[.val (.ref a), .val (.ref b), .val (.int (Int32.ofNat o)), .val (.int (Int32.ofNat len)), .val .null, .unset] [.ref a])) rfl (by rw [hml]; rfl) (rest := []) rfl (hb hbytes d1) (W := 0) (by show 2 * 0 + 0 ≤ _; decide) (Nat.le_of_ble_eq_true rfl) (Nat.le_of_ble_eq_true rfl)
  have hh3 := q3.trans hh0
  have c4 : Steps p.tables e below (s₁.setTop (entryFrame m #[.ref a, .ref b, .int (Int32.ofNat o), .int (Int32.ofNat len), .null] 6)) (T3.setTop (mkF m 27 #[.val (.ref a), .val (.ref b), .val (.int (Int32.ofNat o)), .val (.int (Int32.ofNat len)), .val .null, .unset] [])) := (c2.trans (st3 _ (Steps.refl _))).trans (by
    refine XS.iloadN X3.here hexec rfl (hb hbytes d4) rfl ?_
    refine XS.ifYes X3.here hexec rfl (pc0 := 5) rfl (hb hbytes d5) rfl (i0_ne_t (nz32 (by omega) l0)) (by decide) rfl ?_
    exact Steps.refl _)
  obtain ⟨T5, X5, q5, st5⟩ := X3.sget hexec hown (wk W (.fieldLink "java/lang/String" 38 "java/lang/String" "COMPACT_STRINGS" "Z")) s1 (fun _ _ h => by rw [hh3]; exact h) (g := (mkF m 27 #[.val (.ref a), .val (.ref b), .val (.int (Int32.ofNat o)), .val (.int (Int32.ofNat len)), .val .null, .unset] [])) rfl (hb hbytes d27)
  have hh5 := q5.trans hh3
  have c6 : Steps p.tables e below (s₁.setTop (entryFrame m #[.ref a, .ref b, .int (Int32.ofNat o), .int (Int32.ofNat len), .null] 6)) (T5.setTop (mkF m 30 #[.val (.ref a), .val (.ref b), .val (.int (Int32.ofNat o)), .val (.int (Int32.ofNat len)), .val .null, .unset] [.int z])) := c4.trans (st5 _ (Steps.refl _))
  have c7 : Steps p.tables e below (s₁.setTop (entryFrame m #[.ref a, .ref b, .int (Int32.ofNat o), .int (Int32.ofNat len), .null] 6)) (T5.setTop (mkF m 36 #[.val (.ref a), .val (.ref b), .val (.int (Int32.ofNat o)), .val (.int (Int32.ofNat len)), .val .null, .unset] [.int (Int32.ofNat len), .int (Int32.ofNat o), .ref b])) := c6.trans (by
    refine XS.ifNo X5.here hexec rfl (hb hbytes d30) rfl (i0_eq_f hz) ?_
    refine XS.aloadN X5.here hexec rfl (hb hbytes d33) rfl rfl ?_
    refine XS.iloadN X5.here hexec rfl (hb hbytes d34) rfl ?_
    refine XS.iloadN X5.here hexec rfl (hb hbytes d35) rfl ?_
    exact Steps.refl _)
  obtain ⟨v8, T8, X8, E8, g8⟩ := X5.callS hexec (Cmp3.law l b A o len) hown (wks W (staticW "java/lang/String" 177 Cmp3.yN)) (wk W Cmp3.tab) (W := 0) (Nat.le_of_ble_eq_true rfl) (Nat.le_of_ble_eq_true rfl) (Nat.le_refl _) (by show 0 + len ≤ len; omega) (g := (mkF m 36 #[.val (.ref a), .val (.ref b), .val (.int (Int32.ofNat o)), .val (.int (Int32.ofNat len)), .val .null, .unset] [.int (Int32.ofNat len), .int (Int32.ofNat o), .ref b])) rfl (by rw [hml]; rfl) c7 (argsL := [.ref b, .int (Int32.ofNat o), .int (Int32.ofNat len)]) (rest := []) rfl rfl (by show 2 * 0 + 0 ≤ _; decide) (hb hbytes d36) (⟨rfl, hA.mv X5.warmed.alike hh5, l1, l2, hp⟩)
  obtain ⟨e8, z8⟩ := E8
  obtain ⟨rfl, N, n1, n2, n3, n4, n5, n6⟩ := NewArr.mv _ T5 s _ _ hh5.symm (Vm.Alike.refl _) rfl e8
  rw [hh5] at z8
  have hB1 := hB.keep X8.warmed.alike (n6 _ _ hB.1)
  have hne : s.heap.size ≠ a := (Nat.ne_of_lt (Array.getElem?_eq_some_iff.mp hB.1).1).symm
  have c9 : Steps p.tables e below (s₁.setTop (entryFrame m #[.ref a, .ref b, .int (Int32.ofNat o), .int (Int32.ofNat len), .null] 6)) (T8.setTop (mkF m 39 #[.val (.ref a), .val (.ref b), .val (.int (Int32.ofNat o)), .val (.int (Int32.ofNat len)), .val .null, .unset] [.ref s.heap.size])) := g8
  have c10 : Steps p.tables e below (s₁.setTop (entryFrame m #[.ref a, .ref b, .int (Int32.ofNat o), .int (Int32.ofNat len), .null] 6)) (T8.setTop (mkF m 45 #[.val (.ref a), .val (.ref b), .val (.int (Int32.ofNat o)), .val (.int (Int32.ofNat len)), .val .null, .val (.ref s.heap.size)] [.int (Int32.ofNat N.slots.size), .ref s.heap.size, .ref a])) := by
    have hc : Steps p.tables e below (s₁.setTop (entryFrame m #[.ref a, .ref b, .int (Int32.ofNat o), .int (Int32.ofNat len), .null] 6)) (T8.setTop (mkF m 45 #[.val (.ref a), .val (.ref b), .val (.int (Int32.ofNat o)), .val (.int (Int32.ofNat len)), .val .null, .val (.ref s.heap.size)] [.int (Int32.ofNat len), .ref s.heap.size, .ref a])) := c9.trans (by
      refine XS.astore X8.here hexec rfl (hb hbytes d39) rfl rfl rfl ?_
      refine XS.aloadN X8.here hexec rfl (hb hbytes d41) rfl rfl ?_
      refine XS.aload X8.here hexec rfl (hb hbytes d42) rfl rfl ?_
      refine XS.iloadN X8.here hexec rfl (hb hbytes d44) rfl ?_
      exact Steps.refl _)
    rw [n4]; exact hc
  obtain ⟨v11, T11, X11, E11, g11⟩ := X8.callS hexec (CodL.law l s.heap.size N) hown (wks W (staticW "java/lang/String" 47 CodL.yN)) (wk W CodL.tab) (W := 1) (Nat.le_of_ble_eq_true rfl) (Nat.le_of_ble_eq_true rfl) (Nat.le_refl _) (by show 0 + len + 0 ≤ len; omega) (g := (mkF m 45 #[.val (.ref a), .val (.ref b), .val (.int (Int32.ofNat o)), .val (.int (Int32.ofNat len)), .val .null, .val (.ref s.heap.size)] [.int (Int32.ofNat N.slots.size), .ref s.heap.size, .ref a])) rfl (by rw [hml]; rfl) c10 (argsL := [.ref s.heap.size, .int (Int32.ofNat N.slots.size)]) (rest := [.ref a]) rfl rfl (by show 2 * 0 + (1 + 0) ≤ _; decide) (hb hbytes d45) (⟨rfl, n1⟩)
  obtain ⟨rfl, q11⟩ := E11
  have hB11 := hB1.mv (X8.warmed.alike.symm.trans X11.warmed.alike) q11
  have c12 : Steps p.tables e below (s₁.setTop (entryFrame m #[.ref a, .ref b, .int (Int32.ofNat o), .int (Int32.ofNat len), .null] 6)) (T11.setTop (mkF m 48 #[.val (.ref a), .val (.ref b), .val (.int (Int32.ofNat o)), .val (.int (Int32.ofNat len)), .val .null, .val (.ref s.heap.size)] [.int 0, .ref a])) := g11
  obtain ⟨T13, X13, p13, bl13, sl13, st13⟩ := X11.finit hexec hown (wk W (.fieldLink "java/lang/String" 15 "java/lang/String" "coder" "B")) (Or.inr ⟨_, (wk W (.laysFinal "java/lang/String" "java/lang/String" "coder" "B"))⟩) (Or.inl ⟨rfl, hnm⟩) f2 (Or.inl rfl) hB11 (t := .byte) (by decide +kernel) rfl (g := (mkF m 48 #[.val (.ref a), .val (.ref b), .val (.int (Int32.ofNat o)), .val (.int (Int32.ofNat len)), .val .null, .val (.ref s.heap.size)] [.int 0, .ref a])) rfl (rest := []) rfl (hb hbytes d48)
  have c14 : Steps p.tables e below (s₁.setTop (entryFrame m #[.ref a, .ref b, .int (Int32.ofNat o), .int (Int32.ofNat len), .null] 6)) (T13.setTop (mkF m 54 #[.val (.ref a), .val (.ref b), .val (.int (Int32.ofNat o)), .val (.int (Int32.ofNat len)), .val .null, .val (.ref s.heap.size)] [.ref s.heap.size, .ref a])) := (c12.trans (st13 _ (Steps.refl _))).trans (by
    refine XS.aloadN X13.here hexec rfl (hb hbytes d51) rfl rfl ?_
    refine XS.aload X13.here hexec rfl (hb hbytes d52) rfl rfl ?_
    exact Steps.refl _)
  obtain ⟨T15, X15, p15, bl15, sl15, st15⟩ := X13.finit hexec hown (wk W (.fieldLink "java/lang/String" 9 "java/lang/String" "value" "[B")) (Or.inr ⟨_, (wk W (.laysFinal "java/lang/String" "java/lang/String" "value" "[B"))⟩) (Or.inl ⟨rfl, hnm⟩) f1 (Or.inl rfl) bl13 (t := (.array .byte)) (by decide +kernel) rfl (g := (mkF m 54 #[.val (.ref a), .val (.ref b), .val (.int (Int32.ofNat o)), .val (.int (Int32.ofNat len)), .val .null, .val (.ref s.heap.size)] [.ref s.heap.size, .ref a])) rfl (rest := []) rfl (hb hbytes d54)
  have c16 : Steps p.tables e below (s₁.setTop (entryFrame m #[.ref a, .ref b, .int (Int32.ofNat o), .int (Int32.ofNat len), .null] 6)) (T15.setTop (mkF m 57 #[.val (.ref a), .val (.ref b), .val (.int (Int32.ofNat o)), .val (.int (Int32.ofNat len)), .val .null, .val (.ref s.heap.size)] [])) := c14.trans (st15 _ (Steps.refl _))
  have ap := apart (Or.inr ⟨_, (wk W (.laysFinal "java/lang/String" "java/lang/String" "value" "[B"))⟩) (Or.inr ⟨_, (wk W (.laysFinal "java/lang/String" "java/lang/String" "coder" "B"))⟩) f1 f2 (t₁ := .array .byte) (t₂ := .byte) (by decide +kernel) (by decide +kernel) (by decide)
  have al := X8.warmed.alike.symm.trans X15.warmed.alike
  have n7 : T11.heap[s.heap.size]? = some N := by rw [q11]; exact n1.1
  exact ⟨T15, none, _, _, _, X15, by simp, rfl, by omega, (fun _ => rfl), ⟨rfl, _, N, bl15, ((Same.refl D _).set _ (by simp)).set _ (by simp), sl15, (Cell.slots_setSlot_ne _ ap).trans sl13, n1.keep al (p15.other hne (p13.other hne n7)), n2, by rw [al.findClass]; exact n3, n4, n5, fun y c h1 h2 => p15.other h1 (p13.other h1 (by rw [q11]; exact n6 y c h2)), by rw [p15.2.2, p13.2.2, q11]; exact z8⟩, fun fs hl => c16.trans (X15.returnOut hexec hret (hb hbytes d57) hl)⟩
end New4
namespace New1
def yN : MethodName := ⟨"java/lang/String", "<init>", "([C)V"⟩
abbrev yB : ByteArray := jdk_42_method_3_code
theorem d0 : decode yB 0 = .ok (.aload_n 0, 1) := by decide +kernel
theorem d1 : decode yB 1 = .ok (.aload_n 1, 1) := by decide +kernel
theorem d2 : decode yB 2 = .ok (.iconst 0, 1) := by decide +kernel
theorem d3 : decode yB 3 = .ok (.aload_n 1, 1) := by decide +kernel
theorem d4 : decode yB 4 = .ok (.arraylength, 1) := by decide +kernel
theorem d5 : decode yB 5 = .ok (.aconst_null, 1) := by decide +kernel
theorem d6 : decode yB 6 = .ok (.invokespecial 27, 3) := by decide +kernel
theorem d9 : decode yB 9 = .ok (.return_, 1) := by decide +kernel
def site : List Cond := [New4.tab] ++ initW "java/lang/String" 27 New4.yN
def tab : Cond := tabOf yN yB 2 none site
def P (a : Addr) (D : Cell) (fV fC : Field) (b : Addr) (A : Cell) (z : Int32) (args : Array Value) (s : State) : Prop := args = #[.ref a, .ref b] ∧ Blank "java/lang/String" a D s ∧ Found "java/lang/String" "value" "[B" fV s ∧ Found "java/lang/String" "coder" "B" fC s ∧ Ch b A s ∧ StaticIs s "java/lang/String" "COMPACT_STRINGS" "Z" (.int z) ∧ ¬ z = 0 ∧ 0 < A.slots.size ∧ A.slots.size ≤ 536870912 ∧ ∀ i, i < A.slots.size → ¬ 255 < cv A i
def E (a : Addr) (D : Cell) (fV fC : Field) (A : Cell) (r : Option Value) (s u : State) : Prop := Got a D fV fC A 0 A.slots.size r s u
theorem law (l : Launch) (a : Addr) (D : Cell) (fV fC : Field) (b : Addr) (A : Cell) (z : Int32) : Law l yN 2 1 3 52 yB 2 none site (P a D fV fC b A z) (E a D fV fC A) [⟨a, fC.slot⟩, ⟨a, fV.slot⟩] 1 A.slots.size := by
  refine Law.of_walk (plainFor_of_name (by decide +kernel)) (by decide +kernel) (by decide +kernel) (by decide) (fun _ _ h => by rw [h.1]; rfl) (fun _ U U' hal hh h => ⟨h.1, h.2.1.mv hal hh, h.2.2.1.al hal, h.2.2.2.1.al hal, h.2.2.2.2.1.mv hal hh, h.2.2.2.2.2.1.there hal hh, h.2.2.2.2.2.2⟩) (fun r U U' V V' h1 hal h2 h => Got.mv r U U' V V' h1 hal h2 h) ?_
  intro p e s m args below meth c s₁ X0 hexec hbytes hml hret hlk hnm hown hh0 W hP
  obtain ⟨rfl, hB, f1, f2, hA, s1, hz, l0, l2, hp⟩ := hP
  have c1 : Steps p.tables e below (s₁.setTop (entryFrame m #[.ref a, .ref b] 2)) (s₁.setTop (mkF m 0 #[.val (.ref a), .val (.ref b)] [])) := entry rfl
  have c2 : Steps p.tables e below (s₁.setTop (entryFrame m #[.ref a, .ref b] 2)) (s₁.setTop (mkF m 6 #[.val (.ref a), .val (.ref b)] [.null, .int (Int32.ofNat A.slots.size), .int 0, .ref b, .ref a])) := c1.trans (by
    refine XS.aloadN X0.here hexec rfl (hb hbytes d0) rfl rfl ?_
    refine XS.aloadN X0.here hexec rfl (hb hbytes d1) rfl rfl ?_
    refine iconstV X0.here hexec rfl 0 (hb hbytes d2) (by decide) ?_
    refine XS.aloadN X0.here hexec rfl (hb hbytes d3) rfl rfl ?_
    refine X0.alen hexec (hA.1.mv X0.warmed.alike hh0) rfl rfl (hb hbytes d4) ?_
    refine XS.aconstNull X0.here hexec rfl (hb hbytes d5) ?_
    exact Steps.refl _)
  obtain ⟨v3, T3, X3, E3, g3⟩ := X0.callN hexec (New4.law l a D fV fC b A z 0 A.slots.size) rfl hown (wks W (initW "java/lang/String" 27 New4.yN)) (W New4.tab (by simp only [site, List.mem_cons, List.mem_append, true_or, or_true])) (W := 0) (Nat.le_of_ble_eq_true rfl) (Nat.le_of_ble_eq_true rfl) (Nat.le_refl _) (by show 0 + A.slots.size ≤ A.slots.size; omega) (g := (mkF m 6 #[.val (.ref a), .val (.ref b)] [.null, .int (Int32.ofNat A.slots.size), .int (Int32.ofNat 0), .ref b, .ref a])) rfl (by rw [hml]; rfl) c2 (argsL := [.ref b, .int (Int32.ofNat 0), .int (Int32.ofNat A.slots.size), .null]) (rest := []) rfl rfl (by show 2 * 0 + 0 ≤ _; decide) (hb hbytes d6) (⟨rfl, hB.mv X0.warmed.alike hh0, f1.al X0.warmed.alike, f2.al X0.warmed.alike, hA.mv X0.warmed.alike hh0, s1.there X0.warmed.alike hh0, hz, l0, by omega, l2, fun i hi => by rw [Nat.zero_add]; exact hp i hi⟩)
  have e0 := Got.mv _ s₁ s _ _ hh0.symm (Vm.Alike.refl _) rfl E3
  obtain rfl := e0.1
  have c4 : Steps p.tables e below (s₁.setTop (entryFrame m #[.ref a, .ref b] 2)) (T3.setTop (mkF m 9 #[.val (.ref a), .val (.ref b)] [])) := g3
  exact ⟨T3, none, _, _, _, X3, by simp, rfl, by omega, (fun _ => rfl), e0, fun fs hl => c4.trans (X3.returnOut hexec hret (hb hbytes d9) hl)⟩
theorem pays {l : Launch} {R : Room} {p : Program} {e : Env} {below : List Frame} {s : State} {sargs : Array Value} {len W : Nat} (a : Addr) (D : Cell) (fV fC : Field) (b : Addr) (A : Cell) (z : Int32) (htab : tab.before sargs s = true) (hfr : 4 ≤ R.frames) (hlo : W + 65 ≤ R.locals) :
    Back l R p e below s sargs yN len W (fun A₁ a₁ => A₁.cells + 1 ≤ R.cells ∧ A₁.slots + A.slots.size ≤ R.slots ∧ P a D fV fC b A z a₁ A₁.U) (fun A₁ _ v₁ B₁ => E a D fV fC A v₁ A₁.U B₁.U ∧ B₁.locs = A₁.locs ++ [⟨a, fC.slot⟩, ⟨a, fV.slot⟩] ∧ B₁.cells = A₁.cells + 1 ∧ B₁.slots = A₁.slots + A.slots.size) :=
  (law l a D fV fC b A z).pays htab hfr (by omega)
end New1
end StrChars
namespace StrChars.Road
open Jvm Sem ClassFile Op Lib Jvm.Stand Jvm.Free Jvm.Free.XT
open Jvm.Lib.Cold (StaticIs)
abbrev ST : String := "java/lang/String"
abbrev words : List Jvm.Cond := [.code New1.yN New1.yB 2 none, .initialized ST, .methodLink ST 27 New4.yN, .instanceMethod New4.yN,
  .code New4.yN New4.yB 6 none, .fieldLink ST 38 ST "COMPACT_STRINGS" "Z", .laysFinal ST ST "value" "[B", .fieldLink ST 9 ST "value" "[B", .laysFinal ST ST "coder" "B", .fieldLink ST 15 ST "coder" "B",
  .methodLink ST 1 Lib.objectInit, .instanceMethod Lib.objectInit, .code Lib.objectInit ⟨#[0xb1]⟩ 1 none, .methodLink ST 177 Cmp3.yN, .static Cmp3.yN, .methodLink ST 47 CodL.yN, .static CodL.yN,
  .code Cmp3.yN Cmp3.yB 6 (some (.array .byte)), .initialized U16, .arrayClass .byte, .methodLink U16 115 Cmp5.yN, .static Cmp5.yN, .code Cmp5.yN Cmp5.yB 7 (some .int), .code CodL.yN CodL.yB 2 (some .byte)]
theorem tab_of {a : Array Value} {s : State} (h : ∀ w ∈ words, w.before a s = true) : New1.tab.before a s = true := by
  have h5 : Cmp5.tab.before a s = true := unparts (wk h (.code Cmp5.yN Cmp5.yB 7 (some .int))) (wks h (.initialized Cmp5.yN.cls :: Cmp5.site))
  have hc : CodL.tab.before a s = true := unparts (wk h (.code CodL.yN CodL.yB 2 (some .byte))) (wks h (.initialized CodL.yN.cls :: CodL.site))
  have q5 : ∀ w ∈ Cmp5.tab :: words, w.before a s = true := fun w hw => (List.mem_cons.mp hw).elim (fun e => e ▸ h5) (h w)
  have h3 : Cmp3.tab.before a s = true := unparts (wk q5 (.code Cmp3.yN Cmp3.yB 6 (some (.array .byte)))) (wks q5 (.initialized Cmp3.yN.cls :: Cmp3.site))
  have q3 : ∀ w ∈ Cmp3.tab :: CodL.tab :: words, w.before a s = true := fun w hw => (List.mem_cons.mp hw).elim (fun e => e ▸ h3) fun hw => (List.mem_cons.mp hw).elim (fun e => e ▸ hc) (h w)
  have h4 : New4.tab.before a s = true := unparts (wk q3 (.code New4.yN New4.yB 6 none)) (wks q3 (.initialized New4.yN.cls :: New4.site))
  have q4 : ∀ w ∈ New4.tab :: words, w.before a s = true := fun w hw => (List.mem_cons.mp hw).elim (fun e => e ▸ h4) (h w)
  exact unparts (wk q4 (.code New1.yN New1.yB 2 none)) (wks q4 (.initialized New1.yN.cls :: New1.site))
theorem moved {Z s : State} {a0 args : Array Value} (hZ : Z.Warmed39 s.vm) (hw : ∀ d ∈ words, d.before a0 Z = true) : ∀ d ∈ words, d.before args s = true := fun d hd => by
  have q := hw d hd
  have t : ∀ d ∈ words, d = .arrayClass .byte ∨ (d.onTables && d.keepsFace) = true := by decide +kernel
  rcases t d hd with rfl | t
  · exact RoadKit.mvA hZ q
  · exact RoadKit.mv hZ q t
def Q (Z : State) (x : Addr) (A : Cell) (h : Heap) (v : Option Value) (h' : Heap) (L : List Loc) : Prop := v = none ∧ (∀ y ∈ L, y.base = x) ∧ RoadKit.Keep h h' [x] ∧ h'.size = h.size + 1 ∧ RoadKit.Exa Z h' x ST ∧ RoadKit.Fld Z h' x ST "value" "[B" (.ref h.size) ∧ RoadKit.Fld Z h' x ST "coder" "B" (.int 0) ∧
  (∃ V : Cell, RoadKit.Arr Z h' h.size V .byte ∧ V.vm = .none ∧ Z.vm.findClass "[B" = some V.cls ∧ V.slots.size = A.slots.size ∧ ∀ j, j < A.slots.size → V.slots[j]? = some (.int (lo8 (cv A j)))) ∧
  ∀ (O n d : String) (w : Value), RoadKit.Fld Z h x O n d w → RoadKit.slotOf Z O n d ≠ RoadKit.slotOf Z ST "value" "[B" → RoadKit.slotOf Z O n d ≠ RoadKit.slotOf Z ST "coder" "B" → RoadKit.Fld Z h' x O n d w
theorem back {p : Program} {l : Launch} {e : Env} {R : Room} {s : State} {args : Array Value} {below : List Frame} {len W : Nat} {Z : State} {a0 : Array Value} {h : Heap} (hZ : Z.Warmed39 s.vm) (hw : ∀ d ∈ words, d.before a0 Z = true) {kI : Nat} (wi : (Jvm.Cond.instantiable ST kI).before a0 Z = true)
    {x b : Addr} {A : Cell} {z : Int32} {v0 c0 : Value} (E : RoadKit.Exa Z h x ST) (V : RoadKit.Fld Z h x ST "value" "[B" v0) (C : RoadKit.Fld Z h x ST "coder" "B" c0) (K : RoadKit.Arr Z h b A .char) (hty : Typed .char A) (S : RoadKit.Sta Z h ST "COMPACT_STRINGS" "Z" (.int z)) (hz : ¬ z = 0)
    (l0 : 0 < A.slots.size) (l2 : A.slots.size ≤ 536870912) (hp : ∀ i, i < A.slots.size → ¬ 255 < cv A i) (hfr : 4 ≤ R.frames) (hlo : W + 65 ≤ R.locals) :
    Back l R p e below s args New1.yN len W (fun P a => a = #[.ref x, .ref b] ∧ P.U.heap = h ∧ P.cells + 1 ≤ R.cells ∧ P.slots + A.slots.size ≤ R.slots)
      (fun P _ v B => ∃ L, Q Z x A h v B.U.heap L ∧ B.locs = P.locs ++ L ∧ B.cells = P.cells + 1 ∧ B.slots = P.slots + A.slots.size) := by
  intro m meth c P g ig mk a X hg hsize hdg hW hn hp'
  obtain ⟨rfl, rfl, r1, r2⟩ := hp'
  have al : Z.vm.Alike P.U.vm := hZ.alike.trans X.warmed.alike
  obtain ⟨D, cfV, kV, iV, fV, hD, gV, stV, knV, obV, asV, slV⟩ := id V
  obtain ⟨D', cfC, kC, iC, fC, hD', gC, stC, -, -, asC, slC⟩ := id C
  cases hD.symm.trans hD'
  obtain ⟨D2, kD, e1, e2, e3, e4, e5⟩ := id E
  cases hD.symm.trans e1
  obtain ⟨c2, k2, i1, i2, i3, -⟩ := Cond.instantiable_spec wi
  cases e2.symm.trans i1
  cases e3.symm.trans i2
  obtain ⟨kU, u1, u2⟩ := al.2.2 _ _ e3
  have hB : Blank ST x D P.U := ⟨hD, ⟨knV, fun q hq => by rw [hq] at obV; cases obV⟩, by rw [al.findClass]; exact e2, kU, u1, by rw [u2]; exact i3, by rw [u2]; exact e5 i3⟩
  have F1 : Found ST "value" "[B" fV P.U := ⟨SBG.found_only al ⟨cfV, kV, iV, gV⟩, stV⟩
  have F2 : Found ST "coder" "B" fC P.U := ⟨SBG.found_only al ⟨cfC, kC, iC, gC⟩, stC⟩
  have hA : Ch b A P.U := ⟨⟨K.1, State.isArrayOf_alike al K.2.1, K.2.2, by omega⟩, hty⟩
  have hS : StaticIs P.U ST "COMPACT_STRINGS" "Z" (.int z) := by
    obtain ⟨cfS, iS, kS, fS, st, cS, t1, t2, t3, t4, t5, t6, t7⟩ := S
    exact StaticIs.there (s := { Z with heap := P.U.heap }) ⟨cfS, iS, kS, fS, st, cS, t1, t2, t3, t4, t5, (fun q => by rw [q] at t6; cases t6), t7⟩ al rfl
  obtain ⟨v, B, X', ⟨⟨hv, E', V', q1, q2, q3, q4, q5, q6, q7, q8, q9, q10, q11⟩, hl, hc, hs⟩, st⟩ := New1.pays x D fV fC b A z (tab_of (moved hZ hw)) hfr hlo m meth c P g ig mk _ X hg hsize hdg hW hn ⟨r1, r2, rfl, hB, F1, F2, hA, hS, hz, l0, l2, hp⟩
  have al' : Z.vm.Alike B.U.vm := hZ.alike.trans X'.warmed.alike
  have hsz : E'.slots.size = D.slots.size := by
    obtain ⟨-, -, -, kB, w1, w2, w3⟩ := q1
    obtain ⟨kB', y1, y2⟩ := al'.2.2 _ _ e3
    rw [q2.2.1] at w1
    cases w1.symm.trans y1
    rw [w3, e5 i3, y2]
  refine ⟨v, B, X', ⟨_, ⟨hv, ?_, ⟨by omega, fun y cy hy hn' => q10 y cy (by simpa using hn') hy, fun y cy hy => ?_⟩, q11, ⟨E', _, q1.1, by rw [q2.2.1]; exact e2, by rw [q2.2.1]; exact e3, by rw [q2.1]; exact obV, fun _ => by rw [hsz]; exact e5 i3⟩,
    ⟨E', cfV, kV, iV, fV, q1.1, gV, stV, by rw [q2.1]; exact knV, by rw [q2.1]; exact obV, by rw [q2.2.1]; exact asV, q3⟩, ⟨E', cfC, kC, iC, fC, q1.1, gC, stC, by rw [q2.1]; exact knV, by rw [q2.1]; exact obV, by rw [q2.2.1]; exact asC, q4⟩,
    ⟨V', ⟨q5.1, State.isArrayOf_alike al'.symm q5.2.1, q5.2.2.1⟩, q6, by rw [← al'.findClass]; exact q7, q8, fun j hj => by have := q9 j hj; rwa [Nat.zero_add] at this⟩, fun O n d w F n1 n2 => ?_⟩, hl, hc, hs⟩, st⟩
  · intro y hy
    simp only [List.mem_cons, List.not_mem_nil, or_false] at hy
    rcases hy with rfl | rfl <;> rfl
  · by_cases q : y = x
    · subst q
      cases hD.symm.trans hy
      exact ⟨E', q1.1, q2.2.1, q2.1, hsz⟩
    · exact ⟨cy, q10 y cy q hy, rfl, rfl, rfl⟩
  · obtain ⟨D3, cf, k, i, f, g1, g2, g3, g4, g5, g6, g7⟩ := F
    cases hD.symm.trans g1
    simp only [RoadKit.slotOf, g2, gV, gC, Option.map_some, Option.getD_some] at n1 n2
    exact ⟨E', cf, k, i, f, q1.1, g2, g3, by rw [q2.1]; exact g4, by rw [q2.1]; exact g5, by rw [q2.2.1]; exact g6, by rw [q2.2.2 f.slot (by simp [n1, n2])]; exact g7⟩
end StrChars.Road
namespace StrChars.Road
open Jvm Sem ClassFile Op Lib Jvm.Stand Jvm.Free Jvm.Free.XT
def QA (Z : State) (x : Addr) (zn : Int32) (cs : List Int32) (h : Heap) (v : Option Value) (h' : Heap) (L : List Loc) : Prop := v = none ∧ (∀ y ∈ L, y.base = x) ∧ RoadKit.Keep h h' [x] ∧ h'.size = h.size + 1 ∧ RoadKit.Exa Z h' x ST ∧ RoadKit.Fld Z h' x ST "value" "[B" (.ref h.size) ∧ RoadKit.Fld Z h' x ST "coder" "B" (.int 0) ∧
  (∃ kb, Z.vm.findClass "[B" = some kb ∧ RoadKit.Arv Z h' h.size kb .byte zn (cs.map fun c => .int (lo8 c)) (.int 0)) ∧
  ∀ (O n d : String) (w : Value), RoadKit.Fld Z h x O n d w → RoadKit.slotOf Z O n d ≠ RoadKit.slotOf Z ST "value" "[B" → RoadKit.slotOf Z O n d ≠ RoadKit.slotOf Z ST "coder" "B" → RoadKit.Fld Z h' x O n d w
theorem backArv {p : Program} {l : Launch} {e : Env} {R : Room} {s : State} {args : Array Value} {below : List Frame} {len W : Nat} {Z : State} {a0 : Array Value} {h : Heap} (hZ : Z.Warmed39 s.vm) (hw : ∀ d ∈ words, d.before a0 Z = true) {kI : Nat} (wi : (Jvm.Cond.instantiable ST kI).before a0 Z = true)
    {x b : Addr} {k : ClassId} {zn z : Int32} {cs : List Int32} {dv v0 c0 : Value} (E : RoadKit.Exa Z h x ST) (V : RoadKit.Fld Z h x ST "value" "[B" v0) (C : RoadKit.Fld Z h x ST "coder" "B" c0) (K : RoadKit.Arv Z h b k .char zn (cs.map Value.int) dv) (S : RoadKit.Sta Z h ST "COMPACT_STRINGS" "Z" (.int z)) (hz : ¬ z = 0)
    (hlen : zn.toNatClampNeg = cs.length) (h0 : 0 < cs.length) (hbig : cs.length ≤ 536870912) (hall : ∀ c ∈ cs, ¬ 255 < c) (hfr : 4 ≤ R.frames) (hlo : W + 65 ≤ R.locals) :
    Back l R p e below s args New1.yN len W (fun P a => a = #[.ref x, .ref b] ∧ P.U.heap = h ∧ P.cells + 1 ≤ R.cells ∧ P.slots + cs.length ≤ R.slots)
      (fun P _ v B => ∃ L, QA Z x zn cs h v B.U.heap L ∧ B.locs = P.locs ++ L ∧ B.cells = P.cells + 1 ∧ B.slots = P.slots + cs.length) := by
  obtain ⟨A, K1, K2, K3, K4, K5, K6⟩ := K
  have e : A.slots.size = cs.length := K3.trans hlen
  have hat : ∀ (i : Nat) (hi : i < cs.length), A.slots[i]? = some (.int cs[i]) := fun i hi => by rw [K5 i (by omega)]; simp [List.getD_eq_getElem?_getD, hi]
  have hcv : ∀ (i : Nat) (hi : i < cs.length), cv A i = cs[i] := fun i hi => by unfold cv; rw [hat i hi]
  have hty : Typed .char A := fun i v hv => by
    have hi : i < A.slots.size := (Array.getElem?_eq_some_iff.mp hv).1
    have q := K5 i hi
    rw [hv] at q
    rw [Option.some.inj q]
    exact K6 i hi
  refine Back.mono (back hZ hw wi E V C K1 hty S hz (by omega) (by omega) (fun i hi => by rw [hcv i (by omega)]; exact hall _ (List.getElem_mem _)) hfr hlo) (fun P a hp => ⟨hp.1, hp.2.1, hp.2.2.1, by rw [e]; exact hp.2.2.2⟩) (fun P a v B hp hq => ?_)
  obtain ⟨L, ⟨q1, q2, q3, q4, q5, q6, q7, ⟨V', v1, v2, v3, v4, v5⟩, q9⟩, hl, hc, hs⟩ := hq
  refine ⟨L, ⟨q1, q2, q3, q4, q5, q6, q7, ⟨V'.cls, v3, V', v1, rfl, by rw [v4, e, hlen], K4, fun i hi => ?_, fun i hi => ?_⟩, q9⟩, hl, hc, by rw [hs, e]⟩
  · have hi' : i < cs.length := by omega
    rw [v5 i (by omega), hcv i hi']; simp [List.getD_eq_getElem?_getD, hi']
  · have hi' : i < cs.length := by omega
    simp only [List.getD_eq_getElem?_getD, List.getElem?_map, List.getElem?_eq_getElem hi', Option.map_some, Option.getD_some]
    exact fits_lo8 _
end StrChars.Road
namespace StrChars.Road
open Jvm Sem ClassFile Op Lib Jvm.Stand Jvm.Free Jvm.Free.XT
def QV (Z : State) (x : Addr) (N : Int32) (bs : List Int32) (h : Heap) (n0 : Nat) (v : Option Value) (h' : Heap) (L : List Loc) : Prop := v = none ∧ RoadKit.Fr n0 L ∧ RoadKit.Keep h h' [x] ∧ RoadKit.Exa Z h' x ST ∧ RoadKit.Fld Z h' x ST "coder" "B" (.int 0) ∧
  ∃ (t : Addr) (kb : ClassId), n0 ≤ t ∧ h.size ≤ t ∧ ¬ t = x ∧ RoadKit.Fld Z h' x ST "value" "[B" (.ref t) ∧ RoadKit.Arv Z h' t kb .byte N (bs.map Value.int) (.int 0)
theorem backV {p : Program} {l : Launch} {e : Env} {R : Room} {s : State} {args : Array Value} {below : List Frame} {len W : Nat} {Z : State} {a0 : Array Value} {h : Heap} (hZ : Z.Warmed39 s.vm) (hw : ∀ d ∈ words, d.before a0 Z = true) {kI : Nat} (wi : (Jvm.Cond.instantiable ST kI).before a0 Z = true)
    {x b : Addr} {kC : ClassId} {cs bs : List Int32} {d v0 c0 : Value} {z N : Int32} {n n0 : Nat} (hx0 : n0 ≤ x) (hh0 : n0 ≤ h.size) (E : RoadKit.Exa Z h x ST) (V : RoadKit.Fld Z h x ST "value" "[B" v0) (C : RoadKit.Fld Z h x ST "coder" "B" c0) (K : RoadKit.Arv Z h b kC .char N (cs.map Value.int) d) (S : RoadKit.Sta Z h ST "COMPACT_STRINGS" "Z" (.int z)) (hz : ¬ z = 0)
    (hn : cs.length = n) (hN : N = Int32.ofNat n) (l0 : 0 < n) (l2 : n ≤ 4000) (hp : ∀ c ∈ cs, ¬ c < 0 ∧ ¬ (255 : Int32) < c) (hb : bs = cs.map (fun c => c.toInt8.toInt32)) (hfr : 4 ≤ R.frames) (hlo : W + 65 ≤ R.locals) :
    Back l R p e below s args (⟨"java/lang/String", "<init>", "([C)V"⟩ : MethodName) len W (fun P a => a = #[.ref x, .ref b] ∧ P.U.heap = h ∧ P.cells + 1 ≤ R.cells ∧ P.slots + n ≤ R.slots)
      (fun P _ v B => ∃ L, QV Z x N bs h n0 v B.U.heap L ∧ B.locs = P.locs ++ L ∧ B.cells = P.cells + 1 ∧ B.slots = P.slots + n) := by
  subst hn hN hb
  refine Back.mono (backArv hZ hw wi E V C K S hz (n32 (by omega)) l0 (by omega) (fun c hc => (hp c hc).2) hfr hlo) (fun P a hp => hp) (fun P a v B hp hq => ?_)
  obtain ⟨L, ⟨q1, q2, q3, q4, q5, q6, q7, ⟨kb, v1, v2⟩, q9⟩, hl, hc, hs⟩ := hq
  exact ⟨L, ⟨q1, fun y hy => by rw [q2 y hy]; exact hx0, q3, q5, q7, h.size, kb, hh0, Nat.le_refl _, Nat.ne_of_gt E.lt, q6, by rw [List.map_map]; exact v2⟩, hl, hc, hs⟩
end StrChars.Road
end Jvm.Pilot.@@N@@
namespace Jvm.Pilot.@@N@@
open Jvm Jvm.ClassFile Sem Op Lib Jvm.Free Jvm.Stand Jvm.LawKit Jvm.RoadKit Bundle Jvm.Own Jvm.Pilot.@@N@@.Jvm.D
section Words
variable {Z : State} {a0 : Array Value}
theorem nb {a b : Nat} (h : Nat.ble a b = true) : a ≤ b := Nat.le_of_ble_eq_true h
abbrev HW (Z : State) (a0 : Array Value) : Prop := ∀ d ∈ tables_1, d.before a0 Z = true
abbrev BF (Z : State) (a0 : Array Value) (d : Jvm.Cond) : Prop := d.before a0 Z = true
theorem wd (hw : HW Z a0) (i : Nat) {d : Jvm.Cond} (h : tables_1[i]? = some d) : BF Z a0 d := hw _ (List.mem_of_getElem? h)
abbrev DE (b : ByteArray) (n : Nat) (i : Instr) (k : Nat) : Prop := decode b n = .ok (i, k)
abbrev DD (b : ByteArray) (L : List (Nat × Instr × Nat)) : Prop := ∀ (i : Nat) {n : Nat} {x : Instr} {k : Nat}, L[i]? = some (n, x, k) → decode b n = .ok (x, k)
def dq (b : ByteArray) (n : Nat) (x : Instr) (k : Nat) : Bool := decide (decode b n = .ok (x, k))
theorem dd {b : ByteArray} {L : List (Nat × Instr × Nat)} (h : L.all (fun t => dq b t.1 t.2.1 t.2.2) = true) : DD b L := fun i n x k e => of_decide_eq_true (List.all_eq_true.mp h (n, x, k) (List.mem_of_getElem? e))
theorem lT {a b c : Nat} (h : a ≤ b) (k : b ≤ c) : a ≤ c := Nat.le_trans h k
theorem lL {a b c : Nat} (h : a < b) (k : b ≤ c) : a < c := Nat.lt_of_lt_of_le h k
theorem nL {a b : Nat} (h : a < b) : a ≠ b := Nat.ne_of_lt h
theorem kR (h : Heap) (ws : List Addr) : Keep h h ws := Keep.refl h ws
theorem kT {h h' h'' : Heap} {ws vs : List Addr} (K : Keep h h' ws) (K' : Keep h' h'' vs) (q : ∀ x ∈ vs, x ∈ ws ∨ h.size ≤ x) : Keep h h'' ws := Keep.trans K K' q
theorem m0 {a : Addr} {r : List Addr} {P : Prop} : a ∈ a :: r ∨ P := Or.inl (.head _)
theorem m1 {a b : Addr} {r : List Addr} {P : Prop} : a ∈ b :: a :: r ∨ P := Or.inl (.tail _ (.head _))
def sDE (Z : State) : Addr := own_sa Z "java/util/ArrayList" "DEFAULTCAPACITY_EMPTY_ELEMENTDATA" "[Ljava/lang/Object;"
def sCI (Z : State) : Addr := own_sa Z "java/lang/CharacterDataLatin1" "instance" "Ljava/lang/CharacterDataLatin1;"
def sCA (Z : State) : Addr := own_sa Z "java/lang/CharacterDataLatin1" "A" "[I"
def sEM (Z : State) : Addr := own_sa Z "java/util/ImmutableCollections" "EMPTY" "Ljava/lang/Object;"
def sEL (Z : State) : Addr := own_sa Z "java/util/ImmutableCollections" "EMPTY_LIST" "Ljava/util/ImmutableCollections$ListN;"
def sEE (Z : State) : Addr := own_fa Z "java/util/ImmutableCollections" "EMPTY_LIST" "Ljava/util/ImmutableCollections$ListN;" "java/util/ImmutableCollections$ListN" "elements" "[Ljava/lang/Object;"
def sMO (Z : State) : Addr := own_ma Z "[Ljava/lang/Object;"
def own_tabI : List Int32 := [1207963663, 1207963663, 1207963663, 1207963663, 1207963663, 1207963663, 1207963663, 1207963663, 1207963663, 1476411407, 1342193679, 1476411407, 1610629135, 1342193679, 1207963663, 1207963663, 1207963663, 1207963663, 1207963663, 1207963663, 1207963663, 1207963663, 1207963663, 1207963663, 1207963663, 1207963663, 1207963663, 1207963663, 1342193679, 1342193679, 1342193679, 1476411407, 1610629132, 1744830488, 1744830488, 671088664, 671113242, 671088664, 1744830488, 1744830488, (-402653163), (-402653162), 1744830488, 536870937, 939524120, 536870932, 939524120, 939524120, 402667017, 402667017, 402667017, 402667017, 402667017, 402667017, 402667017, 402667017, 402667017, 402667017, 939524120, 1744830488, (-402653159), 1744830489, (-402653159), 1744830488, 1744830488, 8552417, 8552417, 8552417, 8552417, 8552417, 8552417, 8552417, 8552417, 8552417, 8552417, 8552417, 8552417, 8552417, 8552417, 8552417, 8552417, 8552417, 8552417, 8552417, 8552417, 8552417, 8552417, 8552417, 8552417, 8552417, 8552417, (-402653163), 1744830488, (-402653162), 1744830491, 1744850967, 1744830491, 8486882, 8486882, 8486882, 8486882, 8486882, 8486882, 8486882, 8486882, 8486882, 8486882, 8486882, 8486882, 8486882, 8486882, 8486882, 8486882, 8486882, 8486882, 8486882, 8486882, 8486882, 8486882, 8486882, 8486882, 8486882, 8486882, (-402653163), 1744830489, (-402653162), 1744830489, 1207963663, 1207963663, 1207963663, 1207963663, 1207963663, 1207963663, 1342181391, 1207963663, 1207963663, 1207963663, 1207963663, 1207963663, 1207963663, 1207963663, 1207963663, 1207963663, 1207963663, 1207963663, 1207963663, 1207963663, 1207963663, 1207963663, 1207963663, 1207963663, 1207963663, 1207963663, 1207963663, 1207963663, 1207963663, 1207963663, 1207963663, 1207963663, 1207963663, 939524108, 1744830488, 671113242, 671113242, 671113242, 671113242, 1744830492, 1744830488, 1744830491, 1744830492, 28677, (-402653155), 1744830489, 1207963664, 1744830492, 1744830491, 671088668, 671088665, 402654731, 402654731, 1744830491, 134049794, 1744830488, 1744830488, 1744830491, 402654475, 28677, (-402653154), 1744832523, 1744832523, 1744832523, 1744830488, 8548353, 8548353, 8548353, 8548353, 8548353, 8548353, 8548353, 8548353, 8548353, 8548353, 8548353, 8548353, 8548353, 8548353, 8548353, 8548353, 8548353, 8548353, 8548353, 8548353, 8548353, 8548353, 8548353, 1744830489, 8548353, 8548353, 8548353, 8548353, 8548353, 8548353, 8548353, 134049794, 8482818, 8482818, 8482818, 8482818, 8482818, 8482818, 8482818, 8482818, 8482818, 8482818, 8482818, 8482818, 8482818, 8482818, 8482818, 8482818, 8482818, 8482818, 8482818, 8482818, 8482818, 8482818, 8482818, 1744830489, 8482818, 8482818, 8482818, 8482818, 8482818, 8482818, 8482818, 102592514]
def own_tab : List Value := own_tabI.map Value.int
def own_nw (x : Int32) : Prop := (B8 x ∧ ¬ x = 32 ∧ ¬ x = 9) ∧ ¬ ((own_tabI.getD x.toNatClampNeg 0) &&& 28672) = 16384
def own_solid (cs : List Int32) : Prop := (0 < cs.length ∧ own_nw (cs.getD 0 0)) ∧ own_nw (cs.getD (cs.length - 1) 0)
def own_nwB (x : Int32) : Bool := decide (¬ x < 0) && decide (¬ (255 : Int32) < x) && decide (¬ x = 32) && decide (¬ x = 9) && decide (¬ ((own_tabI.getD x.toNatClampNeg 0) &&& 28672) = 16384)
theorem own_nwOf {x : Int32} (h : own_nwB x = true) : own_nw x := by
  simp only [own_nwB, Bool.and_eq_true, decide_eq_true_eq] at h
  exact ⟨⟨⟨h.1.1.1.1, h.1.1.1.2⟩, h.1.1.2, h.1.2⟩, h.2⟩
theorem own_solidOf {cs : List Int32} (h0 : 0 < cs.length) (h1 : own_nwB (cs.getD 0 0) = true) (h2 : own_nwB (cs.getD (cs.length - 1) 0) = true) : own_solid cs := ⟨⟨h0, own_nwOf h1⟩, own_nwOf h2⟩
theorem own_b8lt {x : Int32} (h : B8 x) : x < 256 := by
  have := h.2; rw [Int32.lt_iff_toInt_lt] at this ⊢; show x.toInt < 256; have h2 : ¬ (255 : Int) < x.toInt := this; omega
def own_low (x : Int32) : Prop := B8 x ∧ ¬ x < 65 ∧ (90 : Int32) < x
theorem own_low0 {x : Int32} (h : own_low x) : ¬ x = (0 : Int32) := fun q => h.2.1 (q ▸ by decide)
theorem pn_537472696e67_11 : plainName "java/lang/String" = true := by first | (simp [plainName, overriddenIn]; done) | decide +kernel
theorem W28 (hw : HW Z a0) : BF Z a0 (.fieldLink "java/lang/String" (9 : Nat) "java/lang/String" "value" "[B") := wd hw 28 rfl
theorem pd_282942 : parseMethodDescriptor "()B" = some ⟨[], (some .byte)⟩ := by decide +kernel
theorem W3 (hw : HW Z a0) : BF Z a0 (.initialized "java/lang/String") := wd hw 3 rfl
theorem W364 (hw : HW Z a0) : BF Z a0 (.fieldLink "java/lang/AbstractStringBuilder" (22 : Nat) "java/lang/AbstractStringBuilder" "coder" "B") := wd hw 364 rfl
theorem pn_75696c646572_6 : plainName "java/lang/AbstractStringBuilder" = true := by first | (simp [plainName, overriddenIn]; done) | decide +kernel
theorem pd_45 : parseMethodDescriptor "(Ljava/lang/String;)V" = some ⟨[(.object "java/lang/String")], none⟩ := by decide +kernel
theorem W383 (hw : HW Z a0) : BF Z a0 (.selects "java/lang/StringBuilder" ⟨"java/lang/AbstractStringBuilder", "ensureCapacityInternal", "(I)V"⟩ ⟨"java/lang/AbstractStringBuilder", "ensureCapacityInternal", "(I)V"⟩) := wd hw 383 rfl
theorem W381 (hw : HW Z a0) : BF Z a0 (.instanceMethod ⟨"java/lang/AbstractStringBuilder", "ensureCapacityInternal", "(I)V"⟩) := wd hw 381 rfl
theorem W358 (hw : HW Z a0) : BF Z a0 (.initialized "java/lang/AbstractStringBuilder") := wd hw 358 rfl
theorem W362 (hw : HW Z a0) : BF Z a0 (.fieldLink "java/lang/AbstractStringBuilder" (15 : Nat) "java/lang/AbstractStringBuilder" "value" "[B") := wd hw 362 rfl
theorem pd_285b4249422956 : parseMethodDescriptor "([BIB)V" = some ⟨[(.array .byte), .int, .byte], none⟩ := by decide +kernel
theorem pd_2849492949 : parseMethodDescriptor "(II)I" = some ⟨[.int, .int], (some .int)⟩ := by decide +kernel
theorem W87 (hw : HW Z a0) : BF Z a0 (.initialized "java/lang/Math") := wd hw 87 rfl
theorem pn_7570706f7274_30 : plainName "jdk/internal/util/ArraysSupport" = true := by first | (simp [plainName, overriddenIn]; done) | decide +kernel
theorem pd_284949492949 : parseMethodDescriptor "(III)I" = some ⟨[.int, .int, .int], (some .int)⟩ := by decide +kernel
theorem W19 (hw : HW Z a0) : BF Z a0 (.arrayClass Jvm.ClassFile.FieldType.byte) := wd hw 19 rfl
theorem pn_417272617973_19 : plainName "java/util/Arrays" = true := by first | (simp [plainName, overriddenIn]; done) | decide +kernel
theorem pd_28492949 : parseMethodDescriptor "(I)I" = some ⟨[.int], (some .int)⟩ := by decide +kernel
theorem pd_285b4249295b42 : parseMethodDescriptor "([BI)[B" = some ⟨[(.array .byte), .int], (some (.array .byte))⟩ := by decide +kernel
theorem W232 (hw : HW Z a0) : BF Z a0 (.initialized "java/util/Arrays") := wd hw 232 rfl
theorem W363 (hw : HW Z a0) : BF Z a0 (.lays "java/lang/StringBuilder" "java/lang/AbstractStringBuilder" "value" "[B") := wd hw 363 rfl
theorem W349 (hw : HW Z a0) : BF Z a0 (.instantiable "java/lang/StringBuilder" (4 : Nat)) := wd hw 349 rfl
theorem W365 (hw : HW Z a0) : BF Z a0 (.lays "java/lang/StringBuilder" "java/lang/AbstractStringBuilder" "coder" "B") := wd hw 365 rfl
theorem W379 (hw : HW Z a0) : BF Z a0 (.lays "java/lang/StringBuilder" "java/lang/AbstractStringBuilder" "count" "I") := wd hw 379 rfl
theorem pd_282949 : parseMethodDescriptor "()I" = some ⟨[], (some .int)⟩ := by decide +kernel
theorem W150 (hw : HW Z a0) : BF Z a0 (.declares ⟨"java/lang/String", "length", "()I"⟩) := wd hw 150 rfl
theorem W152 (hw : HW Z a0) : BF Z a0 (.selects "java/lang/String" ⟨"java/lang/String", "length", "()I"⟩ ⟨"java/lang/String", "length", "()I"⟩) := wd hw 152 rfl
theorem W151 (hw : HW Z a0) : BF Z a0 (.instanceMethod ⟨"java/lang/String", "length", "()I"⟩) := wd hw 151 rfl
theorem W153 (hw : HW Z a0) : BF Z a0 (.code ⟨"java/lang/String", "length", "()I"⟩ jdk_42_method_54_code (1 : Nat) (Option.some Jvm.ClassFile.FieldType.int)) := wd hw 153 rfl
theorem W378 (hw : HW Z a0) : BF Z a0 (.fieldLink "java/lang/AbstractStringBuilder" (79 : Nat) "java/lang/AbstractStringBuilder" "count" "I") := wd hw 378 rfl
theorem pd_28492956 : parseMethodDescriptor "(I)V" = some ⟨[.int], none⟩ := by decide +kernel
theorem pd_31 : parseMethodDescriptor "(ILjava/lang/String;)V" = some ⟨[.int, (.object "java/lang/String")], none⟩ := by decide +kernel
theorem pd_42 : parseMethodDescriptor "(Ljava/lang/String;)Ljava/lang/AbstractStringBuilder;" = some ⟨[(.object "java/lang/String")], (some (.object "java/lang/AbstractStringBuilder"))⟩ := by decide +kernel
theorem pn_75696c646572_12 : plainName "java/lang/StringBuilder" = true := by first | (simp [plainName, overriddenIn]; done) | decide +kernel
theorem W12 (hw : HW Z a0) : BF Z a0 (.instanceMethod ⟨"java/lang/Object", "<init>", "()V"⟩) := wd hw 12 rfl
theorem W13 (hw : HW Z a0) : BF Z a0 (.code ⟨"java/lang/Object", "<init>", "()V"⟩ object_method_1_code (1 : Nat) (Option.none : Option Jvm.ClassFile.FieldType)) := wd hw 13 rfl
theorem pd_2849492956 : parseMethodDescriptor "(II)V" = some ⟨[.int, .int], none⟩ := by decide +kernel
theorem pd_285b424949295b42 : parseMethodDescriptor "([BII)[B" = some ⟨[(.array .byte), .int, .int], (some (.array .byte))⟩ := by decide +kernel
theorem pd_28295b42 : parseMethodDescriptor "()[B" = some ⟨[], (some (.array .byte))⟩ := by decide +kernel
theorem W350 (hw : HW Z a0) : BF Z a0 (.initialized "java/lang/StringBuilder") := wd hw 350 rfl
theorem pd_28295a : parseMethodDescriptor "()Z" = some ⟨[], (some .boolean)⟩ := by decide +kernel
theorem W27 (hw : HW Z a0) : BF Z a0 (.laysFinal "java/lang/String" "java/lang/String" "coder" "B") := wd hw 27 rfl
theorem W2 (hw : HW Z a0) : BF Z a0 (.instantiable "java/lang/String" (4 : Nat)) := wd hw 2 rfl
theorem W29 (hw : HW Z a0) : BF Z a0 (.laysFinal "java/lang/String" "java/lang/String" "value" "[B") := wd hw 29 rfl
theorem pd_32 : parseMethodDescriptor "(Ljava/lang/AbstractStringBuilder;Ljava/lang/Void;)V" = some ⟨[(.object "java/lang/AbstractStringBuilder"), (.object "java/lang/Void")], none⟩ := by decide +kernel
theorem pd_51 : parseMethodDescriptor "(Ljava/lang/StringBuilder;)V" = some ⟨[(.object "java/lang/StringBuilder")], none⟩ := by decide +kernel
theorem pn_4c6174696e31_13 : plainName "java/lang/StringLatin1" = true := by first | (simp [plainName, overriddenIn]; done) | decide +kernel
theorem pn_4c6174696e31_7 : plainName "java/lang/CharacterDataLatin1" = true := by first | (simp [plainName, overriddenIn]; done) | decide +kernel
theorem pd_285b42492943 : parseMethodDescriptor "([BI)C" = some ⟨[(.array .byte), .int], (some .char)⟩ := by decide +kernel
theorem W131 (hw : HW Z a0) : BF Z a0 (.initialized "java/lang/StringLatin1") := wd hw 131 rfl
theorem pd_2849295a : parseMethodDescriptor "(I)Z" = some ⟨[.int], (some .boolean)⟩ := by decide +kernel
theorem pd_285b422949 : parseMethodDescriptor "([B)I" = some ⟨[(.array .byte)], (some .int)⟩ := by decide +kernel
theorem W127 (hw : HW Z a0) : BF Z a0 (.selects "java/lang/String" ⟨"java/lang/String", "isLatin1", "()Z"⟩ ⟨"java/lang/String", "isLatin1", "()Z"⟩) := wd hw 127 rfl
theorem pd_56 : parseMethodDescriptor "([B)Ljava/lang/String;" = some ⟨[(.array .byte)], (some (.object "java/lang/String"))⟩ := by decide +kernel
theorem pd_5 : parseMethodDescriptor "()Ljava/lang/String;" = some ⟨[], (some (.object "java/lang/String"))⟩ := by decide +kernel
theorem pd_37 : parseMethodDescriptor "(Ljava/lang/Object;)Z" = some ⟨[(.object "java/lang/Object")], (some .boolean)⟩ := by decide +kernel
theorem pn_696669657273_5 : plainName "com/example/dique/dique/util/Identifiers" = true := by first | (simp [plainName, overriddenIn]; done) | decide +kernel
theorem pn_6974696f6e73_31 : plainName "jdk/internal/util/Preconditions" = true := by first | (simp [plainName, overriddenIn]; done) | decide +kernel
theorem pd_27 : parseMethodDescriptor "(IILjava/util/function/BiFunction;)I" = some ⟨[.int, .int, (.object "java/util/function/BiFunction")], (some .int)⟩ := by decide +kernel
theorem pd_2843295a : parseMethodDescriptor "(C)Z" = some ⟨[.char], (some .boolean)⟩ := by decide +kernel
theorem pd_14 : parseMethodDescriptor "(C)Ljava/lang/AbstractStringBuilder;" = some ⟨[.char], (some (.object "java/lang/AbstractStringBuilder"))⟩ := by decide +kernel
theorem W602 (hw : HW Z a0) : BF Z a0 (.lays "java/lang/String" "java/lang/String" "hash" "I") := wd hw 602 rfl
theorem pd_28492943 : parseMethodDescriptor "(I)C" = some ⟨[.int], (some .char)⟩ := by decide +kernel
theorem pd_28432943 : parseMethodDescriptor "(C)C" = some ⟨[.char], (some .char)⟩ := by decide +kernel
theorem W112 (hw : HW Z a0) : BF Z a0 (.initialized "com/example/dique/dique/util/Identifiers") := wd hw 112 rfl
theorem pd_15 : parseMethodDescriptor "(C)Ljava/lang/StringBuilder;" = some ⟨[.char], (some (.object "java/lang/StringBuilder"))⟩ := by decide +kernel
theorem W418 (hw : HW Z a0) : BF Z a0 (.declares ⟨"java/lang/StringBuilder", "toString", "()Ljava/lang/String;"⟩) := wd hw 418 rfl
theorem W420 (hw : HW Z a0) : BF Z a0 (.selects "java/lang/StringBuilder" ⟨"java/lang/StringBuilder", "toString", "()Ljava/lang/String;"⟩ ⟨"java/lang/StringBuilder", "toString", "()Ljava/lang/String;"⟩) := wd hw 420 rfl
theorem W419 (hw : HW Z a0) : BF Z a0 (.instanceMethod ⟨"java/lang/StringBuilder", "toString", "()Ljava/lang/String;"⟩) := wd hw 419 rfl
theorem W421 (hw : HW Z a0) : BF Z a0 (.code ⟨"java/lang/StringBuilder", "toString", "()Ljava/lang/String;"⟩ jdk_67_method_42_code (1 : Nat) (Option.some (Jvm.ClassFile.FieldType.object "java/lang/String"))) := wd hw 421 rfl
theorem pn_6173684d6170_20 : plainName "java/util/HashMap" = true := by first | (simp [plainName, overriddenIn]; done) | decide +kernel
theorem W35 (hw : HW Z a0) : BF Z a0 (.instantiable "java/util/ArrayList" (3 : Nat)) := wd hw 35 rfl
theorem W36 (hw : HW Z a0) : BF Z a0 (.initialized "java/util/ArrayList") := wd hw 36 rfl
theorem W54 (hw : HW Z a0) : BF Z a0 (.lays "java/util/ArrayList" "java/util/AbstractList" "modCount" "I") := wd hw 54 rfl
theorem W57 (hw : HW Z a0) : BF Z a0 (.lays "java/util/ArrayList" "java/util/ArrayList" "elementData" "[Ljava/lang/Object;") := wd hw 57 rfl
theorem W69 (hw : HW Z a0) : BF Z a0 (.lays "java/util/ArrayList" "java/util/ArrayList" "size" "I") := wd hw 69 rfl
theorem pn_656374696f6e_15 : plainName "java/util/AbstractCollection" = true := by first | (simp [plainName, overriddenIn]; done) | decide +kernel
theorem pd_282956 : parseMethodDescriptor "()V" = some ⟨[], none⟩ := by decide +kernel
theorem pn_63744c697374_16 : plainName "java/util/AbstractList" = true := by first | (simp [plainName, overriddenIn]; done) | decide +kernel
theorem W56 (hw : HW Z a0) : BF Z a0 (.fieldLink "java/util/ArrayList" (9 : Nat) "java/util/ArrayList" "elementData" "[Ljava/lang/Object;") := wd hw 56 rfl
theorem pn_61794c697374_18 : plainName "java/util/ArrayList" = true := by first | (simp [plainName, overriddenIn]; done) | decide +kernel
theorem W58 (hw : HW Z a0) : BF Z a0 (.stringLink "com/example/dique/dique/query/TableRefIsFactPinLaw" (10 : Nat) "c") := wd hw 58 rfl
theorem W68 (hw : HW Z a0) : BF Z a0 (.fieldLink "java/util/ArrayList" (48 : Nat) "java/util/ArrayList" "size" "I") := wd hw 68 rfl
theorem pd_22 : parseMethodDescriptor "(I)[Ljava/lang/Object;" = some ⟨[.int], (some (.array (.object "java/lang/Object")))⟩ := by decide +kernel
theorem W64 (hw : HW Z a0) : BF Z a0 (.selects "java/util/ArrayList" ⟨"java/util/ArrayList", "add", "(Ljava/lang/Object;)Z"⟩ ⟨"java/util/ArrayList", "add", "(Ljava/lang/Object;)Z"⟩) := wd hw 64 rfl
theorem W63 (hw : HW Z a0) : BF Z a0 (.instanceMethod ⟨"java/util/ArrayList", "add", "(Ljava/lang/Object;)Z"⟩) := wd hw 63 rfl
theorem pd_11 : parseMethodDescriptor "()[Ljava/lang/Object;" = some ⟨[], (some (.array (.object "java/lang/Object")))⟩ := by decide +kernel
theorem pd_41 : parseMethodDescriptor "(Ljava/lang/Object;[Ljava/lang/Object;I)V" = some ⟨[(.object "java/lang/Object"), (.array (.object "java/lang/Object")), .int], none⟩ := by decide +kernel
theorem W95 (hw : HW Z a0) : BF Z a0 (.stringLink "com/example/dique/dique/query/TableRefIsFactPinLaw" (18 : Nat) "l") := wd hw 95 rfl
theorem pn_5265636f7264_10 : plainName "java/lang/Record" = true := by first | (simp [plainName, overriddenIn]; done) | decide +kernel
theorem W105 (hw : HW Z a0) : BF Z a0 (.stringLink "com/example/dique/dique/model/Level" (7 : Nat) "level name") := wd hw 105 rfl
theorem pd_47 : parseMethodDescriptor "(Ljava/lang/String;Ljava/lang/String;)V" = some ⟨[(.object "java/lang/String"), (.object "java/lang/String")], none⟩ := by decide +kernel
theorem pd_285b424949492949 : parseMethodDescriptor "([BIII)I" = some ⟨[(.array .byte), .int, .int, .int], (some .int)⟩ := by decide +kernel
theorem pn_2f4e616d6573_2 : plainName "com/example/dique/dique/model/Names" = true := by first | (simp [plainName, overriddenIn]; done) | decide +kernel
theorem W108 (hw : HW Z a0) : BF Z a0 (.initialized "com/example/dique/dique/model/Names") := wd hw 108 rfl
theorem W254 (hw : HW Z a0) : BF Z a0 (.instantiable "java/util/ImmutableCollections$List12" (2 : Nat)) := wd hw 254 rfl
theorem W211 (hw : HW Z a0) : BF Z a0 (.noSuperclass "java/lang/Object") := wd hw 211 rfl
theorem W208 (hw : HW Z a0) : BF Z a0 (.superclass "java/util/ArrayList" "java/util/AbstractList") := wd hw 208 rfl
theorem W667 (hw : HW Z a0) : BF Z a0 (.selects "java/util/ImmutableCollections$ListN" ⟨"java/util/ImmutableCollections$AbstractImmutableList", "size", "()I"⟩ ⟨"java/util/ImmutableCollections$ListN", "size", "()I"⟩) := wd hw 667 rfl
theorem pd_69 : parseMethodDescriptor "([Ljava/lang/Object;ILjava/lang/Class;)[Ljava/lang/Object;" = some ⟨[(.array (.object "java/lang/Object")), .int, (.object "java/lang/Class")], (some (.array (.object "java/lang/Object")))⟩ := by decide +kernel
theorem pd_68 : parseMethodDescriptor "([Ljava/lang/Object;I)[Ljava/lang/Object;" = some ⟨[(.array (.object "java/lang/Object")), .int], (some (.array (.object "java/lang/Object")))⟩ := by decide +kernel
theorem W255 (hw : HW Z a0) : BF Z a0 (.initialized "java/util/ImmutableCollections$List12") := wd hw 255 rfl
theorem pn_656374696f6e_23 : plainName "java/util/ImmutableCollections$AbstractImmutableCollection" = true := by first | (simp [plainName, overriddenIn]; done) | decide +kernel
theorem pn_6c654c697374_24 : plainName "java/util/ImmutableCollections$AbstractImmutableList" = true := by first | (simp [plainName, overriddenIn]; done) | decide +kernel
theorem pn_626a65637473_29 : plainName "java/util/Objects" = true := by first | (simp [plainName, overriddenIn]; done) | decide +kernel
theorem pd_34 : parseMethodDescriptor "(Ljava/lang/Object;)Ljava/lang/Object;" = some ⟨[(.object "java/lang/Object")], (some (.object "java/lang/Object"))⟩ := by decide +kernel
theorem pn_4c6973743132_25 : plainName "java/util/ImmutableCollections$List12" = true := by first | (simp [plainName, overriddenIn]; done) | decide +kernel
theorem pd_36 : parseMethodDescriptor "(Ljava/lang/Object;)V" = some ⟨[(.object "java/lang/Object")], none⟩ := by decide +kernel
theorem pn_6c2f4c697374_28 : plainName "java/util/List" = true := by first | (simp [plainName, overriddenIn]; done) | decide +kernel
theorem pd_67 : parseMethodDescriptor "([Ljava/lang/Object;)Ljava/util/List;" = some ⟨[(.array (.object "java/lang/Object"))], (some (.object "java/util/List"))⟩ := by decide +kernel
theorem pn_6374696f6e73_22 : plainName "java/util/ImmutableCollections" = true := by first | (simp [plainName, overriddenIn]; done) | decide +kernel
theorem pd_52 : parseMethodDescriptor "(Ljava/util/Collection;)Ljava/util/List;" = some ⟨[(.object "java/util/Collection")], (some (.object "java/util/List"))⟩ := by decide +kernel
theorem W290 (hw : HW Z a0) : BF Z a0 (.castable "java/util/ImmutableCollections$List12" "java/util/List") := wd hw 290 rfl
theorem W301 (hw : HW Z a0) : BF Z a0 (.instantiable "java/util/ImmutableCollections$ListItr" (4 : Nat)) := wd hw 301 rfl
theorem W302 (hw : HW Z a0) : BF Z a0 (.initialized "java/util/ImmutableCollections$ListItr") := wd hw 302 rfl
theorem W315 (hw : HW Z a0) : BF Z a0 (.laysFinal "java/util/ImmutableCollections$ListItr" "java/util/ImmutableCollections$ListItr" "list" "Ljava/util/List;") := wd hw 315 rfl
theorem W317 (hw : HW Z a0) : BF Z a0 (.laysFinal "java/util/ImmutableCollections$ListItr" "java/util/ImmutableCollections$ListItr" "size" "I") := wd hw 317 rfl
theorem W319 (hw : HW Z a0) : BF Z a0 (.lays "java/util/ImmutableCollections$ListItr" "java/util/ImmutableCollections$ListItr" "cursor" "I") := wd hw 319 rfl
theorem W321 (hw : HW Z a0) : BF Z a0 (.laysFinal "java/util/ImmutableCollections$ListItr" "java/util/ImmutableCollections$ListItr" "isListIterator" "Z") := wd hw 321 rfl
theorem W318 (hw : HW Z a0) : BF Z a0 (.fieldLink "java/util/ImmutableCollections$ListItr" (17 : Nat) "java/util/ImmutableCollections$ListItr" "cursor" "I") := wd hw 318 rfl
theorem pn_697374497472_26 : plainName "java/util/ImmutableCollections$ListItr" = true := by first | (simp [plainName, overriddenIn]; done) | decide +kernel
theorem pd_53 : parseMethodDescriptor "(Ljava/util/List;I)V" = some ⟨[(.object "java/util/List"), .int], none⟩ := by decide +kernel
theorem pd_6 : parseMethodDescriptor "()Ljava/util/Iterator;" = some ⟨[], (some (.object "java/util/Iterator"))⟩ := by decide +kernel
theorem W323 (hw : HW Z a0) : BF Z a0 (.declares ⟨"java/util/Iterator", "hasNext", "()Z"⟩) := wd hw 323 rfl
theorem W324 (hw : HW Z a0) : BF Z a0 (.interfaceMethod "java/util/Iterator" "java/util/Iterator" "hasNext" "()Z") := wd hw 324 rfl
theorem W325 (hw : HW Z a0) : BF Z a0 (.selects "java/util/ImmutableCollections$ListItr" ⟨"java/util/Iterator", "hasNext", "()Z"⟩ ⟨"java/util/ImmutableCollections$ListItr", "hasNext", "()Z"⟩) := wd hw 325 rfl
theorem W326 (hw : HW Z a0) : BF Z a0 (.instanceMethod ⟨"java/util/ImmutableCollections$ListItr", "hasNext", "()Z"⟩) := wd hw 326 rfl
theorem W327 (hw : HW Z a0) : BF Z a0 (.publicMethod ⟨"java/util/ImmutableCollections$ListItr", "hasNext", "()Z"⟩) := wd hw 327 rfl
theorem W328 (hw : HW Z a0) : BF Z a0 (.unhidden "java/util/ImmutableCollections$ListItr" "hasNext" "()Z") := wd hw 328 rfl
theorem W329 (hw : HW Z a0) : BF Z a0 (.castable "java/util/ImmutableCollections$ListItr" "java/util/Iterator") := wd hw 329 rfl
theorem W330 (hw : HW Z a0) : BF Z a0 (.code ⟨"java/util/ImmutableCollections$ListItr", "hasNext", "()Z"⟩ jdk_53_method_3_code (1 : Nat) (Option.some Jvm.ClassFile.FieldType.boolean)) := wd hw 330 rfl
theorem pd_19 : parseMethodDescriptor "(I)Ljava/lang/Object;" = some ⟨[.int], (some (.object "java/lang/Object"))⟩ := by decide +kernel
theorem pd_4 : parseMethodDescriptor "()Ljava/lang/Object;" = some ⟨[], (some (.object "java/lang/Object"))⟩ := by decide +kernel
theorem W366 (hw : HW Z a0) : BF Z a0 (.stringLink "com/example/dique/dique/model/Level" (60 : Nat) "a column of level ") := wd hw 366 rfl
theorem pd_44 : parseMethodDescriptor "(Ljava/lang/String;)Ljava/lang/StringBuilder;" = some ⟨[(.object "java/lang/String")], (some (.object "java/lang/StringBuilder"))⟩ := by decide +kernel
theorem W368 (hw : HW Z a0) : BF Z a0 (.declares ⟨"java/lang/StringBuilder", "append", "(Ljava/lang/String;)Ljava/lang/StringBuilder;"⟩) := wd hw 368 rfl
theorem W370 (hw : HW Z a0) : BF Z a0 (.selects "java/lang/StringBuilder" ⟨"java/lang/StringBuilder", "append", "(Ljava/lang/String;)Ljava/lang/StringBuilder;"⟩ ⟨"java/lang/StringBuilder", "append", "(Ljava/lang/String;)Ljava/lang/StringBuilder;"⟩) := wd hw 370 rfl
theorem W369 (hw : HW Z a0) : BF Z a0 (.instanceMethod ⟨"java/lang/StringBuilder", "append", "(Ljava/lang/String;)Ljava/lang/StringBuilder;"⟩) := wd hw 369 rfl
theorem W371 (hw : HW Z a0) : BF Z a0 (.code ⟨"java/lang/StringBuilder", "append", "(Ljava/lang/String;)Ljava/lang/StringBuilder;"⟩ jdk_67_method_7_code (2 : Nat) (Option.some (Jvm.ClassFile.FieldType.object "java/lang/StringBuilder"))) := wd hw 371 rfl
theorem pn_2f4c6576656c_1 : plainName "com/example/dique/dique/model/Level" = true := by first | (simp [plainName, overriddenIn]; done) | decide +kernel
theorem pd_50 : parseMethodDescriptor "(Ljava/lang/String;Ljava/util/List;)V" = some ⟨[(.object "java/lang/String"), (.object "java/util/List")], none⟩ := by decide +kernel
theorem W463 (hw : HW Z a0) : BF Z a0 (.instantiable "com/example/dique/dique/model/Dimension" (6 : Nat)) := wd hw 463 rfl
theorem W465 (hw : HW Z a0) : BF Z a0 (.stringLink "com/example/dique/dique/query/TableRefIsFactPinLaw" (25 : Nat) "d") := wd hw 465 rfl
theorem W466 (hw : HW Z a0) : BF Z a0 (.stringLink "com/example/dique/dique/query/TableRefIsFactPinLaw" (27 : Nat) "t") := wd hw 466 rfl
theorem W467 (hw : HW Z a0) : BF Z a0 (.stringLink "com/example/dique/dique/query/TableRefIsFactPinLaw" (29 : Nat) "k") := wd hw 467 rfl
theorem W468 (hw : HW Z a0) : BF Z a0 (.stringLink "com/example/dique/dique/query/TableRefIsFactPinLaw" (31 : Nat) "fk") := wd hw 468 rfl
theorem W693 (hw : HW Z a0) : BF Z a0 (.laysFinal "com/example/dique/dique/model/Dimension" "com/example/dique/dique/model/Dimension" "name" "Ljava/lang/String;") := wd hw 693 rfl
theorem W695 (hw : HW Z a0) : BF Z a0 (.laysFinal "com/example/dique/dique/model/Dimension" "com/example/dique/dique/model/Dimension" "table" "Ljava/lang/String;") := wd hw 695 rfl
theorem W697 (hw : HW Z a0) : BF Z a0 (.laysFinal "com/example/dique/dique/model/Dimension" "com/example/dique/dique/model/Dimension" "key" "Ljava/lang/String;") := wd hw 697 rfl
theorem W699 (hw : HW Z a0) : BF Z a0 (.laysFinal "com/example/dique/dique/model/Dimension" "com/example/dique/dique/model/Dimension" "foreignKey" "Ljava/lang/String;") := wd hw 699 rfl
theorem W701 (hw : HW Z a0) : BF Z a0 (.laysFinal "com/example/dique/dique/model/Dimension" "com/example/dique/dique/model/Dimension" "levels" "Ljava/util/List;") := wd hw 701 rfl
theorem W703 (hw : HW Z a0) : BF Z a0 (.laysFinal "com/example/dique/dique/model/Dimension" "com/example/dique/dique/model/Dimension" "attributes" "Ljava/util/List;") := wd hw 703 rfl
theorem W473 (hw : HW Z a0) : BF Z a0 (.stringLink "com/example/dique/dique/model/Dimension" (7 : Nat) "dimension name") := wd hw 473 rfl
theorem W477 (hw : HW Z a0) : BF Z a0 (.stringLink "com/example/dique/dique/model/Dimension" (18 : Nat) "the table of dimension ") := wd hw 477 rfl
theorem W478 (hw : HW Z a0) : BF Z a0 (.methodLink "com/example/dique/dique/model/Dimension" (20 : Nat) ⟨"java/lang/StringBuilder", "append", "(Ljava/lang/String;)Ljava/lang/StringBuilder;"⟩) := wd hw 478 rfl
theorem W481 (hw : HW Z a0) : BF Z a0 (.stringLink "com/example/dique/dique/model/Dimension" (33 : Nat) "the key of dimension ") := wd hw 481 rfl
theorem W482 (hw : HW Z a0) : BF Z a0 (.stringLink "com/example/dique/dique/model/Dimension" (35 : Nat) "the foreign key of dimension ") := wd hw 482 rfl
theorem pd_7 : parseMethodDescriptor "()Ljava/util/List;" = some ⟨[], (some (.object "java/util/List"))⟩ := by decide +kernel
theorem W491 (hw : HW Z a0) : BF Z a0 (.stringLink "com/example/dique/dique/model/Dimension" (56 : Nat) "level") := wd hw 491 rfl
theorem W497 (hw : HW Z a0) : BF Z a0 (.instantiable "java/util/HashMap" (8 : Nat)) := wd hw 497 rfl
theorem W498 (hw : HW Z a0) : BF Z a0 (.initialized "java/util/HashMap") := wd hw 498 rfl
theorem W511 (hw : HW Z a0) : BF Z a0 (.laysFinal "java/util/HashMap" "java/util/HashMap" "loadFactor" "F") := wd hw 511 rfl
theorem W614 (hw : HW Z a0) : BF Z a0 (.lays "java/util/HashMap" "java/util/HashMap" "table" "[Ljava/util/HashMap$Node;") := wd hw 614 rfl
theorem W621 (hw : HW Z a0) : BF Z a0 (.lays "java/util/HashMap" "java/util/HashMap" "threshold" "I") := wd hw 621 rfl
theorem W645 (hw : HW Z a0) : BF Z a0 (.lays "java/util/HashMap" "java/util/HashMap" "modCount" "I") := wd hw 645 rfl
theorem W647 (hw : HW Z a0) : BF Z a0 (.lays "java/util/HashMap" "java/util/HashMap" "size" "I") := wd hw 647 rfl
theorem pn_6163744d6170_17 : plainName "java/util/AbstractMap" = true := by first | (simp [plainName, overriddenIn]; done) | decide +kernel
theorem W516 (hw : HW Z a0) : BF Z a0 (.stringLink "com/example/dique/dique/model/Dimension" (59 : Nat) "column") := wd hw 516 rfl
theorem W527 (hw : HW Z a0) : BF Z a0 (.stringLink "com/example/dique/dique/model/Dimension" (49 : Nat) "dimension ") := wd hw 527 rfl
theorem pd_43 : parseMethodDescriptor "(Ljava/lang/String;)Ljava/lang/String;" = some ⟨[(.object "java/lang/String")], (some (.object "java/lang/String"))⟩ := by decide +kernel
theorem pd_33 : parseMethodDescriptor "(Ljava/lang/Object;)I" = some ⟨[(.object "java/lang/Object")], (some .int)⟩ := by decide +kernel
theorem pd_12 : parseMethodDescriptor "()[Ljava/util/HashMap$Node;" = some ⟨[], (some (.array (.object "java/util/HashMap$Node")))⟩ := by decide +kernel
theorem W629 (hw : HW Z a0) : BF Z a0 (.instantiable "java/util/HashMap$Node" (4 : Nat)) := wd hw 629 rfl
theorem W637 (hw : HW Z a0) : BF Z a0 (.laysFinal "java/util/HashMap$Node" "java/util/HashMap$Node" "hash" "I") := wd hw 637 rfl
theorem W639 (hw : HW Z a0) : BF Z a0 (.laysFinal "java/util/HashMap$Node" "java/util/HashMap$Node" "key" "Ljava/lang/Object;") := wd hw 639 rfl
theorem W641 (hw : HW Z a0) : BF Z a0 (.lays "java/util/HashMap$Node" "java/util/HashMap$Node" "value" "Ljava/lang/Object;") := wd hw 641 rfl
theorem W643 (hw : HW Z a0) : BF Z a0 (.lays "java/util/HashMap$Node" "java/util/HashMap$Node" "next" "Ljava/util/HashMap$Node;") := wd hw 643 rfl
theorem pn_70244e6f6465_21 : plainName "java/util/HashMap$Node" = true := by first | (simp [plainName, overriddenIn]; done) | decide +kernel
theorem pd_29 : parseMethodDescriptor "(ILjava/lang/Object;Ljava/lang/Object;Ljava/util/HashMap$Node;)V" = some ⟨[.int, (.object "java/lang/Object"), (.object "java/lang/Object"), (.object "java/util/HashMap$Node")], none⟩ := by decide +kernel
theorem pd_28 : parseMethodDescriptor "(ILjava/lang/Object;Ljava/lang/Object;Ljava/util/HashMap$Node;)Ljava/util/HashMap$Node;" = some ⟨[.int, (.object "java/lang/Object"), (.object "java/lang/Object"), (.object "java/util/HashMap$Node")], (some (.object "java/util/HashMap$Node"))⟩ := by decide +kernel
theorem pd_285a2956 : parseMethodDescriptor "(Z)V" = some ⟨[.boolean], none⟩ := by decide +kernel
theorem pd_30 : parseMethodDescriptor "(ILjava/lang/Object;Ljava/lang/Object;ZZ)Ljava/lang/Object;" = some ⟨[.int, (.object "java/lang/Object"), (.object "java/lang/Object"), .boolean, .boolean], (some (.object "java/lang/Object"))⟩ := by decide +kernel
theorem pd_39 : parseMethodDescriptor "(Ljava/lang/Object;Ljava/lang/Object;)Ljava/lang/Object;" = some ⟨[(.object "java/lang/Object"), (.object "java/lang/Object")], (some (.object "java/lang/Object"))⟩ := by decide +kernel
theorem W662 (hw : HW Z a0) : BF Z a0 (.stringLink "com/example/dique/dique/model/Dimension" (196 : Nat) "level ") := wd hw 662 rfl
theorem W663 (hw : HW Z a0) : BF Z a0 (.stringLink "com/example/dique/dique/model/Dimension" (198 : Nat) ".") := wd hw 663 rfl
theorem pn_656e73696f6e_0 : plainName "com/example/dique/dique/model/Dimension" = true := by first | (simp [plainName, overriddenIn]; done) | decide +kernel
theorem pd_46 : parseMethodDescriptor "(Ljava/lang/String;Lcom/example/dique/dique/model/Level;)Ljava/lang/String;" = some ⟨[(.object "java/lang/String"), (.object "com/example/dique/dique/model/Level")], (some (.object "java/lang/String"))⟩ := by decide +kernel
theorem pn_244c6973744e_27 : plainName "java/util/ImmutableCollections$ListN" = true := by first | (simp [plainName, overriddenIn]; done) | decide +kernel
theorem pd_35 : parseMethodDescriptor "(Ljava/lang/Object;)Ljava/util/HashMap$Node;" = some ⟨[(.object "java/lang/Object")], (some (.object "java/util/HashMap$Node"))⟩ := by decide +kernel
theorem pd_49 : parseMethodDescriptor "(Ljava/lang/String;Ljava/lang/String;Ljava/lang/String;Ljava/lang/String;Ljava/util/List;Ljava/util/List;)V" = some ⟨[(.object "java/lang/String"), (.object "java/lang/String"), (.object "java/lang/String"), (.object "java/lang/String"), (.object "java/util/List"), (.object "java/util/List")], none⟩ := by decide +kernel
theorem pn_50696e4c6177_4 : plainName "com/example/dique/dique/query/TableRefIsFactPinLaw" = true := by first | (simp [plainName, overriddenIn]; done) | decide +kernel
theorem pd_285b432956 : parseMethodDescriptor "([C)V" = some ⟨[(.array .char)], none⟩ := by decide +kernel
theorem pd_2 : parseMethodDescriptor "()Lcom/example/dique/dique/model/Dimension;" = some ⟨[], (some (.object "com/example/dique/dique/model/Dimension"))⟩ := by decide +kernel
theorem W705 (hw : HW Z a0) : BF Z a0 (.instantiable "com/example/dique/dique/query/TableRef" (3 : Nat)) := wd hw 705 rfl
theorem W706 (hw : HW Z a0) : BF Z a0 (.initialized "com/example/dique/dique/query/TableRef") := wd hw 706 rfl
theorem W716 (hw : HW Z a0) : BF Z a0 (.laysFinal "com/example/dique/dique/query/TableRef" "com/example/dique/dique/query/TableRef" "name" "Ljava/lang/String;") := wd hw 716 rfl
theorem W718 (hw : HW Z a0) : BF Z a0 (.laysFinal "com/example/dique/dique/query/TableRef" "com/example/dique/dique/query/TableRef" "alias" "Ljava/lang/String;") := wd hw 718 rfl
theorem W720 (hw : HW Z a0) : BF Z a0 (.laysFinal "com/example/dique/dique/query/TableRef" "com/example/dique/dique/query/TableRef" "dimension" "Lcom/example/dique/dique/model/Dimension;") := wd hw 720 rfl
theorem W711 (hw : HW Z a0) : BF Z a0 (.stringLink "com/example/dique/dique/query/TableRef" (7 : Nat) "name") := wd hw 711 rfl
theorem pd_40 : parseMethodDescriptor "(Ljava/lang/Object;Ljava/lang/String;)Ljava/lang/Object;" = some ⟨[(.object "java/lang/Object"), (.object "java/lang/String")], (some (.object "java/lang/Object"))⟩ := by decide +kernel
theorem pn_626c65526566_3 : plainName "com/example/dique/dique/query/TableRef" = true := by first | (simp [plainName, overriddenIn]; done) | decide +kernel
theorem pd_48 : parseMethodDescriptor "(Ljava/lang/String;Ljava/lang/String;Lcom/example/dique/dique/model/Dimension;)V" = some ⟨[(.object "java/lang/String"), (.object "java/lang/String"), (.object "com/example/dique/dique/model/Dimension")], none⟩ := by decide +kernel
theorem W724 (hw : HW Z a0) : BF Z a0 (.selects "com/example/dique/dique/query/TableRef" ⟨"com/example/dique/dique/query/TableRef", "isFact", "()Z"⟩ ⟨"com/example/dique/dique/query/TableRef", "isFact", "()Z"⟩) := wd hw 724 rfl
theorem own_mapG (xs : List Int32) {i : Nat} (h : i < (xs.map Value.int).length) : (xs.map Value.int)[i]? = some (.int (xs.getD i 0)) := by
  rw [List.length_map] at h
  rw [List.getElem?_map, List.getElem?_eq_getElem h, List.getD_eq_getElem?_getD, List.getElem?_eq_getElem h]; rfl
set_option maxRecDepth 65536 in
theorem own_tabW : ∀ i, i < own_tab.length → jdkStatics_1[26 + i]? = some (Jvm.Cond.eq (Jvm.Term.elem (Jvm.Term.static "java/lang/CharacterDataLatin1" "A" "[I") (Jvm.Term.int (Int32.ofNat i))) (Jvm.Term.int (own_tabI.getD i 0))) := by decide +kernel
theorem Y0 : DD jdk_42_method_152_code [(0, .getstatic 38, 3), (3, .ifCond .eq 10, 3), (6, .aload_n 0, 1), (7, .getfield 15, 3), (10, .goto 4, 3), (14, .ireturn, 1)] := dd (by decide +kernel)
theorem Y1 : DD jdk_42_method_154_code [(0, .getstatic 38, 3), (3, .ifCond .eq 14, 3), (6, .aload_n 0, 1), (7, .getfield 15, 3), (10, .ifCond .ne 7, 3), (13, .iconst 1, 1), (14, .goto 4, 3), (18, .ireturn, 1)] := dd (by decide +kernel)
theorem Y2 : DD jdk_42_method_54_code [(0, .aload_n 0, 1), (1, .getfield 9, 3), (4, .arraylength, 1), (5, .aload_n 0, 1), (6, .invokevirtual 335, 3), (9, .ishr, 1), (10, .ireturn, 1)] := dd (by decide +kernel)
theorem Y3 : DD jdk_68_method_71_code [(0, .getstatic 18, 3), (3, .ifCond .eq 18, 3), (6, .aload_n 0, 1), (7, .getfield 22, 3), (10, .aload_n 1, 1), (11, .invokevirtual 40, 3), (14, .if_icmp .eq 7, 3), (21, .return_, 1)] := dd (by decide +kernel)
theorem Y4 : DD jdk_42_method_147_code [(0, .aload_n 0, 1), (1, .invokevirtual 335, 3), (4, .iload_n 3, 1), (5, .if_icmp .ne 23, 3), (8, .aload_n 0, 1), (9, .getfield 9, 3), (12, .iconst 0, 1), (13, .aload_n 1, 1), (14, .iload_n 2, 1), (15, .iload_n 3, 1), (16, .ishl, 1), (17, .aload_n 0, 1), (18, .getfield 9, 3), (21, .arraylength, 1), (22, .invokestatic 212, 3), (25, .goto 18, 3), (43, .return_, 1)] := dd (by decide +kernel)
theorem Y5 : DD jdk_68_method_73_code [(0, .aload_n 0, 1), (1, .aload_n 2, 1), (2, .invokevirtual 397, 3), (5, .aload_n 2, 1), (6, .aload_n 0, 1), (7, .getfield 15, 3), (10, .iload_n 1, 1), (11, .aload_n 0, 1), (12, .getfield 22, 3), (15, .invokevirtual 399, 3), (18, .return_, 1)] := dd (by decide +kernel)
theorem Y6 : DD jdk_68_method_9_code [(0, .aload_n 0, 1), (1, .getfield 15, 3), (4, .arraylength, 1), (5, .aload_n 0, 1), (6, .getfield 22, 3), (9, .ishr, 1), (10, .istore_n 2, 1), (11, .iload_n 1, 1), (12, .iload_n 2, 1), (13, .isub, 1), (14, .ifCond .le 24, 3), (17, .aload_n 0, 1), (18, .aload_n 0, 1), (19, .getfield 15, 3), (22, .aload_n 0, 1), (23, .iload_n 1, 1), (24, .invokevirtual 104, 3), (27, .aload_n 0, 1), (28, .getfield 22, 3), (31, .ishl, 1), (32, .invokestatic 108, 3), (35, .putfield 15, 3), (38, .return_, 1)] := dd (by decide +kernel)
theorem Y7 : DD jdk_29_method_69_code [(0, .iload_n 0, 1), (1, .iload_n 1, 1), (2, .if_icmp .gt 7, 3), (5, .iload_n 0, 1), (6, .goto 4, 3), (9, .iload_n 1, 1), (10, .ireturn, 1)] := dd (by decide +kernel)
theorem Y8 : DD jdk_29_method_65_code [(0, .iload_n 0, 1), (1, .iload_n 1, 1), (2, .if_icmp .lt 7, 3), (5, .iload_n 0, 1), (6, .goto 4, 3), (9, .iload_n 1, 1), (10, .ireturn, 1)] := dd (by decide +kernel)
theorem Y9 : DD jdk_48_method_27_code [(0, .iload_n 0, 1), (1, .iload_n 1, 1), (2, .iload_n 2, 1), (3, .invokestatic 194, 3), (6, .iadd, 1), (7, .istore_n 3, 1), (8, .iconst 0, 1), (9, .iload_n 3, 1), (10, .if_icmp .ge 11, 3), (13, .iload_n 3, 1), (14, .ldc 200, 2), (16, .if_icmp .gt 5, 3), (19, .iload_n 3, 1), (20, .ireturn, 1)] := dd (by decide +kernel)
theorem Y10 : DD jdk_68_method_10_code [(0, .aload_n 0, 1), (1, .getfield 15, 3), (4, .arraylength, 1), (5, .istore_n 2, 1), (6, .iload_n 1, 1), (7, .aload_n 0, 1), (8, .getfield 22, 3), (11, .ishl, 1), (12, .istore_n 3, 1), (13, .iload_n 3, 1), (14, .iload_n 2, 1), (15, .isub, 1), (16, .istore 4, 2), (18, .iload_n 2, 1), (19, .iload 4, 2), (21, .iload_n 2, 1), (22, .iconst 2, 1), (23, .aload_n 0, 1), (24, .getfield 22, 3), (27, .ishl, 1), (28, .iadd, 1), (29, .invokestatic 114, 3), (32, .istore 5, 2), (34, .iload 5, 2), (36, .ldc 39, 2), (38, .if_icmp .ne 13, 3), (51, .iload 5, 2), (53, .aload_n 0, 1), (54, .getfield 22, 3), (57, .ishr, 1), (58, .ireturn, 1)] := dd (by decide +kernel)
theorem Y11 : DD jdk_65_method_121_code [(0, .iload_n 1, 1), (1, .aload_n 0, 1), (2, .arraylength, 1), (3, .if_icmp .ne 11, 3), (14, .iload_n 1, 1), (15, .newarray .byte, 2), (17, .astore_n 2, 1), (18, .aload_n 0, 1), (19, .iconst 0, 1), (20, .aload_n 2, 1), (21, .iconst 0, 1), (22, .aload_n 0, 1), (23, .arraylength, 1), (24, .iload_n 1, 1), (25, .invokestatic 304, 3), (28, .invokestatic 150, 3), (31, .aload_n 2, 1), (32, .areturn, 1)] := dd (by decide +kernel)
theorem Y12 : DD jdk_68_method_22_code [(0, .aload_n 1, 1), (1, .ifnonnull 8, 3), (9, .aload_n 1, 1), (10, .invokevirtual 32, 3), (13, .istore_n 2, 1), (14, .aload_n 0, 1), (15, .aload_n 0, 1), (16, .getfield 79, 3), (19, .iload_n 2, 1), (20, .iadd, 1), (21, .invokevirtual 100, 3), (24, .aload_n 0, 1), (25, .aload_n 0, 1), (26, .getfield 79, 3), (29, .aload_n 1, 1), (30, .invokevirtual 208, 3), (33, .aload_n 0, 1), (34, .dup, 1), (35, .getfield 79, 3), (38, .iload_n 2, 1), (39, .iadd, 1), (40, .putfield 79, 3), (43, .aload_n 0, 1), (44, .areturn, 1)] := dd (by decide +kernel)
theorem Y13 : DD jdk_67_method_7_code [(0, .aload_n 0, 1), (1, .aload_n 1, 1), (2, .invokespecial 29, 3), (5, .pop, 1), (6, .aload_n 0, 1), (7, .areturn, 1)] := dd (by decide +kernel)
theorem Y14 : DD jdk_68_method_2_code [(0, .aload_n 0, 1), (1, .invokespecial 3, 3), (4, .getstatic 18, 3), (7, .ifCond .eq 18, 3), (10, .aload_n 0, 1), (11, .iload_n 1, 1), (12, .newarray .byte, 2), (14, .putfield 15, 3), (17, .aload_n 0, 1), (18, .iconst 0, 1), (19, .putfield 22, 3), (22, .goto 16, 3), (38, .return_, 1)] := dd (by decide +kernel)
theorem Y15 : DD jdk_67_method_1_code [(0, .aload_n 0, 1), (1, .bipush 16, 2), (3, .invokespecial 1, 3), (6, .return_, 1)] := dd (by decide +kernel)
theorem Y16 : DD jdk_68_method_64_code [(0, .aload_n 0, 1), (1, .getfield 15, 3), (4, .areturn, 1)] := dd (by decide +kernel)
theorem Y17 : DD jdk_68_method_6_code [(0, .aload_n 0, 1), (1, .getfield 79, 3), (4, .ireturn, 1)] := dd (by decide +kernel)
theorem Y18 : DD jdk_67_method_93_code [(0, .aload_n 0, 1), (1, .invokespecial 343, 3), (4, .ireturn, 1)] := dd (by decide +kernel)
theorem Y19 : DD jdk_68_method_68_code [(0, .getstatic 18, 3), (3, .ifCond .eq 14, 3), (6, .aload_n 0, 1), (7, .getfield 22, 3), (10, .ifCond .ne 7, 3), (13, .iconst 1, 1), (14, .goto 4, 3), (18, .ireturn, 1)] := dd (by decide +kernel)
theorem Y20 : DD jdk_65_method_131_code [(0, .iload_n 1, 1), (1, .iload_n 0, 1), (2, .if_icmp .ge 35, 3), (37, .return_, 1)] := dd (by decide +kernel)
theorem Y21 : DD jdk_65_method_133_code [(0, .iload_n 1, 1), (1, .iload_n 2, 1), (2, .invokestatic 343, 3), (5, .iload_n 2, 1), (6, .iload_n 1, 1), (7, .isub, 1), (8, .istore_n 3, 1), (9, .iload_n 3, 1), (10, .newarray .byte, 2), (12, .astore 4, 2), (14, .aload_n 0, 1), (15, .iload_n 1, 1), (16, .aload 4, 2), (18, .iconst 0, 1), (19, .aload_n 0, 1), (20, .arraylength, 1), (21, .iload_n 1, 1), (22, .isub, 1), (23, .iload_n 3, 1), (24, .invokestatic 304, 3), (27, .invokestatic 150, 3), (30, .aload 4, 2), (32, .areturn, 1)] := dd (by decide +kernel)
theorem Y22 : DD jdk_65_method_132_code [(0, .iload_n 1, 1), (1, .ifCond .ne 9, 3), (4, .iload_n 2, 1), (5, .aload_n 0, 1), (6, .arraylength, 1), (7, .if_icmp .eq 10, 3), (10, .aload_n 0, 1), (11, .iload_n 1, 1), (12, .iload_n 2, 1), (13, .invokestatic 339, 3), (16, .areturn, 1), (17, .aload_n 0, 1), (18, .invokevirtual 310, 3), (21, .checkcast 311, 3), (24, .areturn, 1)] := dd (by decide +kernel)
theorem Y23 : DD jdk_42_method_150_code [(0, .aload_n 0, 1), (1, .invokespecial 1, 3), (4, .aload_n 1, 1), (5, .invokevirtual 552, 3), (8, .astore_n 3, 1), (9, .aload_n 1, 1), (10, .invokevirtual 549, 3), (13, .istore 4, 2), (15, .aload_n 1, 1), (16, .invokevirtual 1047, 3), (19, .ifCond .eq 22, 3), (22, .aload_n 0, 1), (23, .iconst 0, 1), (24, .putfield 15, 3), (27, .aload_n 0, 1), (28, .aload_n 3, 1), (29, .iconst 0, 1), (30, .iload 4, 2), (32, .invokestatic 54, 3), (35, .putfield 9, 3), (38, .goto 59, 3), (97, .return_, 1)] := dd (by decide +kernel)
theorem Y24 : DD jdk_42_method_53_code [(0, .aload_n 0, 1), (1, .aload_n 1, 1), (2, .aconst_null, 1), (3, .invokespecial 489, 3), (6, .return_, 1)] := dd (by decide +kernel)
theorem Y25 : DD jdk_67_method_42_code [(0, .new 18, 3), (3, .dup, 1), (4, .aload_n 0, 1), (5, .invokespecial 137, 3), (8, .areturn, 1)] := dd (by decide +kernel)
theorem Y26 : DD jdk_43_method_44_code [(0, .aload_n 0, 1), (1, .iload_n 1, 1), (2, .baload, 1), (3, .sipush 255, 3), (6, .iand, 1), (7, .i2c, 1), (8, .ireturn, 1)] := dd (by decide +kernel)
theorem Y27 : DD jdk_116_method_1_code [(0, .iload_n 1, 1), (1, .i2c, 1), (2, .istore_n 2, 1), (3, .getstatic 1, 3), (6, .iload_n 2, 1), (7, .iaload, 1), (8, .istore_n 3, 1), (9, .iload_n 3, 1), (10, .ireturn, 1)] := dd (by decide +kernel)
theorem Y28 : DD jdk_116_method_26_code [(0, .aload_n 0, 1), (1, .iload_n 1, 1), (2, .invokevirtual 15, 3), (5, .istore_n 2, 1), (6, .iload_n 2, 1), (7, .sipush 28672, 3), (10, .iand, 1), (11, .sipush 16384, 3), (14, .if_icmp .ne 7, 3), (21, .iconst 0, 1), (22, .ireturn, 1)] := dd (by decide +kernel)
theorem Y29 : DD jdk_43_method_37_code [(0, .aload_n 0, 1), (1, .arraylength, 1), (2, .istore_n 1, 1), (3, .iconst 0, 1), (4, .istore_n 2, 1), (5, .iload_n 2, 1), (6, .iload_n 1, 1), (7, .if_icmp .ge 40, 3), (10, .aload_n 0, 1), (11, .iload_n 2, 1), (12, .invokestatic 50, 3), (15, .istore_n 3, 1), (16, .iload_n 3, 1), (17, .bipush 32, 2), (19, .if_icmp .eq 22, 3), (22, .iload_n 3, 1), (23, .bipush 9, 2), (25, .if_icmp .eq 16, 3), (28, .getstatic 66, 3), (31, .iload_n 3, 1), (32, .invokevirtual 211, 3), (35, .ifCond .ne 6, 3), (38, .goto 9, 3), (47, .iload_n 2, 1), (48, .ireturn, 1)] := dd (by decide +kernel)
theorem Y30 : DD jdk_43_method_38_code [(0, .aload_n 0, 1), (1, .arraylength, 1), (2, .istore_n 1, 1), (3, .iload_n 1, 1), (4, .istore_n 2, 1), (5, .iconst 0, 1), (6, .iload_n 2, 1), (7, .if_icmp .ge 42, 3), (10, .aload_n 0, 1), (11, .iload_n 2, 1), (12, .iconst 1, 1), (13, .isub, 1), (14, .invokestatic 50, 3), (17, .istore_n 3, 1), (18, .iload_n 3, 1), (19, .bipush 32, 2), (21, .if_icmp .eq 22, 3), (24, .iload_n 3, 1), (25, .bipush 9, 2), (27, .if_icmp .eq 16, 3), (30, .getstatic 66, 3), (33, .iload_n 3, 1), (34, .invokevirtual 211, 3), (37, .ifCond .ne 6, 3), (40, .goto 9, 3), (49, .iload_n 2, 1), (50, .ireturn, 1)] := dd (by decide +kernel)
theorem Y31 : DD jdk_43_method_39_code [(0, .aload_n 0, 1), (1, .invokestatic 214, 3), (4, .istore_n 1, 1), (5, .iload_n 1, 1), (6, .aload_n 0, 1), (7, .arraylength, 1), (8, .if_icmp .ne 6, 3), (14, .aload_n 0, 1), (15, .invokestatic 217, 3), (18, .istore_n 2, 1), (19, .iload_n 1, 1), (20, .ifCond .gt 9, 3), (23, .iload_n 2, 1), (24, .aload_n 0, 1), (25, .arraylength, 1), (26, .if_icmp .ge 7, 3), (33, .iconst 0, 1), (34, .istore_n 3, 1), (35, .iload_n 3, 1), (36, .ifCond .eq 14, 3), (50, .aconst_null, 1), (51, .areturn, 1)] := dd (by decide +kernel)
theorem Y32 : DD jdk_42_method_120_code [(0, .aload_n 0, 1), (1, .invokevirtual 492, 3), (4, .ifCond .eq 13, 3), (7, .aload_n 0, 1), (8, .getfield 9, 3), (11, .invokestatic 924, 3), (14, .goto 10, 3), (24, .ireturn, 1)] := dd (by decide +kernel)
theorem Y33 : DD jdk_42_method_117_code [(0, .aload_n 0, 1), (1, .invokevirtual 876, 3), (4, .aload_n 0, 1), (5, .invokevirtual 505, 3), (8, .if_icmp .ne 7, 3), (15, .iconst 0, 1), (16, .ireturn, 1)] := dd (by decide +kernel)
theorem Y34 : DD jdk_42_method_114_code [(0, .aload_n 0, 1), (1, .invokevirtual 492, 3), (4, .ifCond .eq 13, 3), (7, .aload_n 0, 1), (8, .getfield 9, 3), (11, .invokestatic 864, 3), (14, .goto 10, 3), (24, .astore_n 1, 1), (25, .aload_n 1, 1), (26, .ifnonnull 7, 3), (29, .aload_n 0, 1), (30, .goto 4, 3), (34, .areturn, 1)] := dd (by decide +kernel)
theorem Y35 : DD jdk_42_method_66_code [(0, .aload_n 0, 1), (1, .aload_n 1, 1), (2, .if_acmp .ne 5, 3), (5, .iconst 1, 1), (6, .ireturn, 1)] := dd (by decide +kernel)
theorem Y36 : DD prog_91_method_5_code [(0, .aload_n 1, 1), (1, .ifnull 21, 3), (4, .aload_n 1, 1), (5, .invokevirtual 36, 3), (8, .ifCond .ne 14, 3), (11, .aload_n 1, 1), (12, .invokevirtual 40, 3), (15, .aload_n 1, 1), (16, .invokevirtual 43, 3), (19, .ifCond .ne 39, 3), (58, .return_, 1)] := dd (by decide +kernel)
theorem Y37 : DD jdk_41_method_11_code [(0, .iload_n 0, 1), (1, .ifCond .lt 8, 3), (4, .iload_n 0, 1), (5, .iload_n 1, 1), (6, .if_icmp .lt 10, 3), (16, .iload_n 0, 1), (17, .ireturn, 1)] := dd (by decide +kernel)
theorem Y38 : DD jdk_42_method_155_code [(0, .iload_n 0, 1), (1, .iload_n 1, 1), (2, .getstatic 1053, 3), (5, .invokestatic 1059, 3), (8, .pop, 1), (9, .return_, 1)] := dd (by decide +kernel)
theorem Y39 : DD jdk_43_method_2_code [(0, .iload_n 1, 1), (1, .aload_n 0, 1), (2, .arraylength, 1), (3, .invokestatic 9, 3), (6, .aload_n 0, 1), (7, .iload_n 1, 1), (8, .baload, 1), (9, .sipush 255, 3), (12, .iand, 1), (13, .i2c, 1), (14, .ireturn, 1)] := dd (by decide +kernel)
theorem Y40 : DD jdk_42_method_56_code [(0, .aload_n 0, 1), (1, .invokevirtual 492, 3), (4, .ifCond .eq 12, 3), (7, .aload_n 0, 1), (8, .getfield 9, 3), (11, .iload_n 1, 1), (12, .invokestatic 495, 3), (15, .ireturn, 1)] := dd (by decide +kernel)
theorem Y41 : DD prog_91_method_4_code [(0, .iload_n 0, 1), (1, .bipush 65, 2), (3, .if_icmp .lt 20, 3), (6, .iload_n 0, 1), (7, .bipush 90, 2), (9, .if_icmp .gt 14, 3), (23, .iload_n 0, 1), (24, .ireturn, 1)] := dd (by decide +kernel)
theorem Y42 : DD jdk_43_method_3_code [(0, .iload_n 0, 1), (1, .sipush 255, 3), (4, .if_icmp .gt 7, 3), (7, .iconst 1, 1), (8, .goto 4, 3), (12, .ireturn, 1)] := dd (by decide +kernel)
theorem Y43 : DD jdk_68_method_31_code [(0, .aload_n 0, 1), (1, .aload_n 0, 1), (2, .getfield 79, 3), (5, .iconst 1, 1), (6, .iadd, 1), (7, .invokevirtual 100, 3), (10, .aload_n 0, 1), (11, .invokevirtual 83, 3), (14, .ifCond .eq 31, 3), (17, .iload_n 1, 1), (18, .invokestatic 191, 3), (21, .ifCond .eq 24, 3), (24, .aload_n 0, 1), (25, .getfield 15, 3), (28, .aload_n 0, 1), (29, .dup, 1), (30, .getfield 79, 3), (33, .dup_x1, 1), (34, .iconst 1, 1), (35, .iadd, 1), (36, .putfield 79, 3), (39, .iload_n 1, 1), (40, .i2b, 1), (41, .bastore, 1), (42, .goto 33, 3), (75, .aload_n 0, 1), (76, .areturn, 1)] := dd (by decide +kernel)
theorem Y44 : DD jdk_67_method_14_code [(0, .aload_n 0, 1), (1, .iload_n 1, 1), (2, .invokespecial 50, 3), (5, .pop, 1), (6, .aload_n 0, 1), (7, .areturn, 1)] := dd (by decide +kernel)
theorem Y45 : DD jdk_67_method_2_code [(0, .aload_n 0, 1), (1, .iload_n 1, 1), (2, .invokespecial 1, 3), (5, .return_, 1)] := dd (by decide +kernel)
theorem Y46 : DD prog_91_method_2_code [(0, .new 7, 3), (3, .dup, 1), (4, .aload_n 0, 1), (5, .invokevirtual 9, 3), (8, .invokespecial 15, 3), (11, .astore_n 1, 1), (12, .iconst 0, 1), (13, .istore_n 2, 1), (14, .iload_n 2, 1), (15, .aload_n 0, 1), (16, .invokevirtual 9, 3), (19, .if_icmp .ge 22, 3), (22, .aload_n 1, 1), (23, .aload_n 0, 1), (24, .iload_n 2, 1), (25, .invokevirtual 18, 3), (28, .invokestatic 22, 3), (31, .invokevirtual 28, 3), (34, .pop, 1), (35, .iinc 2 1, 3), (38, .goto (-24), 3), (41, .aload_n 1, 1), (42, .invokevirtual 32, 3), (45, .areturn, 1)] := dd (by decide +kernel)
theorem Y47 : DD jdk_43_method_21_code [(0, .aload_n 0, 1), (1, .arraylength, 1), (2, .lookupswitch 40 #[(0, 26), (1, 30)], 26), (32, .aload_n 0, 1), (33, .iconst 0, 1), (34, .baload, 1), (35, .sipush 255, 3), (38, .iand, 1), (39, .goto 12, 3), (51, .ireturn, 1)] := dd (by decide +kernel)
theorem Y48 : DD jdk_42_method_78_code [(0, .aload_n 0, 1), (1, .getfield 19, 3), (4, .istore_n 1, 1), (5, .iload_n 1, 1), (6, .ifCond .ne 52, 3), (9, .aload_n 0, 1), (10, .getfield 23, 3), (13, .ifCond .ne 45, 3), (16, .aload_n 0, 1), (17, .invokevirtual 492, 3), (20, .ifCond .eq 13, 3), (23, .aload_n 0, 1), (24, .getfield 9, 3), (27, .invokestatic 628, 3), (30, .goto 10, 3), (40, .istore_n 1, 1), (41, .iload_n 1, 1), (42, .ifCond .ne 11, 3), (53, .aload_n 0, 1), (54, .iload_n 1, 1), (55, .putfield 19, 3), (58, .iload_n 1, 1), (59, .ireturn, 1)] := dd (by decide +kernel)
theorem Y49 : DD jdk_69_method_1_code [(0, .aload_n 0, 1), (1, .ifnonnull 7, 3), (8, .aload_n 0, 1), (9, .invokevirtual 1, 3), (12, .dup, 1), (13, .istore_n 1, 1), (14, .iload_n 1, 1), (15, .bipush 16, 2), (17, .iushr, 1), (18, .ixor, 1), (19, .ireturn, 1)] := dd (by decide +kernel)
theorem Y50 : DD method_2_code [(0, .new 7, 3), (3, .dup, 1), (4, .invokespecial 9, 3), (7, .astore_n 0, 1), (8, .aload_n 0, 1), (9, .ldc 10, 2), (11, .invokevirtual 12, 3), (14, .pop, 1), (15, .new 16, 3), (18, .dup, 1), (19, .ldc 18, 2), (21, .aload_n 0, 1), (22, .invokespecial 20, 3), (25, .astore_n 1, 1), (26, .new 7, 3), (29, .dup, 1), (30, .invokespecial 9, 3), (33, .astore_n 2, 1), (34, .aload_n 2, 1), (35, .aload_n 1, 1), (36, .invokevirtual 12, 3), (39, .pop, 1), (40, .new 7, 3), (43, .dup, 1), (44, .invokespecial 9, 3), (47, .astore_n 3, 1), (48, .new 23, 3), (51, .dup, 1), (52, .ldc 25, 2), (54, .ldc 27, 2), (56, .ldc 29, 2), (58, .ldc 31, 2), (60, .aload_n 2, 1), (61, .aload_n 3, 1), (62, .invokespecial 33, 3), (65, .areturn, 1)] := dd (by decide +kernel)
theorem Y51 : DD jdk_38_method_2_code [(0, .aload_n 0, 1), (1, .invokespecial 1, 3), (4, .aload_n 0, 1), (5, .getstatic 39, 3), (8, .putfield 9, 3), (11, .return_, 1)] := dd (by decide +kernel)
theorem Y52 : DD jdk_39_method_1_code [(0, .aload_n 0, 1), (1, .invokespecial 1, 3), (4, .aload_n 0, 1), (5, .iconst 0, 1), (6, .putfield 7, 3), (9, .return_, 1)] := dd (by decide +kernel)
theorem Y53 : DD jdk_22_method_1_code [(0, .aload_n 0, 1), (1, .invokespecial 1, 3), (4, .return_, 1)] := dd (by decide +kernel)
theorem Y54 : DD jdk_38_method_25_code [(0, .aload_n 0, 1), (1, .dup, 1), (2, .getfield 63, 3), (5, .iconst 1, 1), (6, .iadd, 1), (7, .putfield 63, 3), (10, .aload_n 0, 1), (11, .aload_n 1, 1), (12, .aload_n 0, 1), (13, .getfield 9, 3), (16, .aload_n 0, 1), (17, .getfield 48, 3), (20, .invokevirtual 131, 3), (23, .iconst 1, 1), (24, .ireturn, 1)] := dd (by decide +kernel)
theorem Y55 : DD jdk_38_method_24_code [(0, .iload_n 3, 1), (1, .aload_n 2, 1), (2, .arraylength, 1), (3, .if_icmp .ne 8, 3), (6, .aload_n 0, 1), (7, .invokevirtual 129, 3), (10, .astore_n 2, 1), (11, .aload_n 2, 1), (12, .iload_n 3, 1), (13, .aload_n 1, 1), (14, .aastore, 1), (15, .aload_n 0, 1), (16, .iload_n 3, 1), (17, .iconst 1, 1), (18, .iadd, 1), (19, .putfield 48, 3), (22, .return_, 1)] := dd (by decide +kernel)
theorem Y56 : DD jdk_38_method_7_code [(0, .aload_n 0, 1), (1, .aload_n 0, 1), (2, .getfield 48, 3), (5, .iconst 1, 1), (6, .iadd, 1), (7, .invokevirtual 69, 3), (10, .areturn, 1)] := dd (by decide +kernel)
theorem Y57 : DD jdk_38_method_6_code [(0, .aload_n 0, 1), (1, .getfield 9, 3), (4, .arraylength, 1), (5, .istore_n 2, 1), (6, .iload_n 2, 1), (7, .ifCond .gt 13, 3), (10, .aload_n 0, 1), (11, .getfield 9, 3), (14, .getstatic 39, 3), (17, .if_acmp .eq 28, 3), (45, .aload_n 0, 1), (46, .bipush 10, 2), (48, .iload_n 1, 1), (49, .invokestatic 79, 3), (52, .anewarray 7, 3), (55, .dup_x1, 1), (56, .putfield 9, 3), (59, .areturn, 1)] := dd (by decide +kernel)
theorem Y58 : DD prog_14_method_1_code [(0, .aload_n 0, 1), (1, .invokespecial 1, 3), (4, .ldc 7, 2), (6, .aload_n 1, 1), (7, .invokestatic 9, 3), (10, .aload_n 2, 1), (11, .invokestatic 15, 3), (14, .astore_n 2, 1), (15, .aload_n 2, 1), (16, .invokeinterface 21 1, 5), (21, .ifCond .eq 35, 3), (56, .aload_n 2, 1), (57, .invokeinterface 45 1, 5), (62, .astore_n 3, 1), (63, .aload_n 3, 1), (64, .invokeinterface 49 1, 5), (69, .ifCond .eq 41, 3), (72, .aload_n 3, 1), (73, .invokeinterface 54 1, 5), (78, .checkcast 58, 3), (81, .astore 4, 2), (83, .new 27, 3), (86, .dup, 1), (87, .invokespecial 29, 3), (90, .ldc 60, 2), (92, .invokevirtual 32, 3), (95, .aload_n 1, 1), (96, .invokevirtual 32, 3), (99, .invokevirtual 38, 3), (102, .aload 4, 2), (104, .invokestatic 62, 3), (107, .goto (-44), 3), (110, .aload_n 0, 1), (111, .aload_n 1, 1), (112, .putfield 67, 3), (115, .aload_n 0, 1), (116, .aload_n 2, 1), (117, .putfield 73, 3), (120, .return_, 1)] := dd (by decide +kernel)
theorem Y59 : DD jdk_30_method_1_code [(0, .aload_n 0, 1), (1, .invokespecial 1, 3), (4, .return_, 1)] := dd (by decide +kernel)
theorem Y60 : DD prog_17_method_4_code [(0, .aload_n 0, 1), (1, .aload_n 1, 1), (2, .invokestatic 66, 3), (5, .aload_n 1, 1), (6, .bipush 46, 2), (8, .invokevirtual 70, 3), (11, .ifCond .lt 39, 3), (50, .return_, 1)] := dd (by decide +kernel)
theorem Y61 : DD jdk_42_method_79_code [(0, .aload_n 0, 1), (1, .iload_n 1, 1), (2, .iconst 0, 1), (3, .invokevirtual 633, 3), (6, .ireturn, 1)] := dd (by decide +kernel)
theorem Y62 : DD jdk_42_method_80_code [(0, .aload_n 0, 1), (1, .invokevirtual 492, 3), (4, .ifCond .eq 19, 3), (7, .aload_n 0, 1), (8, .getfield 9, 3), (11, .iload_n 1, 1), (12, .iload_n 2, 1), (13, .aload_n 0, 1), (14, .invokevirtual 505, 3), (17, .invokestatic 637, 3), (20, .goto 16, 3), (36, .ireturn, 1)] := dd (by decide +kernel)
theorem Y63 : DD jdk_43_method_22_code [(0, .iload_n 1, 1), (1, .invokestatic 88, 3), (4, .ifCond .ne 5, 3), (9, .iload_n 2, 1), (10, .iconst 0, 1), (11, .invokestatic 92, 3), (14, .istore_n 2, 1), (15, .iload_n 3, 1), (16, .aload_n 0, 1), (17, .arraylength, 1), (18, .invokestatic 38, 3), (21, .istore_n 3, 1), (22, .iload_n 2, 1), (23, .iload_n 3, 1), (24, .if_icmp .lt 5, 3), (29, .aload_n 0, 1), (30, .iload_n 1, 1), (31, .iload_n 2, 1), (32, .iload_n 3, 1), (33, .invokestatic 95, 3), (36, .ireturn, 1)] := dd (by decide +kernel)
theorem Y64 : DD jdk_43_method_4_code [(0, .iload_n 0, 1), (1, .ifCond .lt 14, 3), (4, .iload_n 0, 1), (5, .sipush 255, 3), (8, .if_icmp .gt 7, 3), (11, .iconst 1, 1), (12, .goto 4, 3), (16, .ireturn, 1)] := dd (by decide +kernel)
theorem Y65 : DD jdk_43_method_23_code [(0, .iload_n 1, 1), (1, .i2b, 1), (2, .istore 4, 2), (4, .iload_n 2, 1), (5, .istore 5, 2), (7, .iload 5, 2), (9, .iload_n 3, 1), (10, .if_icmp .ge 21, 3), (13, .aload_n 0, 1), (14, .iload 5, 2), (16, .baload, 1), (17, .iload 4, 2), (19, .if_icmp .ne 6, 3), (25, .iinc 5 1, 3), (28, .goto (-21), 3), (31, .iconst (-1), 1), (32, .ireturn, 1)] := dd (by decide +kernel)
theorem Y66 : DD jdk_40_method_48_code [(0, .aload_n 0, 1), (1, .invokestatic 112, 3), (4, .areturn, 1)] := dd (by decide +kernel)
theorem Y67 : DD jdk_56_method_3_code [(0, .aload_n 0, 1), (1, .instanceof 10, 3), (4, .ifCond .ne 22, 3), (7, .aload_n 0, 1), (8, .instanceof 12, 3), (11, .ifCond .eq 20, 3), (31, .aload_n 0, 1), (32, .invokeinterface 20 1, 5), (37, .ifCond .eq 7, 3), (40, .invokestatic 26, 3), (43, .areturn, 1), (44, .aload_n 0, 1), (45, .invokeinterface 30 1, 5), (50, .invokestatic 34, 3), (53, .areturn, 1)] := dd (by decide +kernel)
theorem Y68 : DD jdk_38_method_9_code [(0, .aload_n 0, 1), (1, .getfield 48, 3), (4, .ifCond .ne 7, 3), (7, .iconst 1, 1), (8, .goto 4, 3), (11, .iconst 0, 1), (12, .ireturn, 1)] := dd (by decide +kernel)
theorem Y69 : DD jdk_38_method_16_code [(0, .aload_n 0, 1), (1, .getfield 9, 3), (4, .aload_n 0, 1), (5, .getfield 48, 3), (8, .invokestatic 66, 3), (11, .areturn, 1)] := dd (by decide +kernel)
theorem Y70 : DD jdk_65_method_119_code [(0, .aload_n 0, 1), (1, .iload_n 1, 1), (2, .aload_n 0, 1), (3, .invokevirtual 86, 3), (6, .invokestatic 300, 3), (9, .areturn, 1)] := dd (by decide +kernel)
theorem Y71 : DD jdk_65_method_120_code [(0, .aload_n 2, 1), (1, .ldc 110, 2), (3, .if_acmp .ne 10, 3), (6, .iload_n 1, 1), (7, .anewarray 2, 3), (10, .goto 14, 3), (24, .astore_n 3, 1), (25, .aload_n 0, 1), (26, .iconst 0, 1), (27, .aload_n 3, 1), (28, .iconst 0, 1), (29, .aload_n 0, 1), (30, .arraylength, 1), (31, .iload_n 1, 1), (32, .invokestatic 304, 3), (35, .invokestatic 150, 3), (38, .aload_n 3, 1), (39, .areturn, 1)] := dd (by decide +kernel)
theorem Y72 : DD jdk_40_method_47_code [(0, .aload_n 0, 1), (1, .arraylength, 1), (2, .tableswitch 57 0 2 #[26, 32, 43], 26), (34, .new 96, 3), (37, .dup, 1), (38, .aload_n 0, 1), (39, .iconst 0, 1), (40, .aaload, 1), (41, .invokespecial 98, 3), (44, .areturn, 1)] := dd (by decide +kernel)
theorem Y73 : DD jdk_44_method_1_code [(0, .aload_n 0, 1), (1, .invokespecial 1, 3), (4, .aload_n 0, 1), (5, .aload_n 1, 1), (6, .invokestatic 7, 3), (9, .putfield 13, 3), (12, .aload_n 0, 1), (13, .getstatic 19, 3), (16, .putfield 24, 3), (19, .return_, 1)] := dd (by decide +kernel)
theorem Y74 : DD jdk_46_method_1_code [(0, .aload_n 0, 1), (1, .invokespecial 1, 3), (4, .return_, 1)] := dd (by decide +kernel)
theorem Y75 : DD jdk_47_method_1_code [(0, .aload_n 0, 1), (1, .invokespecial 1, 3), (4, .return_, 1)] := dd (by decide +kernel)
theorem Y76 : DD jdk_31_method_10_code [(0, .aload_n 0, 1), (1, .ifnonnull 11, 3), (12, .aload_n 0, 1), (13, .areturn, 1)] := dd (by decide +kernel)
abbrev b77 := jdk_44_method_4_code
theorem d77_0 : DE b77 0 (.iconst 0) 1 := by decide +kernel
theorem d77_1 : DE b77 1 (.ireturn) 1 := by decide +kernel
theorem Y78 : DD jdk_46_method_10_code [(0, .new 61, 3), (3, .dup, 1), (4, .aload_n 0, 1), (5, .aload_n 0, 1), (6, .invokevirtual 13, 3), (9, .invokespecial 63, 3), (12, .areturn, 1)] := dd (by decide +kernel)
theorem Y79 : DD jdk_44_method_3_code [(0, .aload_n 0, 1), (1, .getfield 24, 3), (4, .getstatic 19, 3), (7, .if_acmp .eq 7, 3), (14, .iconst 1, 1), (15, .ireturn, 1)] := dd (by decide +kernel)
theorem Y80 : DD jdk_53_method_1_code [(0, .aload_n 0, 1), (1, .invokespecial 1, 3), (4, .aload_n 0, 1), (5, .aload_n 1, 1), (6, .putfield 7, 3), (9, .aload_n 0, 1), (10, .iload_n 2, 1), (11, .putfield 13, 3), (14, .aload_n 0, 1), (15, .iconst 0, 1), (16, .putfield 17, 3), (19, .aload_n 0, 1), (20, .iconst 0, 1), (21, .putfield 20, 3), (24, .return_, 1)] := dd (by decide +kernel)
theorem Y81 : DD jdk_53_method_3_code [(0, .aload_n 0, 1), (1, .getfield 17, 3), (4, .aload_n 0, 1), (5, .getfield 13, 3), (8, .if_icmp .eq 7, 3), (11, .iconst 1, 1), (12, .goto 4, 3), (15, .iconst 0, 1), (16, .ireturn, 1)] := dd (by decide +kernel)
theorem Y82 : DD jdk_53_method_4_code [(0, .aload_n 0, 1), (1, .getfield 17, 3), (4, .istore_n 1, 1), (5, .aload_n 0, 1), (6, .getfield 7, 3), (9, .iload_n 1, 1), (10, .invokeinterface 24 2, 5), (15, .astore_n 2, 1), (16, .aload_n 0, 1), (17, .iload_n 1, 1), (18, .iconst 1, 1), (19, .iadd, 1), (20, .putfield 17, 3), (23, .aload_n 2, 1), (24, .areturn, 1)] := dd (by decide +kernel)
theorem Y83 : DD jdk_44_method_5_code [(0, .iload_n 1, 1), (1, .ifCond .ne 8, 3), (4, .aload_n 0, 1), (5, .getfield 13, 3), (8, .areturn, 1)] := dd (by decide +kernel)
theorem Y84 : DD prog_12_method_1_code [(0, .aload_n 0, 1), (1, .invokespecial 1, 3), (4, .ldc 7, 2), (6, .aload_n 1, 1), (7, .invokestatic 9, 3), (10, .new 15, 3), (13, .dup, 1), (14, .invokespecial 17, 3), (17, .ldc 18, 2), (19, .invokevirtual 20, 3), (22, .aload_n 1, 1), (23, .invokevirtual 20, 3), (26, .invokevirtual 24, 3), (29, .aload_n 2, 1), (30, .invokestatic 28, 3), (33, .new 15, 3), (36, .dup, 1), (37, .invokespecial 17, 3), (40, .ldc 33, 2), (42, .invokevirtual 20, 3), (45, .aload_n 1, 1), (46, .invokevirtual 20, 3), (49, .invokevirtual 24, 3), (52, .aload_n 3, 1), (53, .invokestatic 28, 3), (56, .new 15, 3), (59, .dup, 1), (60, .invokespecial 17, 3), (63, .ldc 35, 2), (65, .invokevirtual 20, 3), (68, .aload_n 1, 1), (69, .invokevirtual 20, 3), (72, .invokevirtual 24, 3), (75, .aload 4, 2), (77, .invokestatic 28, 3), (80, .aload 5, 2), (82, .invokestatic 37, 3), (85, .astore 5, 2), (87, .aload 6, 2), (89, .invokestatic 37, 3), (92, .astore 6, 2), (94, .aload 5, 2), (96, .invokeinterface 43 1, 5), (101, .ifCond .eq 35, 3), (136, .new 10, 3), (139, .dup, 1), (140, .ldc 56, 2), (142, .invokespecial 58, 3), (145, .astore 7, 2), (147, .new 10, 3), (150, .dup, 1), (151, .ldc 59, 2), (153, .invokespecial 58, 3), (156, .astore 8, 2), (158, .aload 5, 2), (160, .invokeinterface 61 1, 5), (165, .astore 9, 2), (167, .aload 9, 2), (169, .invokeinterface 65 1, 5), (174, .ifCond .eq 97, 3), (177, .aload 9, 2), (179, .invokeinterface 70 1, 5), (184, .checkcast 74, 3), (187, .astore 10, 2), (189, .aload 7, 2), (191, .aload 10, 2), (193, .invokevirtual 76, 3), (196, .new 15, 3), (199, .dup, 1), (200, .invokespecial 17, 3), (203, .ldc 49, 2), (205, .invokevirtual 20, 3), (208, .aload_n 1, 1), (209, .invokevirtual 20, 3), (212, .invokevirtual 24, 3), (215, .invokevirtual 79, 3), (218, .aload 10, 2), (220, .invokevirtual 82, 3), (223, .invokeinterface 61 1, 5), (228, .astore 11, 2), (230, .aload 11, 2), (232, .invokeinterface 65 1, 5), (237, .ifCond .eq 31, 3), (240, .aload 11, 2), (242, .invokeinterface 70 1, 5), (247, .checkcast 86, 3), (250, .astore 12, 2), (252, .aload 8, 2), (254, .aload 12, 2), (256, .aload_n 1, 1), (257, .aload 10, 2), (259, .invokestatic 88, 3), (262, .invokevirtual 79, 3), (265, .goto (-35), 3), (268, .goto (-101), 3), (271, .aload 6, 2), (273, .invokeinterface 61 1, 5), (278, .astore 9, 2), (280, .aload 9, 2), (282, .invokeinterface 65 1, 5), (287, .ifCond .eq 68, 3), (355, .aload_n 1, 1), (356, .aload 5, 2), (358, .iconst 0, 1), (359, .invokeinterface 98 2, 5), (364, .checkcast 74, 3), (367, .invokestatic 88, 3), (370, .astore 9, 2), (372, .aload 8, 2), (374, .aload_n 3, 1), (375, .invokevirtual 102, 3), (378, .astore 10, 2), (380, .aload 10, 2), (382, .ifnull 69, 3), (451, .aload_n 0, 1), (452, .aload_n 1, 1), (453, .putfield 118, 3), (456, .aload_n 0, 1), (457, .aload_n 2, 1), (458, .putfield 121, 3), (461, .aload_n 0, 1), (462, .aload_n 3, 1), (463, .putfield 124, 3), (466, .aload_n 0, 1), (467, .aload 4, 2), (469, .putfield 127, 3), (472, .aload_n 0, 1), (473, .aload 5, 2), (475, .putfield 130, 3), (478, .aload_n 0, 1), (479, .aload 6, 2), (481, .putfield 134, 3), (484, .return_, 1)] := dd (by decide +kernel)
abbrev b85 := jdk_40_method_36_code
theorem d85_0 : DE b85 0 (.getstatic 90) 3 := by decide +kernel
theorem d85_3 : DE b85 3 (.areturn) 1 := by decide +kernel
theorem Y86 : DD prog_17_method_1_code [(0, .aload_n 0, 1), (1, .invokespecial 1, 3), (4, .aload_n 0, 1), (5, .new 7, 3), (8, .dup, 1), (9, .invokespecial 9, 3), (12, .putfield 10, 3), (15, .aload_n 0, 1), (16, .aload_n 1, 1), (17, .putfield 16, 3), (20, .return_, 1)] := dd (by decide +kernel)
theorem Y87 : DD jdk_69_method_7_code [(0, .aload_n 0, 1), (1, .invokespecial 43, 3), (4, .aload_n 0, 1), (5, .ldc 92, 2), (7, .putfield 81, 3), (10, .return_, 1)] := dd (by decide +kernel)
theorem Y88 : DD jdk_71_method_1_code [(0, .aload_n 0, 1), (1, .invokespecial 1, 3), (4, .return_, 1)] := dd (by decide +kernel)
theorem Y89 : DD prog_14_method_5_code [(0, .aload_n 0, 1), (1, .getfield 67, 3), (4, .areturn, 1)] := dd (by decide +kernel)
theorem Y90 : DD prog_17_method_2_code [(0, .aload_n 0, 1), (1, .getfield 10, 3), (4, .aload_n 1, 1), (5, .invokestatic 20, 3), (8, .aload_n 2, 1), (9, .invokeinterface 26 3, 5), (14, .checkcast 32, 3), (17, .astore_n 3, 1), (18, .aload_n 3, 1), (19, .ifnull 107, 3), (126, .return_, 1)] := dd (by decide +kernel)
theorem Y91 : DD jdk_69_method_31_code [(0, .aload_n 0, 1), (1, .aload_n 1, 1), (2, .invokestatic 149, 3), (5, .aload_n 1, 1), (6, .aload_n 2, 1), (7, .iconst 1, 1), (8, .iconst 1, 1), (9, .invokevirtual 152, 3), (12, .areturn, 1)] := dd (by decide +kernel)
theorem Y92 : DD jdk_69_method_16_code [(0, .aload_n 0, 1), (1, .getfield 105, 3), (4, .dup, 1), (5, .astore 6, 2), (7, .ifnull 12, 3), (19, .aload_n 0, 1), (20, .invokevirtual 117, 3), (23, .dup, 1), (24, .astore 6, 2), (26, .arraylength, 1), (27, .istore 8, 2), (29, .aload 6, 2), (31, .iload 8, 2), (33, .iconst 1, 1), (34, .isub, 1), (35, .iload_n 1, 1), (36, .iand, 1), (37, .dup, 1), (38, .istore 9, 2), (40, .aaload, 1), (41, .dup, 1), (42, .astore 7, 2), (44, .ifnonnull 19, 3), (47, .aload 6, 2), (49, .iload 9, 2), (51, .aload_n 0, 1), (52, .iload_n 1, 1), (53, .aload_n 2, 1), (54, .aload_n 3, 1), (55, .aconst_null, 1), (56, .invokevirtual 186, 3), (59, .aastore, 1), (60, .goto 199, 3), (259, .aload_n 0, 1), (260, .dup, 1), (261, .getfield 202, 3), (264, .iconst 1, 1), (265, .iadd, 1), (266, .putfield 202, 3), (269, .aload_n 0, 1), (270, .dup, 1), (271, .getfield 156, 3), (274, .iconst 1, 1), (275, .iadd, 1), (276, .dup_x1, 1), (277, .putfield 156, 3), (280, .aload_n 0, 1), (281, .getfield 88, 3), (284, .if_icmp .le 8, 3), (292, .aload_n 0, 1), (293, .iload 5, 2), (295, .invokevirtual 205, 3), (298, .aconst_null, 1), (299, .areturn, 1)] := dd (by decide +kernel)
theorem Y93 : DD jdk_69_method_17_code [(0, .aload_n 0, 1), (1, .getfield 105, 3), (4, .astore_n 1, 1), (5, .aload_n 1, 1), (6, .ifnonnull 7, 3), (9, .iconst 0, 1), (10, .goto 5, 3), (15, .istore_n 2, 1), (16, .aload_n 0, 1), (17, .getfield 88, 3), (20, .istore_n 3, 1), (21, .iconst 0, 1), (22, .istore 5, 2), (24, .iload_n 2, 1), (25, .ifCond .le 42, 3), (67, .iload_n 3, 1), (68, .ifCond .le 9, 3), (77, .bipush 16, 2), (79, .istore 4, 2), (81, .bipush 12, 2), (83, .istore 5, 2), (85, .iload 5, 2), (87, .ifCond .ne 38, 3), (125, .aload_n 0, 1), (126, .iload 5, 2), (128, .putfield 88, 3), (131, .iload 4, 2), (133, .anewarray 163, 3), (136, .astore 6, 2), (138, .aload_n 0, 1), (139, .aload 6, 2), (141, .putfield 105, 3), (144, .aload_n 1, 1), (145, .ifnull 208, 3), (353, .aload 6, 2), (355, .areturn, 1)] := dd (by decide +kernel)
theorem Y94 : DD jdk_69_method_46_code [(0, .new 163, 3), (3, .dup, 1), (4, .iload_n 1, 1), (5, .aload_n 2, 1), (6, .aload_n 3, 1), (7, .aload 4, 2), (9, .invokespecial 375, 3), (12, .areturn, 1)] := dd (by decide +kernel)
theorem Y95 : DD jdk_70_method_1_code [(0, .aload_n 0, 1), (1, .invokespecial 1, 3), (4, .aload_n 0, 1), (5, .iload_n 1, 1), (6, .putfield 7, 3), (9, .aload_n 0, 1), (10, .aload_n 2, 1), (11, .putfield 13, 3), (14, .aload_n 0, 1), (15, .aload_n 3, 1), (16, .putfield 17, 3), (19, .aload_n 0, 1), (20, .aload 4, 2), (22, .putfield 20, 3), (25, .return_, 1)] := dd (by decide +kernel)
abbrev b96 := jdk_69_method_52_code
theorem d96_0 : DE b96 0 (.return_) 1 := by decide +kernel
theorem Y97 : DD prog_14_method_6_code [(0, .aload_n 0, 1), (1, .getfield 73, 3), (4, .areturn, 1)] := dd (by decide +kernel)
theorem Y98 : DD prog_12_method_7_code [(0, .new 15, 3), (3, .dup, 1), (4, .invokespecial 17, 3), (7, .ldc 196, 2), (9, .invokevirtual 20, 3), (12, .aload_n 0, 1), (13, .invokevirtual 20, 3), (16, .ldc 198, 2), (18, .invokevirtual 20, 3), (21, .aload_n 1, 1), (22, .invokevirtual 76, 3), (25, .invokevirtual 20, 3), (28, .invokevirtual 24, 3), (31, .areturn, 1)] := dd (by decide +kernel)
theorem Y99 : DD jdk_45_method_3_code [(0, .aload_n 0, 1), (1, .getfield 7, 3), (4, .arraylength, 1), (5, .ireturn, 1)] := dd (by decide +kernel)
theorem Y100 : DD prog_17_method_3_code [(0, .aload_n 0, 1), (1, .getfield 10, 3), (4, .aload_n 1, 1), (5, .invokestatic 20, 3), (8, .invokeinterface 62 2, 5), (13, .checkcast 32, 3), (16, .areturn, 1)] := dd (by decide +kernel)
theorem Y101 : DD jdk_69_method_12_code [(0, .aload_n 0, 1), (1, .aload_n 1, 1), (2, .invokevirtual 158, 3), (5, .dup, 1), (6, .astore_n 2, 1), (7, .ifnonnull 7, 3), (10, .aconst_null, 1), (11, .goto 7, 3), (18, .areturn, 1)] := dd (by decide +kernel)
theorem Y102 : DD jdk_69_method_13_code [(0, .aload_n 0, 1), (1, .getfield 105, 3), (4, .dup, 1), (5, .astore_n 2, 1), (6, .ifnull 142, 3), (9, .aload_n 2, 1), (10, .arraylength, 1), (11, .dup, 1), (12, .istore 5, 2), (14, .ifCond .le 134, 3), (17, .aload_n 2, 1), (18, .iload 5, 2), (20, .iconst 1, 1), (21, .isub, 1), (22, .aload_n 1, 1), (23, .invokestatic 149, 3), (26, .dup, 1), (27, .istore 6, 2), (29, .iand, 1), (30, .aaload, 1), (31, .dup, 1), (32, .astore_n 3, 1), (33, .ifnull 115, 3), (148, .aconst_null, 1), (149, .areturn, 1)] := dd (by decide +kernel)
theorem Y103 : DD prog_81_method_1_code [(0, .aload_n 0, 1), (1, .invokespecial 1, 3), (4, .aload_n 1, 1), (5, .ldc 7, 2), (7, .invokestatic 9, 3), (10, .pop, 1), (11, .aload_n 0, 1), (12, .aload_n 1, 1), (13, .putfield 15, 3), (16, .aload_n 0, 1), (17, .aload_n 2, 1), (18, .putfield 20, 3), (21, .aload_n 0, 1), (22, .aload_n 3, 1), (23, .putfield 23, 3), (26, .return_, 1)] := dd (by decide +kernel)
theorem Y104 : DD jdk_31_method_11_code [(0, .aload_n 0, 1), (1, .ifnonnull 12, 3), (13, .aload_n 0, 1), (14, .areturn, 1)] := dd (by decide +kernel)
theorem Y105 : DD prog_81_method_3_code [(0, .aload_n 0, 1), (1, .getfield 23, 3), (4, .ifnonnull 7, 3), (7, .iconst 1, 1), (8, .goto 4, 3), (11, .iconst 0, 1), (12, .ireturn, 1)] := dd (by decide +kernel)
end Words
def Glob (Z : State) (a0 : Array Value) (EL : List (String × Nat)) : Prop :=
  (∀ d ∈ tables_1, d.before a0 Z = true) ∧ EW Z a0 EL ∧ EL = consts_1 ∧ (∃ z : Int32, Sta Z Z.heap "java/lang/String" "COMPACT_STRINGS" "Z" (.int z) ∧ ¬ z = 0) ∧ (∃ v : Value, Sta Z Z.heap "jdk/internal/util/Preconditions" "SIOOBE_FORMATTER" "Ljava/util/function/BiFunction;" v ∧ v.isRef = true) ∧ (Sta Z Z.heap "java/util/ArrayList" "DEFAULTCAPACITY_EMPTY_ELEMENTDATA" "[Ljava/lang/Object;" (.ref (sDE Z))) ∧ (Sta Z Z.heap "java/lang/CharacterDataLatin1" "instance" "Ljava/lang/CharacterDataLatin1;" (.ref (sCI Z))) ∧ (Sta Z Z.heap "java/lang/CharacterDataLatin1" "A" "[I" (.ref (sCA Z))) ∧ (Sta Z Z.heap "java/util/ImmutableCollections" "EMPTY" "Ljava/lang/Object;" (.ref (sEM Z))) ∧ (Sta Z Z.heap "java/util/ImmutableCollections" "EMPTY_LIST" "Ljava/util/ImmutableCollections$ListN;" (.ref (sEL Z))) ∧ (Exa Z Z.heap (sDE Z) "[Ljava/lang/Object;") ∧ (Arv Z Z.heap (sDE Z) (own_ka Z (sDE Z)) (.object "java/lang/Object") (0 : Int32) [] .null) ∧ (Exa Z Z.heap (sCI Z) "java/lang/CharacterDataLatin1") ∧ (Arv Z Z.heap (sCA Z) (own_ka Z (sCA Z)) .int (256 : Int32) own_tab (.int 0)) ∧ (Exa Z Z.heap (sEM Z) "java/lang/Object") ∧ (Exa Z Z.heap (sEL Z) "java/util/ImmutableCollections$ListN") ∧ (Fld Z Z.heap (sEL Z) "java/util/ImmutableCollections$ListN" "elements" "[Ljava/lang/Object;" (.ref (sEE Z))) ∧ (Fld Z Z.heap (sEL Z) "java/util/ImmutableCollections$ListN" "allowNulls" "Z" (.int (0 : Int32))) ∧ (Exa Z Z.heap (sEE Z) "[Ljava/lang/Object;") ∧ (Arv Z Z.heap (sEE Z) (own_ka Z (sEE Z)) (.object "java/lang/Object") (0 : Int32) [] .null) ∧ (Mi Z "[Ljava/lang/Object;" (sMO Z)) ∧ (Sta Z Z.heap "java/util/ImmutableCollections" "$assertionsDisabled" "Z" (.int 1))
theorem Glob.hw {Z : State} {a0 : Array Value} {EL : List (String × Nat)} (G : Glob Z a0 EL) : ∀ d ∈ tables_1, d.before a0 Z = true := G.1
theorem Glob.ew {Z : State} {a0 : Array Value} {EL : List (String × Nat)} (G : Glob Z a0 EL) : EW Z a0 EL := G.2.1
theorem Glob.el {Z : State} {a0 : Array Value} {EL : List (String × Nat)} (G : Glob Z a0 EL) : EL = consts_1 := G.2.2.1
theorem Glob.cs {Z : State} {a0 : Array Value} {EL : List (String × Nat)} (G : Glob Z a0 EL) : ∃ z : Int32, Sta Z Z.heap "java/lang/String" "COMPACT_STRINGS" "Z" (.int z) ∧ ¬ z = 0 := G.2.2.2.1
theorem Glob.fm {Z : State} {a0 : Array Value} {EL : List (String × Nat)} (G : Glob Z a0 EL) : ∃ v : Value, Sta Z Z.heap "jdk/internal/util/Preconditions" "SIOOBE_FORMATTER" "Ljava/util/function/BiFunction;" v ∧ v.isRef = true := G.2.2.2.2.1
theorem Glob.s1 {Z : State} {a0 : Array Value} {EL : List (String × Nat)} (G : Glob Z a0 EL) : Sta Z Z.heap "java/util/ArrayList" "DEFAULTCAPACITY_EMPTY_ELEMENTDATA" "[Ljava/lang/Object;" (.ref (sDE Z)) := G.2.2.2.2.2.1
theorem Glob.s2 {Z : State} {a0 : Array Value} {EL : List (String × Nat)} (G : Glob Z a0 EL) : Sta Z Z.heap "java/lang/CharacterDataLatin1" "instance" "Ljava/lang/CharacterDataLatin1;" (.ref (sCI Z)) := G.2.2.2.2.2.2.1
theorem Glob.s3 {Z : State} {a0 : Array Value} {EL : List (String × Nat)} (G : Glob Z a0 EL) : Sta Z Z.heap "java/lang/CharacterDataLatin1" "A" "[I" (.ref (sCA Z)) := G.2.2.2.2.2.2.2.1
theorem Glob.s4 {Z : State} {a0 : Array Value} {EL : List (String × Nat)} (G : Glob Z a0 EL) : Sta Z Z.heap "java/util/ImmutableCollections" "EMPTY" "Ljava/lang/Object;" (.ref (sEM Z)) := G.2.2.2.2.2.2.2.2.1
theorem Glob.s5 {Z : State} {a0 : Array Value} {EL : List (String × Nat)} (G : Glob Z a0 EL) : Sta Z Z.heap "java/util/ImmutableCollections" "EMPTY_LIST" "Ljava/util/ImmutableCollections$ListN;" (.ref (sEL Z)) := G.2.2.2.2.2.2.2.2.2.1
theorem Glob.t1 {Z : State} {a0 : Array Value} {EL : List (String × Nat)} (G : Glob Z a0 EL) : Exa Z Z.heap (sDE Z) "[Ljava/lang/Object;" := G.2.2.2.2.2.2.2.2.2.2.1
theorem Glob.t2 {Z : State} {a0 : Array Value} {EL : List (String × Nat)} (G : Glob Z a0 EL) : Arv Z Z.heap (sDE Z) (own_ka Z (sDE Z)) (.object "java/lang/Object") (0 : Int32) [] .null := G.2.2.2.2.2.2.2.2.2.2.2.1
theorem Glob.t3 {Z : State} {a0 : Array Value} {EL : List (String × Nat)} (G : Glob Z a0 EL) : Exa Z Z.heap (sCI Z) "java/lang/CharacterDataLatin1" := G.2.2.2.2.2.2.2.2.2.2.2.2.1
theorem Glob.t4 {Z : State} {a0 : Array Value} {EL : List (String × Nat)} (G : Glob Z a0 EL) : Arv Z Z.heap (sCA Z) (own_ka Z (sCA Z)) .int (256 : Int32) own_tab (.int 0) := G.2.2.2.2.2.2.2.2.2.2.2.2.2.1
theorem Glob.t5 {Z : State} {a0 : Array Value} {EL : List (String × Nat)} (G : Glob Z a0 EL) : Exa Z Z.heap (sEM Z) "java/lang/Object" := G.2.2.2.2.2.2.2.2.2.2.2.2.2.2.1
theorem Glob.t6 {Z : State} {a0 : Array Value} {EL : List (String × Nat)} (G : Glob Z a0 EL) : Exa Z Z.heap (sEL Z) "java/util/ImmutableCollections$ListN" := G.2.2.2.2.2.2.2.2.2.2.2.2.2.2.2.1
theorem Glob.t7 {Z : State} {a0 : Array Value} {EL : List (String × Nat)} (G : Glob Z a0 EL) : Fld Z Z.heap (sEL Z) "java/util/ImmutableCollections$ListN" "elements" "[Ljava/lang/Object;" (.ref (sEE Z)) := G.2.2.2.2.2.2.2.2.2.2.2.2.2.2.2.2.1
theorem Glob.t8 {Z : State} {a0 : Array Value} {EL : List (String × Nat)} (G : Glob Z a0 EL) : Fld Z Z.heap (sEL Z) "java/util/ImmutableCollections$ListN" "allowNulls" "Z" (.int (0 : Int32)) := G.2.2.2.2.2.2.2.2.2.2.2.2.2.2.2.2.2.1
theorem Glob.t9 {Z : State} {a0 : Array Value} {EL : List (String × Nat)} (G : Glob Z a0 EL) : Exa Z Z.heap (sEE Z) "[Ljava/lang/Object;" := G.2.2.2.2.2.2.2.2.2.2.2.2.2.2.2.2.2.2.1
theorem Glob.t10 {Z : State} {a0 : Array Value} {EL : List (String × Nat)} (G : Glob Z a0 EL) : Arv Z Z.heap (sEE Z) (own_ka Z (sEE Z)) (.object "java/lang/Object") (0 : Int32) [] .null := G.2.2.2.2.2.2.2.2.2.2.2.2.2.2.2.2.2.2.2.1
theorem Glob.m1 {Z : State} {a0 : Array Value} {EL : List (String × Nat)} (G : Glob Z a0 EL) : Mi Z "[Ljava/lang/Object;" (sMO Z) := G.2.2.2.2.2.2.2.2.2.2.2.2.2.2.2.2.2.2.2.2.1
theorem Glob.ad {Z : State} {a0 : Array Value} {EL : List (String × Nat)} (G : Glob Z a0 EL) : Sta Z Z.heap "java/util/ImmutableCollections" "$assertionsDisabled" "Z" (.int 1) := G.2.2.2.2.2.2.2.2.2.2.2.2.2.2.2.2.2.2.2.2.2
theorem Glob.wS {Z : State} {a0 : Array Value} {EL : List (String × Nat)} (G : Glob Z a0 EL) : ∀ a ∈ Bundle.stringAtoms, a.before a0 Z = true := fun d hd => G.hw d ((by decide +kernel : ∀ d ∈ Bundle.stringAtoms, d ∈ tables_1) d hd)
theorem Glob.w_backV {Z : State} {a0 : Array Value} {EL : List (String × Nat)} (G : Glob Z a0 EL) : ∀ d ∈ StrChars.Road.words, d.before a0 Z = true := fun d hd => G.hw d ((by decide +kernel : ∀ d ∈ StrChars.Road.words, d ∈ tables_1) d hd)
section Walks
variable (l : Launch) (Z : State) (a0 : Array Value) (EL : List (String × Nat))
theorem rm_coder (G : Glob Z a0 EL) (a : Addr) (h : Heap) (O : Ext Z.heap h) (F0 : Fld Z h a "java/lang/String" "coder" "B" (.int 0)) :
    Met l Z EL true ⟨"java/lang/String", "coder", "()B"⟩ jdk_42_method_152_code 1 (some .byte) [] ⟨0, 0, 0, 0⟩ #[(.ref a)] h [] (fun r h' => r = some (.int 0) ∧ h = h') := by
  have hw := G.hw
  obtain ⟨zc, Sc, hzc⟩ := G.cs
  refine Met.of (plainFor_of_name pn_537472696e67_11) G.ew O ?_
  intro p e s m below meth c T0 C0 S0
  refine Endw.eq (g' := mkF m 0 #[.val (.ref a)] []) rfl ?_
  refine C0.getS (wd hw 14 rfl) Sc (Y0 0 rfl) (pc' := 3) rfl ?_
  intro T1 C1
  refine C1.fN (Y0 1 rfl) (XT.i0_eq_f hzc) (C1.aL (Y0 2 rfl) rfl rfl ?_)
  refine C1.getF (wd hw 26 rfl) F0 (Y0 3 rfl) (pc' := 10) rfl ?_
  intro T2 C2
  refine C2.go (pc' := 14) (Y0 4 rfl) (by decide) rfl ?_
  exact C2.retI (t := .byte) rfl (by simp) rfl (Y0 5 rfl) (by decide) (by decide) ⟨rfl, rfl⟩
theorem rm_isLatin1 (G : Glob Z a0 EL) (a : Addr) (h : Heap) (O : Ext Z.heap h) (F0 : Fld Z h a "java/lang/String" "coder" "B" (.int 0)) :
    Met l Z EL true ⟨"java/lang/String", "isLatin1", "()Z"⟩ jdk_42_method_154_code 1 (some .boolean) [] ⟨0, 0, 0, 0⟩ #[(.ref a)] h [] (fun r h' => r = some (.int 1) ∧ h = h') := by
  have hw := G.hw
  obtain ⟨zc, Sc, hzc⟩ := G.cs
  refine Met.of (plainFor_of_name pn_537472696e67_11) G.ew O ?_
  intro p e s m below meth c T0 C0 S0
  refine Endw.eq (g' := mkF m 0 #[.val (.ref a)] []) rfl ?_
  refine C0.getS (wd hw 14 rfl) Sc (Y1 0 rfl) (pc' := 3) rfl ?_
  intro T1 C1
  refine C1.fN (Y1 1 rfl) (XT.i0_eq_f hzc) (C1.aL (Y1 2 rfl) rfl rfl ?_)
  refine C1.getF (wd hw 26 rfl) F0 (Y1 3 rfl) (pc' := 10) rfl ?_
  intro T2 C2
  refine C2.fN (Y1 4 rfl) (XT.i0_ne_f (by decide)) (C2.ic (z := 1) (Y1 5 rfl) rfl (C2.go (pc' := 18) (Y1 6 rfl) (by decide) rfl ?_))
  exact C2.retI (t := .boolean) rfl (by simp) rfl (Y1 7 rfl) (by decide) (by decide) ⟨rfl, rfl⟩
theorem rm_strLen (G : Glob Z a0 EL) (a t : Addr) (kb : ClassId) (cs : List Int32) (h : Heap) (O : Ext Z.heap h) (S : Str Z h a t kb cs) :
    Met l Z EL true ⟨"java/lang/String", "length", "()I"⟩ jdk_42_method_54_code 1 (some .int) [] ⟨1, 0, 0, 13⟩ #[(.ref a)] h [] (fun r h' => r = some (.int (Int32.ofNat cs.length)) ∧ h = h') := by
  have hw := G.hw
  refine Met.of (plainFor_of_name pn_537472696e67_11) G.ew O ?_
  intro p e s m below meth c T0 C0 S0
  refine Endw.eq (g' := mkF m 0 #[.val (.ref a)] []) rfl ?_
  refine C0.aL (Y2 0 rfl) rfl rfl ?_
  refine C0.getF (W28 hw) S.2.2.1 (Y2 1 rfl) (pc' := 4) rfl ?_
  intro T1 C1
  refine C1.len S.2.2.2.1 (Y2 2 rfl) (pc' := 5) rfl ?_
  refine C1.aL (Y2 3 rfl) rfl rfl ?_
  refine C1.virtual (W := 1) (wd hw 154 rfl) (wd hw 155 rfl) (fun _ q => notFace_of_selects (args := #[]) (mvT q (wd hw 157 rfl))) (wd hw 157 rfl) (wd hw 156 rfl) (wd hw 158 rfl) (W3 hw) (by decide) (rm_coder l Z a0 EL G a h C1.old S.2.1) (fun _ => rfl) rfl S.1 all0 (by decide) (by decide) (by decide) (by decide) (lenOf pd_282942 rfl) rfl (nb rfl) rfl (Y2 4 rfl) (pc' := 9) rfl ?_
  intro vm2 T2 h2 v2 C2 A2 M2 q2
  obtain ⟨rfl, rfl⟩ := q2
  refine Endw.st (T' := T2) (g' := (mkF m 10 #[.val (.ref a)] [(.int ((Int32.ofNat cs.length) >>> ((0 : Int32) &&& 31)))])) (fun _ k_ => XS.ishr C2.here C2.hx rfl (C2.dec (Y2 5 rfl)) rfl k_) ?_
  rw [own_shr0]
  exact C2.retI (t := .int) rfl (by simp) rfl (Y2 6 rfl) (by decide) (by decide) ⟨rfl, rfl⟩
theorem rm_inflIf (G : Glob Z a0 EL) (b a : Addr) (h : Heap) (O : Ext Z.heap h) (E0 : Exa Z h a "java/lang/String") (F0 : Fld Z h b "java/lang/AbstractStringBuilder" "coder" "B" (.int 0)) (F1 : Fld Z h a "java/lang/String" "coder" "B" (.int 0)) :
    Met l Z EL true ⟨"java/lang/AbstractStringBuilder", "inflateIfNeededFor", "(Ljava/lang/String;)V"⟩ jdk_68_method_71_code 2 none [] ⟨1, 0, 0, 13⟩ #[(.ref b), (.ref a)] h [] (fun r h' => r = none ∧ h = h') := by
  have hw := G.hw
  obtain ⟨zc, Sc, hzc⟩ := G.cs
  refine Met.of (plainFor_of_name pn_75696c646572_6) G.ew O ?_
  intro p e s m below meth c T0 C0 S0
  refine Endw.eq (g' := mkF m 0 #[.val (.ref b), .val (.ref a)] []) rfl ?_
  refine C0.getS (wd hw 361 rfl) Sc (Y3 0 rfl) (pc' := 3) rfl ?_
  intro T1 C1
  refine C1.fN (Y3 1 rfl) (XT.i0_eq_f hzc) (C1.aL (Y3 2 rfl) rfl rfl ?_)
  refine C1.getF (W364 hw) F0 (Y3 3 rfl) (pc' := 10) rfl ?_
  intro T2 C2
  refine C2.aL (Y3 4 rfl) rfl rfl ?_
  refine C2.virtual (W := 1) (wd hw 410 rfl) (wd hw 155 rfl) (fun _ q => notFace_of_selects (args := #[]) (mvT q (wd hw 157 rfl))) (wd hw 157 rfl) (wd hw 156 rfl) (wd hw 158 rfl) (W3 hw) (by decide) (rm_coder l Z a0 EL G a h C2.old F1) (fun _ => rfl) rfl E0 all0 (by decide) (by decide) (by decide) (by decide) (lenOf pd_282942 rfl) rfl (nb rfl) rfl (Y3 5 rfl) (pc' := 14) rfl ?_
  intro vm3 T3 h3 v3 C3 A3 M3 q3
  obtain ⟨rfl, rfl⟩ := q3
  refine C3.cY (pc' := 21) (Y3 6 rfl) (XT.ii_eq_t (by decide)) (by decide) rfl ?_
  exact C3.retV (Y3 7 rfl) (by decide) (by decide) ⟨rfl, rfl⟩
theorem rm_getBytes (G : Glob Z a0 EL) (a t : Addr) (kb : ClassId) (cs : List Int32) (d : Addr) (kd : ClassId) (ps : List Int32) (cap : Nat) (h : Heap) (O : Ext Z.heap h) (S : Str Z h a t kb cs) (V : Arv Z h d kd .byte (Int32.ofNat cap) (bys ps) (.int 0)) (hle : ps.length + cs.length ≤ cap) (hcap : cap ≤ 4000) (zd : Z.heap.size ≤ d) :
    Met l Z EL true ⟨"java/lang/String", "getBytes", "([BIB)V"⟩ jdk_42_method_147_code 4 none [] ⟨1, 0, 0, 18⟩ #[(.ref a), (.ref d), (.int (Int32.ofNat ps.length)), (.int 0)] h [d] (fun r h' => r = none ∧ Keep h h' [d] ∧ Arv Z h' d kd .byte (Int32.ofNat cap) (bys (ps ++ cs)) (.int 0)) := by
  have hw := G.hw
  refine Met.of (plainFor_of_name pn_537472696e67_11) G.ew O ?_
  intro p e s m below meth c T0 C0 S0
  refine Endw.eq (g' := mkF m 0 #[.val (.ref a), .val (.ref d), .val (.int (Int32.ofNat ps.length)), .val (.int 0)] []) rfl ?_
  refine C0.aL (Y4 0 rfl) rfl rfl ?_
  refine C0.virtual (W := 0) (wd hw 154 rfl) (wd hw 155 rfl) (fun _ q => notFace_of_selects (args := #[]) (mvT q (wd hw 157 rfl))) (wd hw 157 rfl) (wd hw 156 rfl) (wd hw 158 rfl) (W3 hw) (by decide) (rm_coder l Z a0 EL G a h C0.old S.2.1) (fun _ => rfl) rfl S.1 all0 (by decide) (by decide) (by decide) (by decide) (lenOf pd_282942 rfl) rfl (nb rfl) rfl (Y4 1 rfl) (pc' := 4) rfl ?_
  intro vm1 T1 h1 v1 C1 A1 M1 q1
  obtain ⟨rfl, rfl⟩ := q1
  refine C1.iL (Y4 2 rfl) rfl (C1.cN (Y4 3 rfl) (XT.ii_ne_f (by decide)) (C1.aL (Y4 4 rfl) rfl rfl ?_))
  refine C1.getF (W28 hw) S.2.2.1 (Y4 5 rfl) (pc' := 12) rfl ?_
  intro T2 C2
  refine C2.ic (z := 0) (Y4 6 rfl) rfl (C2.aL (Y4 7 rfl) rfl rfl (C2.iL (Y4 8 rfl) rfl (C2.iL (Y4 9 rfl) rfl ?_)))
  refine Endw.st (T' := T2) (g' := (mkF m 17 #[.val (.ref a), .val (.ref d), .val (.int (Int32.ofNat ps.length)), .val (.int 0)] [(.int ((Int32.ofNat ps.length) <<< ((0 : Int32) &&& 31))), (.ref d), (.int 0), (.ref t)])) (fun _ k_ => XS.ishl C2.here C2.hx rfl (C2.dec (Y4 10 rfl)) rfl k_) ?_
  rw [own_shl0]
  refine C2.aL (Y4 11 rfl) rfl rfl ?_
  refine C2.getF (W28 hw) S.2.2.1 (Y4 12 rfl) (pc' := 21) rfl ?_
  intro T3 C3
  refine C3.len S.2.2.2.1 (Y4 13 rfl) (pc' := 22) rfl ?_
  have f5 := (A1.safe V.lt (S0 d (by simp)))
  refine C3.acopyCat (cs := ps) (ds := cs) (cap := cap) (W := 0) (wd hw 416 rfl) (wd hw 249 rfl) (wd hw 247 rfl) (wd hw 248 rfl) S.2.2.2.1 V hle hcap zd f5 rfl (Y4 14 rfl) (pc' := 25) rfl (by decide) (nb rfl) (by decide) ?_
  intro T4 h4 C4 K4 A4 V4
  refine C4.go (pc' := 43) (Y4 15 rfl) (by decide) rfl ?_
  exact C4.retV (Y4 16 rfl) (by decide) (by decide) ⟨rfl, K4, V4⟩
theorem rm_putStr (G : Glob Z a0 EL) (b tb : Addr) (kb : ClassId) (ps : List Int32) (cap : Nat) (a t : Addr) (kc : ClassId) (cs : List Int32) (h : Heap) (O : Ext Z.heap h) (B : Sb Z h b tb kb ps cap) (S : Str Z h a t kc cs) (hle : ps.length + cs.length ≤ cap) (zt : Z.heap.size ≤ tb) :
    Met l Z EL true ⟨"java/lang/AbstractStringBuilder", "putStringAt", "(ILjava/lang/String;)V"⟩ jdk_68_method_73_code 3 none [] ⟨2, 0, 0, 33⟩ #[(.ref b), (.int (Int32.ofNat ps.length)), (.ref a)] h [tb] (fun r h' => r = none ∧ Keep h h' [tb] ∧ Arv Z h' tb kb .byte (Int32.ofNat cap) (bys (ps ++ cs)) (.int 0)) := by
  have hw := G.hw
  refine Met.of (plainFor_of_name pn_75696c646572_6) G.ew O ?_
  intro p e s m below meth c T0 C0 S0
  refine Endw.eq (g' := mkF m 0 #[.val (.ref b), .val (.int (Int32.ofNat ps.length)), .val (.ref a)] []) rfl ?_
  refine C0.aL (Y5 0 rfl) rfl rfl (C0.aL (Y5 1 rfl) rfl rfl ?_)
  refine C0.priv (W := 0) (wd hw 405 rfl) (wd hw 406 rfl) (own_plain (y := ⟨"java/lang/AbstractStringBuilder", "ensureCapacityInternal", "(I)V"⟩) (W383 hw) (W381 hw)) (wd hw 407 rfl) (wd hw 409 rfl) (W358 hw) (by decide) (rm_inflIf l Z a0 EL G b a h C0.old S.1 B.2.1.1 S.2.1) (fun _ => rfl) rfl B.1 all0 (by decide) (by decide) (by decide) (by decide) (lenOf pd_45 rfl) rfl (nb rfl) rfl (Y5 2 rfl) (pc' := 5) rfl ?_
  intro vm1 T1 h1 v1 C1 A1 M1 q1
  obtain ⟨rfl, rfl⟩ := q1
  refine C1.aL (Y5 3 rfl) rfl rfl (C1.aL (Y5 4 rfl) rfl rfl ?_)
  refine C1.getF (W362 hw) B.2.2.1 (Y5 5 rfl) (pc' := 10) rfl ?_
  intro T2 C2
  refine C2.iL (Y5 6 rfl) rfl (C2.aL (Y5 7 rfl) rfl rfl ?_)
  refine C2.getF (W364 hw) B.2.1.1 (Y5 8 rfl) (pc' := 15) rfl ?_
  intro T3 C3
  have f5 := (A1.safe B.2.2.2.1.lt (S0 tb (by simp)))
  refine C3.virtual (W := 0) (wd hw 411 rfl) (wd hw 412 rfl) (fun _ q => notFace_of_selects (args := #[]) (mvT q (wd hw 414 rfl))) (wd hw 414 rfl) (wd hw 413 rfl) (wd hw 415 rfl) (W3 hw) (by decide) (rm_getBytes l Z a0 EL G a t kc cs tb kb ps cap h C3.old S B.2.2.2.1 hle B.le4 zt) (fun _ => rfl) rfl S.1 (allS ⟨B.2.2.2.1.lt, f5⟩ all0) (by decide) (by decide) (by decide) (by decide) (lenOf pd_285b4249422956 rfl) rfl (nb rfl) rfl (Y5 9 rfl) (pc' := 18) rfl ?_
  intro vm4 T4 h4 v4 C4 A4 M4 q4
  obtain ⟨rfl, K4, V4⟩ := q4
  exact C4.retV (Y5 10 rfl) (by decide) (by decide) ⟨rfl, K4, V4⟩
theorem rm_ensure (G : Glob Z a0 EL) (b tb : Addr) (kb : ClassId) (ps : List Int32) (cap kk : Nat) (h : Heap) (O : Ext Z.heap h) (B : Sb Z h b tb kb ps cap) (hk : kk ≤ cap) :
    Met l Z EL true ⟨"java/lang/AbstractStringBuilder", "ensureCapacityInternal", "(I)V"⟩ jdk_68_method_9_code 3 none [] ⟨0, 0, 0, 0⟩ #[(.ref b), (.int (Int32.ofNat kk))] h [] (fun r h' => r = none ∧ h = h') := by
  have hw := G.hw
  refine Met.of (plainFor_of_name pn_75696c646572_6) G.ew O ?_
  intro p e s m below meth c T0 C0 S0
  refine Endw.eq (g' := mkF m 0 #[.val (.ref b), .val (.int (Int32.ofNat kk)), .unset] []) rfl ?_
  refine C0.aL (Y6 0 rfl) rfl rfl ?_
  refine C0.getF (W362 hw) B.2.2.1 (Y6 1 rfl) (pc' := 4) rfl ?_
  intro T1 C1
  refine C1.len B.2.2.2.1 (Y6 2 rfl) (pc' := 5) rfl ?_
  refine C1.aL (Y6 3 rfl) rfl rfl ?_
  refine C1.getF (W364 hw) B.2.1.1 (Y6 4 rfl) (pc' := 9) rfl ?_
  intro T2 C2
  refine Endw.st (T' := T2) (g' := (mkF m 10 #[.val (.ref b), .val (.int (Int32.ofNat kk)), .unset] [(.int ((Int32.ofNat cap) >>> ((0 : Int32) &&& 31)))])) (fun _ k_ => XS.ishr C2.here C2.hx rfl (C2.dec (Y6 5 rfl)) rfl k_) ?_
  rw [own_shr0]
  refine C2.iS (Y6 6 rfl) (l' := #[.val (.ref b), .val (.int (Int32.ofNat kk)), .val (.int (Int32.ofNat cap))]) rfl (C2.iL (Y6 7 rfl) rfl (C2.iL (Y6 8 rfl) rfl (C2.sb (z := ((Int32.ofNat kk) - (Int32.ofNat cap))) (Y6 9 rfl) rfl (C2.fY (pc' := 38) (Y6 10 rfl) (XT.i0_le_t (own_sub_le hk B.le4)) (by decide) rfl ?_))))
  exact C2.retV (Y6 22 rfl) (by decide) (by decide) ⟨rfl, rfl⟩
theorem rm_min (G : Glob Z a0 EL) (x y : Int32) (h : Heap) (O : Ext Z.heap h)  :
    Met l Z EL true ⟨"java/lang/Math", "min", "(II)I"⟩ jdk_29_method_69_code 2 (some .int) [] ⟨0, 0, 0, 0⟩ #[(.int x), (.int y)] h [] (fun r h' => r = some (.int (if y < x then y else x)) ∧ h = h') := by
  refine Met.of (by decide +kernel) G.ew O ?_
  intro p e s m below meth c T0 C0 S0
  refine Endw.eq (g' := mkF m 0 #[.val (.int x), .val (.int y)] []) rfl ?_
  refine C0.iL (Y7 0 rfl) rfl (C0.iL (Y7 1 rfl) rfl ?_)
  by_cases c1 : y < x
  · refine C0.cY (pc' := 9) (Y7 2 rfl) (XT.ii_gt_t c1) (by decide) rfl (C0.iL (Y7 5 rfl) rfl ?_)
    exact C0.retI (t := .int) rfl (by simp) rfl (Y7 6 rfl) (by decide) (by decide) ⟨by rw [if_pos c1], rfl⟩
  · refine C0.cN (Y7 2 rfl) (XT.ii_gt_f c1) (C0.iL (Y7 3 rfl) rfl (C0.go (pc' := 10) (Y7 4 rfl) (by decide) rfl ?_))
    exact C0.retI (t := .int) rfl (by simp) rfl (Y7 6 rfl) (by decide) (by decide) ⟨by rw [if_neg c1], rfl⟩
theorem rm_max (G : Glob Z a0 EL) (x y : Int32) (h : Heap) (O : Ext Z.heap h)  :
    Met l Z EL true ⟨"java/lang/Math", "max", "(II)I"⟩ jdk_29_method_65_code 2 (some .int) [] ⟨0, 0, 0, 0⟩ #[(.int x), (.int y)] h [] (fun r h' => r = some (.int (if x < y then y else x)) ∧ h = h') := by
  refine Met.of (by decide +kernel) G.ew O ?_
  intro p e s m below meth c T0 C0 S0
  refine Endw.eq (g' := mkF m 0 #[.val (.int x), .val (.int y)] []) rfl ?_
  refine C0.iL (Y8 0 rfl) rfl (C0.iL (Y8 1 rfl) rfl ?_)
  by_cases c1 : x < y
  · refine C0.cY (pc' := 9) (Y8 2 rfl) (XT.ii_lt_t c1) (by decide) rfl (C0.iL (Y8 5 rfl) rfl ?_)
    exact C0.retI (t := .int) rfl (by simp) rfl (Y8 6 rfl) (by decide) (by decide) ⟨by rw [if_pos c1], rfl⟩
  · refine C0.cN (Y8 2 rfl) (XT.ii_lt_f c1) (C0.iL (Y8 3 rfl) rfl (C0.go (pc' := 10) (Y8 4 rfl) (by decide) rfl ?_))
    exact C0.retI (t := .int) rfl (by simp) rfl (Y8 6 rfl) (by decide) (by decide) ⟨by rw [if_neg c1], rfl⟩
theorem rm_newLen (G : Glob Z a0 EL) (cap d pr nl : Nat) (hnl : nl = cap + Nat.max d pr) (hp : 0 < nl) (hl : nl ≤ 4000) (h : Heap) (O : Ext Z.heap h)  :
    Met l Z EL true ⟨"jdk/internal/util/ArraysSupport", "newLength", "(III)I"⟩ jdk_48_method_27_code 4 (some .int) [] ⟨1, 0, 0, 14⟩ #[(.int (Int32.ofNat cap)), (.int (Int32.ofNat d)), (.int (Int32.ofNat pr))] h [] (fun r h' => r = some (.int (Int32.ofNat nl)) ∧ h = h') := by
  have hw := G.hw
  refine Met.of (plainFor_of_name pn_7570706f7274_30) G.ew O ?_
  intro p e s m below meth c T0 C0 S0
  refine Endw.eq (g' := mkF m 0 #[.val (.int (Int32.ofNat cap)), .val (.int (Int32.ofNat d)), .val (.int (Int32.ofNat pr)), .unset] []) rfl ?_
  refine C0.iL (Y9 0 rfl) rfl (C0.iL (Y9 1 rfl) rfl (C0.iL (Y9 2 rfl) rfl ?_))
  refine C0.static (W := 1) (wd hw 394 rfl) (wd hw 86 rfl) (wd hw 88 rfl) (W87 hw) (by decide) (rm_max l Z a0 EL G (Int32.ofNat d) (Int32.ofNat pr) h C0.old) (fun _ => rfl) rfl all0 (by decide) (by decide) (by decide) (by decide) (lenOf pd_2849492949 rfl) rfl (nb rfl) rfl (Y9 3 rfl) (pc' := 6) rfl ?_
  intro vm1 T1 h1 v1 C1 A1 M1 q1
  rw [(own_max (by have : d ≤ Nat.max d pr := Nat.le_max_left d pr; omega) (by have : pr ≤ Nat.max d pr := Nat.le_max_right d pr; omega))] at q1
  obtain ⟨rfl, rfl⟩ := q1
  refine C1.ad (z := ((Int32.ofNat cap) + (Int32.ofNat (Nat.max d pr)))) (Y9 4 rfl) rfl ?_
  rw [show ((Int32.ofNat cap) + (Int32.ofNat (Nat.max d pr))) = (Int32.ofNat nl) from by rw [own_add, hnl]]
  refine C1.iS (Y9 5 rfl) (l' := #[.val (.int (Int32.ofNat cap)), .val (.int (Int32.ofNat d)), .val (.int (Int32.ofNat pr)), .val (.int (Int32.ofNat nl))]) rfl (C1.ic (z := 0) (Y9 6 rfl) rfl (C1.iL (Y9 7 rfl) rfl (C1.cN (Y9 8 rfl) (XT.ii_ge_f (own_pos hp (by omega))) (C1.iL (Y9 9 rfl) rfl ?_))))
  refine Endw.st (T' := T1) (g' := (mkF m 16 #[.val (.int (Int32.ofNat cap)), .val (.int (Int32.ofNat d)), .val (.int (Int32.ofNat pr)), .val (.int (Int32.ofNat nl))] [(.int 2147483639), (.int (Int32.ofNat nl))])) (fun _ k_ => own_ldcI C1 (wd hw 395 rfl) rfl (Y9 10 rfl) k_) ?_
  refine C1.cN (Y9 11 rfl) (XT.ii_gt_f (own_small (by omega))) (C1.iL (Y9 12 rfl) rfl ?_)
  exact C1.retI (t := .int) rfl (by simp) rfl (Y9 13 rfl) (by decide) (by decide) ⟨rfl, rfl⟩
theorem rm_newCap (G : Glob Z a0 EL) (b tb : Addr) (kb : ClassId) (ps : List Int32) (cap kk nc : Nat) (h : Heap) (O : Ext Z.heap h) (B : Sb Z h b tb kb ps cap) (hgt : cap < kk) (hG : Grow cap kk nc) (hnc : nc ≤ 40) :
    Met l Z EL true ⟨"java/lang/AbstractStringBuilder", "newCapacity", "(I)I"⟩ jdk_68_method_10_code 6 (some .int) [] ⟨2, 0, 0, 29⟩ #[(.ref b), (.int (Int32.ofNat kk))] h [] (fun r h' => r = some (.int (Int32.ofNat nc)) ∧ h = h') := by
  have hw := G.hw
  refine Met.of (plainFor_of_name pn_75696c646572_6) G.ew O ?_
  intro p e s m below meth c T0 C0 S0
  refine Endw.eq (g' := mkF m 0 #[.val (.ref b), .val (.int (Int32.ofNat kk)), .unset, .unset, .unset, .unset] []) rfl ?_
  refine C0.aL (Y10 0 rfl) rfl rfl ?_
  refine C0.getF (W362 hw) B.2.2.1 (Y10 1 rfl) (pc' := 4) rfl ?_
  intro T1 C1
  refine C1.len B.2.2.2.1 (Y10 2 rfl) (pc' := 5) rfl ?_
  refine C1.iS (Y10 3 rfl) (l' := #[.val (.ref b), .val (.int (Int32.ofNat kk)), .val (.int (Int32.ofNat cap)), .unset, .unset, .unset]) rfl (C1.iL (Y10 4 rfl) rfl (C1.aL (Y10 5 rfl) rfl rfl ?_))
  refine C1.getF (W364 hw) B.2.1.1 (Y10 6 rfl) (pc' := 11) rfl ?_
  intro T2 C2
  refine Endw.st (T' := T2) (g' := (mkF m 12 #[.val (.ref b), .val (.int (Int32.ofNat kk)), .val (.int (Int32.ofNat cap)), .unset, .unset, .unset] [(.int ((Int32.ofNat kk) <<< ((0 : Int32) &&& 31)))])) (fun _ k_ => XS.ishl C2.here C2.hx rfl (C2.dec (Y10 7 rfl)) rfl k_) ?_
  rw [own_shl0]
  refine C2.iS (Y10 8 rfl) (l' := #[.val (.ref b), .val (.int (Int32.ofNat kk)), .val (.int (Int32.ofNat cap)), .val (.int (Int32.ofNat kk)), .unset, .unset]) rfl (C2.iL (Y10 9 rfl) rfl (C2.iL (Y10 10 rfl) rfl (C2.sb (z := ((Int32.ofNat kk) - (Int32.ofNat cap))) (Y10 11 rfl) rfl ?_)))
  rw [show ((Int32.ofNat kk) - (Int32.ofNat cap)) = (Int32.ofNat (kk - cap)) from own_sub (by omega)]
  refine C2.iSk (Y10 12 rfl) (l' := #[.val (.ref b), .val (.int (Int32.ofNat kk)), .val (.int (Int32.ofNat cap)), .val (.int (Int32.ofNat kk)), .val (.int (Int32.ofNat (kk - cap))), .unset]) rfl (C2.iL (Y10 13 rfl) rfl (C2.iLk (Y10 14 rfl) rfl (C2.iL (Y10 15 rfl) rfl (C2.ic (z := 2) (Y10 16 rfl) rfl (C2.aL (Y10 17 rfl) rfl rfl ?_)))))
  refine C2.getF (W364 hw) B.2.1.1 (Y10 18 rfl) (pc' := 27) rfl ?_
  intro T3 C3
  refine Endw.st (T' := T3) (g' := (mkF m 28 #[.val (.ref b), .val (.int (Int32.ofNat kk)), .val (.int (Int32.ofNat cap)), .val (.int (Int32.ofNat kk)), .val (.int (Int32.ofNat (kk - cap))), .unset] [(.int ((2 : Int32) <<< ((0 : Int32) &&& 31))), (.int (Int32.ofNat cap)), (.int (Int32.ofNat (kk - cap))), (.int (Int32.ofNat cap))])) (fun _ k_ => XS.ishl C3.here C3.hx rfl (C3.dec (Y10 19 rfl)) rfl k_) ?_
  rw [own_shl0]
  refine C3.ad (z := ((Int32.ofNat cap) + (2 : Int32))) (Y10 20 rfl) rfl ?_
  rw [show ((Int32.ofNat cap) + (2 : Int32)) = (Int32.ofNat (cap + 2)) from own_add cap 2]
  refine C3.static (W := 0) (wd hw 390 rfl) (wd hw 391 rfl) (wd hw 393 rfl) (wd hw 392 rfl) (by decide) (rm_newLen l Z a0 EL G cap (kk - cap) (cap + 2) nc hG.2 (by have := hG.1; omega) (by omega) h C3.old) (fun _ => rfl) rfl all0 (by decide) (by decide) (by decide) (by decide) (lenOf pd_284949492949 rfl) rfl (nb rfl) rfl (Y10 21 rfl) (pc' := 32) rfl ?_
  intro vm4 T4 h4 v4 C4 A4 M4 q4
  obtain ⟨rfl, rfl⟩ := q4
  refine C4.iSk (Y10 22 rfl) (l' := #[.val (.ref b), .val (.int (Int32.ofNat kk)), .val (.int (Int32.ofNat cap)), .val (.int (Int32.ofNat kk)), .val (.int (Int32.ofNat (kk - cap))), .val (.int (Int32.ofNat nc))]) rfl (C4.iLk (Y10 23 rfl) rfl ?_)
  refine Endw.st (T' := T4) (g' := (mkF m 38 #[.val (.ref b), .val (.int (Int32.ofNat kk)), .val (.int (Int32.ofNat cap)), .val (.int (Int32.ofNat kk)), .val (.int (Int32.ofNat (kk - cap))), .val (.int (Int32.ofNat nc))] [(.int 2147483647), (.int (Int32.ofNat nc))])) (fun _ k_ => own_ldcI C4 (wd hw 396 rfl) rfl (Y10 24 rfl) k_) ?_
  refine C4.cY (pc' := 51) (Y10 25 rfl) (XT.ii_ne_t (own_nmax (by omega))) (by decide) rfl (C4.iLk (Y10 26 rfl) rfl (C4.aL (Y10 27 rfl) rfl rfl ?_))
  refine C4.getF (W364 hw) B.2.1.1 (Y10 28 rfl) (pc' := 57) rfl ?_
  intro T5 C5
  refine Endw.st (T' := T5) (g' := (mkF m 58 #[.val (.ref b), .val (.int (Int32.ofNat kk)), .val (.int (Int32.ofNat cap)), .val (.int (Int32.ofNat kk)), .val (.int (Int32.ofNat (kk - cap))), .val (.int (Int32.ofNat nc))] [(.int ((Int32.ofNat nc) >>> ((0 : Int32) &&& 31)))])) (fun _ k_ => XS.ishr C5.here C5.hx rfl (C5.dec (Y10 29 rfl)) rfl k_) ?_
  rw [own_shr0]
  exact C5.retI (t := .int) rfl (by simp) rfl (Y10 30 rfl) (by decide) (by decide) ⟨rfl, rfl⟩
theorem rm_copyOf (G : Glob Z a0 EL) (t : Addr) (kb : ClassId) (ps : List Int32) (cap nc : Nat) (h : Heap) (O : Ext Z.heap h) (V : Arv Z h t kb .byte (Int32.ofNat cap) (bys ps) (.int 0)) (hle : ps.length ≤ cap) (hgt : cap < nc) (hnc : nc ≤ 40) :
    Met l Z EL true ⟨"java/util/Arrays", "copyOf", "([BI)[B"⟩ jdk_65_method_121_code 3 (some (.array .byte)) [] ⟨1, 1, 40, 18⟩ #[(.ref t), (.int (Int32.ofNat nc))] h [] (fun r h' => ∃ (d : Addr) (kd : ClassId), r = some (.ref d) ∧ Keep h h' [] ∧ h.size ≤ d ∧ Z.heap.size ≤ d ∧ Arv Z h' d kd .byte (Int32.ofNat nc) (bys ps) (.int 0)) := by
  have hw := G.hw
  refine Met.of (plainFor_of_name pn_417272617973_19) G.ew O ?_
  intro p e s m below meth c T0 C0 S0
  refine Endw.eq (g' := mkF m 0 #[.val (.ref t), .val (.int (Int32.ofNat nc)), .unset] []) rfl ?_
  refine C0.iL (Y11 0 rfl) rfl (C0.aL (Y11 1 rfl) rfl rfl ?_)
  refine C0.len V (Y11 2 rfl) (pc' := 3) rfl ?_
  refine C0.cY (pc' := 14) (Y11 3 rfl) (XT.ii_ne_t (fun q => absurd ((own_ieq (by omega) (by omega)).mp q) (by omega))) (by decide) rfl (C0.iL (Y11 4 rfl) rfl ?_)
  refine C0.newA (aty := .byte) (z := (Int32.ofNat nc)) (cap := 40) (vs := []) (W19 hw) (Y11 5 rfl) (pc' := 17) rfl (own_nn (by omega)) (by rw [own_nc (by omega)]; exact hnc) (by decide) (by decide) (by decide) rfl ?_
  intro T1 h1 a1 kA1 C1 K1 A1 ge1 zg1 V1 S1
  refine C1.aS (Y11 6 rfl) rfl (l' := #[.val (.ref t), .val (.int (Int32.ofNat nc)), .val (.ref a1)]) rfl (C1.aL (Y11 7 rfl) rfl rfl (C1.ic (z := 0) (Y11 8 rfl) rfl (C1.aL (Y11 9 rfl) rfl rfl (C1.ic (z := 0) (Y11 10 rfl) rfl (C1.aL (Y11 11 rfl) rfl rfl ?_)))))
  have f2 := (V.keep K1 nin0)
  refine C1.len f2 (Y11 12 rfl) (pc' := 24) rfl ?_
  refine C1.iL (Y11 13 rfl) rfl ?_
  refine C1.static (W := 4) (wd hw 245 rfl) (wd hw 194 rfl) (wd hw 195 rfl) (W87 hw) (by decide) (rm_min l Z a0 EL G (Int32.ofNat cap) (Int32.ofNat nc) h1 C1.old) (fun _ => rfl) rfl all0 (by decide) (by decide) (by decide) (by decide) (lenOf pd_2849492949 rfl) rfl (nb rfl) rfl (Y11 14 rfl) (pc' := 28) rfl ?_
  intro vm3 T3 h3 v3 C3 A3 M3 q3
  rw [(own_min_l (by omega) (by omega))] at q3
  obtain ⟨rfl, rfl⟩ := q3
  have f5 := (A3.safe V1.lt S1)
  refine C3.acopyNew (cs := ps) (cap := cap) (N := nc) (M := cap) (W := 0) (wd hw 246 rfl) (wd hw 249 rfl) (wd hw 247 rfl) (wd hw 248 rfl) f2 V1 hle (Nat.le_refl _) (by omega) (by omega) (by omega) zg1 f5 rfl (Y11 15 rfl) (pc' := 31) rfl (by decide) (nb rfl) (by decide) ?_
  intro T4 h4 C4 K4 A4 V4
  refine C4.aL (Y11 16 rfl) rfl rfl ?_
  have KK6 := (kT (kT (kR h []) K1 all0) K4 (allS (Or.inr ge1) all0))
  exact C4.retA (t := (.array .byte)) rfl rfl rfl rfl (Y11 17 rfl) (by decide) (by decide) ⟨a1, kA1, rfl, KK6, ge1, zg1, V4⟩
theorem rm_ensureG (G : Glob Z a0 EL) (b tb : Addr) (kb : ClassId) (ps : List Int32) (cap kk nc : Nat) (h : Heap) (O : Ext Z.heap h) (B : Sb Z h b tb kb ps cap) (hgt : cap < kk) (hG : Grow cap kk nc) (hnc : nc ≤ 40) (hk4 : kk ≤ 4000) (zb : Z.heap.size ≤ b) :
    Met l Z EL true ⟨"java/lang/AbstractStringBuilder", "ensureCapacityInternal", "(I)V"⟩ jdk_68_method_9_code 3 none [] ⟨3, 1, 40, 48⟩ #[(.ref b), (.int (Int32.ofNat kk))] h [] (fun r h' => r = none ∧ ∃ (tn : Addr) (kn : ClassId), Keep h h' [b] ∧ h.size ≤ tn ∧ Z.heap.size ≤ tn ∧ Sb Z h' b tn kn ps nc) := by
  have hw := G.hw
  refine Met.of (plainFor_of_name pn_75696c646572_6) G.ew O ?_
  intro p e s m below meth c T0 C0 S0
  refine Endw.eq (g' := mkF m 0 #[.val (.ref b), .val (.int (Int32.ofNat kk)), .unset] []) rfl ?_
  refine C0.aL (Y6 0 rfl) rfl rfl ?_
  refine C0.getF (W362 hw) B.2.2.1 (Y6 1 rfl) (pc' := 4) rfl ?_
  intro T1 C1
  refine C1.len B.2.2.2.1 (Y6 2 rfl) (pc' := 5) rfl ?_
  refine C1.aL (Y6 3 rfl) rfl rfl ?_
  refine C1.getF (W364 hw) B.2.1.1 (Y6 4 rfl) (pc' := 9) rfl ?_
  intro T2 C2
  refine Endw.st (T' := T2) (g' := (mkF m 10 #[.val (.ref b), .val (.int (Int32.ofNat kk)), .unset] [(.int ((Int32.ofNat cap) >>> ((0 : Int32) &&& 31)))])) (fun _ k_ => XS.ishr C2.here C2.hx rfl (C2.dec (Y6 5 rfl)) rfl k_) ?_
  rw [own_shr0]
  refine C2.iS (Y6 6 rfl) (l' := #[.val (.ref b), .val (.int (Int32.ofNat kk)), .val (.int (Int32.ofNat cap))]) rfl (C2.iL (Y6 7 rfl) rfl (C2.iL (Y6 8 rfl) rfl (C2.sb (z := ((Int32.ofNat kk) - (Int32.ofNat cap))) (Y6 9 rfl) rfl (C2.fN (Y6 10 rfl) (XT.i0_le_f (own_sub_gt hgt hk4)) (C2.aL (Y6 11 rfl) rfl rfl (C2.aL (Y6 12 rfl) rfl rfl ?_))))))
  refine C2.getF (W362 hw) B.2.2.1 (Y6 13 rfl) (pc' := 22) rfl ?_
  intro T3 C3
  refine C3.aL (Y6 14 rfl) rfl rfl (C3.iL (Y6 15 rfl) rfl ?_)
  refine C3.priv (W := 2) (wd hw 385 rfl) (wd hw 386 rfl) (own_plain (y := ⟨"java/lang/AbstractStringBuilder", "ensureCapacityInternal", "(I)V"⟩) (W383 hw) (W381 hw)) (wd hw 387 rfl) (wd hw 389 rfl) (W358 hw) (by decide) (rm_newCap l Z a0 EL G b tb kb ps cap kk nc h C3.old B hgt hG hnc) (fun _ => rfl) rfl B.1 all0 (by decide) (by decide) (by decide) (by decide) (lenOf pd_28492949 rfl) rfl (nb rfl) rfl (Y6 16 rfl) (pc' := 27) rfl ?_
  intro vm4 T4 h4 v4 C4 A4 M4 q4
  obtain ⟨rfl, rfl⟩ := q4
  refine C4.aL (Y6 17 rfl) rfl rfl ?_
  refine C4.getF (W364 hw) B.2.1.1 (Y6 18 rfl) (pc' := 31) rfl ?_
  intro T5 C5
  refine Endw.st (T' := T5) (g' := (mkF m 32 #[.val (.ref b), .val (.int (Int32.ofNat kk)), .val (.int (Int32.ofNat cap))] [(.int ((Int32.ofNat nc) <<< ((0 : Int32) &&& 31))), (.ref tb), (.ref b)])) (fun _ k_ => XS.ishl C5.here C5.hx rfl (C5.dec (Y6 19 rfl)) rfl k_) ?_
  rw [own_shl0]
  refine C5.static (W := 1) (wd hw 397 rfl) (wd hw 398 rfl) (wd hw 399 rfl) (W232 hw) (by decide) (rm_copyOf l Z a0 EL G tb kb ps cap nc h C5.old B.2.2.2.1 B.le (by have := hG.1; omega) hnc) (fun _ => rfl) rfl all0 (by decide) (by decide) (by decide) (by decide) (lenOf pd_285b4249295b42 rfl) rfl (nb rfl) rfl (Y6 20 rfl) (pc' := 35) rfl ?_
  intro vm6 T6 h6 v6 C6 A6 M6 q6
  obtain ⟨d6, kd6, rfl, K6, ge6, zg6, V6⟩ := q6
  have f7 := (B.1.keep K6)
  have f8 := (B.2.2.1.keep K6 nin0)
  have f10 := (B.2.1.1.keep K6 nin0)
  have f11 := (B.2.1.2.keep K6 nin0)
  refine C6.putF (v := (.ref d6)) (W362 hw) f8 f7 (Or.inl (W363 hw)) (W349 hw) (ty := (.array .byte)) (by decide) rfl rfl zb (Safe.exa C6.warm.alike f7 (by decide) (by decide)) (Y6 21 rfl) (pc' := 38) rfl ?_
  intro T9 h9 C9 K9 A9 Wr9
  have f12 := f8.same Wr9
  have f13 := f10.other Wr9 (Or.inr (slot_ne (Or.inl (W365 hw)) (Or.inl (W363 hw)) (by decide) (t := .byte) (t' := (.array .byte)) (by decide) (by decide)))
  have f14 := f11.other Wr9 (Or.inr (slot_ne (Or.inl (W379 hw)) (Or.inl (W363 hw)) (by decide) (t := .int) (t' := (.array .byte)) (by decide) (by decide)))
  have ne15 : d6 ≠ b := (Ne.symm (nL (lL B.1.lt ge6)))
  have f16 := (V6.keep K9 (ninS ne15 nin0))
  have KK17 := (kT (kT (kR h [b]) K6 all0) K9 (allS m0 all0))
  have f18 := (f7.keep K9)
  exact C9.retV (Y6 22 rfl) (by decide) (by decide) ⟨rfl, d6, kd6, KK17, ge6, zg6, ⟨f18, ⟨f13, f14⟩, f12, f16, B.2.2.2.2.1, by have := B.le; have := hG.1; omega, by omega⟩⟩
theorem rm_asbAppend (G : Glob Z a0 EL) (b tb : Addr) (kb : ClassId) (ps : List Int32) (cap : Nat) (a t : Addr) (kc : ClassId) (cs : List Int32) (h : Heap) (O : Ext Z.heap h) (B : Sb Z h b tb kb ps cap) (S : Str Z h a t kc cs) (hle : ps.length + cs.length ≤ cap) (zb : Z.heap.size ≤ b) (zt : Z.heap.size ≤ tb) :
    Met l Z EL true ⟨"java/lang/AbstractStringBuilder", "append", "(Ljava/lang/String;)Ljava/lang/AbstractStringBuilder;"⟩ jdk_68_method_22_code 3 (some (.object "java/lang/AbstractStringBuilder")) [] ⟨3, 0, 0, 47⟩ #[(.ref b), (.ref a)] h [tb] (fun r h' => r = some (.ref b) ∧ Keep h h' [b, tb] ∧ Sb Z h' b tb kb (ps ++ cs) cap) := by
  have hw := G.hw
  refine Met.of (plainFor_of_name pn_75696c646572_6) G.ew O ?_
  intro p e s m below meth c T0 C0 S0
  refine Endw.eq (g' := mkF m 0 #[.val (.ref b), .val (.ref a), .unset] []) rfl ?_
  refine C0.aL (Y12 0 rfl) rfl rfl ?_
  refine Endw.st (T' := T0) (g' := (mkF m 9 #[.val (.ref b), .val (.ref a), .unset] [])) (fun _ k_ => XS.ifnonnullYes C0.here C0.hx rfl (pc0 := 1) rfl (C0.dec (Y12 1 rfl)) rfl (by decide) rfl k_) ?_
  refine C0.aL (Y12 2 rfl) rfl rfl ?_
  refine C0.virtual (W := 0) (wd hw 377 rfl) (W150 hw) (fun _ q => notFace_of_selects (args := #[]) (mvT q (W152 hw))) (W152 hw) (W151 hw) (W153 hw) (W3 hw) (by decide) (rm_strLen l Z a0 EL G a t kc cs h C0.old S) (fun _ => rfl) rfl S.1 all0 (by decide) (by decide) (by decide) (by decide) (lenOf pd_282949 rfl) rfl (nb rfl) rfl (Y12 3 rfl) (pc' := 13) rfl ?_
  intro vm1 T1 h1 v1 C1 A1 M1 q1
  obtain ⟨rfl, rfl⟩ := q1
  refine C1.iS (Y12 4 rfl) (l' := #[.val (.ref b), .val (.ref a), .val (.int (Int32.ofNat cs.length))]) rfl (C1.aL (Y12 5 rfl) rfl rfl (C1.aL (Y12 6 rfl) rfl rfl ?_))
  refine C1.getF (W378 hw) B.2.1.2 (Y12 7 rfl) (pc' := 19) rfl ?_
  intro T2 C2
  refine C2.iL (Y12 8 rfl) rfl (C2.ad (z := ((Int32.ofNat ps.length) + (Int32.ofNat cs.length))) (Y12 9 rfl) rfl ?_)
  rw [show ((Int32.ofNat ps.length) + (Int32.ofNat cs.length)) = (Int32.ofNat (ps ++ cs).length) from by rw [own_add, List.length_append]]
  refine C2.priv (W := 0) (wd hw 380 rfl) (W381 hw) (own_plain (y := ⟨"java/lang/AbstractStringBuilder", "ensureCapacityInternal", "(I)V"⟩) (W383 hw) (W381 hw)) (wd hw 382 rfl) (wd hw 384 rfl) (W358 hw) (by decide) (rm_ensure l Z a0 EL G b tb kb ps cap (ps ++ cs).length h C2.old B (by rw [List.length_append]; exact hle)) (fun _ => rfl) rfl B.1 all0 (by decide) (by decide) (by decide) (by decide) (lenOf pd_28492956 rfl) rfl (nb rfl) rfl (Y12 10 rfl) (pc' := 24) rfl ?_
  intro vm3 T3 h3 v3 C3 A3 M3 q3
  obtain ⟨rfl, rfl⟩ := q3
  refine C3.aL (Y12 11 rfl) rfl rfl (C3.aL (Y12 12 rfl) rfl rfl ?_)
  refine C3.getF (W378 hw) B.2.1.2 (Y12 13 rfl) (pc' := 29) rfl ?_
  intro T4 C4
  refine C4.aL (Y12 14 rfl) rfl rfl ?_
  have f6 := (A3.safe B.2.2.2.1.lt (A1.safe B.2.2.2.1.lt (S0 tb (by simp))))
  refine C4.priv (W := 0) (wd hw 400 rfl) (wd hw 401 rfl) (own_plain (y := ⟨"java/lang/AbstractStringBuilder", "ensureCapacityInternal", "(I)V"⟩) (W383 hw) (W381 hw)) (wd hw 402 rfl) (wd hw 404 rfl) (W358 hw) (by decide) (rm_putStr l Z a0 EL G b tb kb ps cap a t kc cs h C4.old B S hle zt) (fun _ => rfl) rfl B.1 (allS ⟨B.2.2.2.1.lt, f6⟩ all0) (by decide) (by decide) (by decide) (by decide) (lenOf pd_31 rfl) rfl (nb rfl) rfl (Y12 15 rfl) (pc' := 33) rfl ?_
  intro vm5 T5 h5 v5 C5 A5 M5 q5
  obtain ⟨rfl, K5, V5⟩ := q5
  refine C5.aL (Y12 16 rfl) rfl rfl (C5.du (Y12 17 rfl) rfl ?_)
  have ne7 : b ≠ tb := (RoadKit.Exa.neArv B.1 B.2.2.2.1 (W349 hw))
  have f8 := (B.2.1.2.keep K5 (ninS ne7 nin0))
  refine C5.getF (W378 hw) f8 (Y12 18 rfl) (pc' := 38) rfl ?_
  intro T9 C9
  refine C9.iL (Y12 19 rfl) rfl (C9.ad (z := ((Int32.ofNat ps.length) + (Int32.ofNat cs.length))) (Y12 20 rfl) rfl ?_)
  rw [show ((Int32.ofNat ps.length) + (Int32.ofNat cs.length)) = (Int32.ofNat (ps ++ cs).length) from by rw [own_add, List.length_append]]
  have f10 := (B.1.keep K5)
  have f12 := (B.2.1.1.keep K5 (ninS ne7 nin0))
  have f13 := (B.2.2.1.keep K5 (ninS ne7 nin0))
  refine C9.putF (v := (.int (Int32.ofNat (ps ++ cs).length))) (W378 hw) f8 f10 (Or.inl (W379 hw)) (W349 hw) (ty := .int) (by decide) rfl rfl zb (Safe.exa C9.warm.alike f10 (by decide) (by decide)) (Y12 21 rfl) (pc' := 43) rfl ?_
  intro T11 h11 C11 K11 A11 Wr11
  have f14 := f8.same Wr11
  have f15 := f12.other Wr11 (Or.inr (slot_ne (Or.inl (W365 hw)) (Or.inl (W379 hw)) (by decide) (t := .byte) (t' := .int) (by decide) (by decide)))
  have f16 := f13.other Wr11 (Or.inr (slot_ne (Or.inl (W363 hw)) (Or.inl (W379 hw)) (by decide) (t := (.array .byte)) (t' := .int) (by decide) (by decide)))
  refine C11.aL (Y12 22 rfl) rfl rfl ?_
  have f17 := (f10.keep K11)
  have f18 := (V5.keep K11 (ninS (Ne.symm ne7) nin0))
  have KK19 := (kT (kT (kR h [tb, b]) K5 (allS m0 all0)) K11 (allS m1 all0))
  exact C11.retA (t := (.object "java/lang/AbstractStringBuilder")) rfl rfl rfl rfl (Y12 23 rfl) (by decide) (by decide) ⟨rfl, (kT (kR h [b, tb]) KK19 (allS m1 (allS m0 all0))), ⟨f17, ⟨f15, f14⟩, f16, f18, own_all_app B.2.2.2.2.1 S.2.2.2.2.1, by rw [List.length_append]; exact hle, B.le4⟩⟩
theorem rm_asbAppendG (G : Glob Z a0 EL) (b tb : Addr) (kb : ClassId) (ps : List Int32) (cap : Nat) (a t : Addr) (kc : ClassId) (cs : List Int32) (nc : Nat) (h : Heap) (O : Ext Z.heap h) (B : Sb Z h b tb kb ps cap) (S : Str Z h a t kc cs) (hgt : cap < ps.length + cs.length) (hG : Grow cap (ps.length + cs.length) nc) (hnc : nc ≤ 40) (zb : Z.heap.size ≤ b) :
    Met l Z EL true ⟨"java/lang/AbstractStringBuilder", "append", "(Ljava/lang/String;)Ljava/lang/AbstractStringBuilder;"⟩ jdk_68_method_22_code 3 (some (.object "java/lang/AbstractStringBuilder")) [] ⟨4, 1, 40, 62⟩ #[(.ref b), (.ref a)] h [] (fun r h' => r = some (.ref b) ∧ ∃ (tn : Addr) (kn : ClassId), Keep h h' [b] ∧ h.size ≤ tn ∧ Z.heap.size ≤ tn ∧ Sb Z h' b tn kn (ps ++ cs) nc) := by
  have hw := G.hw
  refine Met.of (plainFor_of_name pn_75696c646572_6) G.ew O ?_
  intro p e s m below meth c T0 C0 S0
  refine Endw.eq (g' := mkF m 0 #[.val (.ref b), .val (.ref a), .unset] []) rfl ?_
  refine C0.aL (Y12 0 rfl) rfl rfl ?_
  refine Endw.st (T' := T0) (g' := (mkF m 9 #[.val (.ref b), .val (.ref a), .unset] [])) (fun _ k_ => XS.ifnonnullYes C0.here C0.hx rfl (pc0 := 1) rfl (C0.dec (Y12 1 rfl)) rfl (by decide) rfl k_) ?_
  refine C0.aL (Y12 2 rfl) rfl rfl ?_
  refine C0.virtual (W := 0) (wd hw 377 rfl) (W150 hw) (fun _ q => notFace_of_selects (args := #[]) (mvT q (W152 hw))) (W152 hw) (W151 hw) (W153 hw) (W3 hw) (by decide) (rm_strLen l Z a0 EL G a t kc cs h C0.old S) (fun _ => rfl) rfl S.1 all0 (by decide) (by decide) (by decide) (by decide) (lenOf pd_282949 rfl) rfl (nb rfl) rfl (Y12 3 rfl) (pc' := 13) rfl ?_
  intro vm1 T1 h1 v1 C1 A1 M1 q1
  obtain ⟨rfl, rfl⟩ := q1
  refine C1.iS (Y12 4 rfl) (l' := #[.val (.ref b), .val (.ref a), .val (.int (Int32.ofNat cs.length))]) rfl (C1.aL (Y12 5 rfl) rfl rfl (C1.aL (Y12 6 rfl) rfl rfl ?_))
  refine C1.getF (W378 hw) B.2.1.2 (Y12 7 rfl) (pc' := 19) rfl ?_
  intro T2 C2
  refine C2.iL (Y12 8 rfl) rfl (C2.ad (z := ((Int32.ofNat ps.length) + (Int32.ofNat cs.length))) (Y12 9 rfl) rfl ?_)
  rw [show ((Int32.ofNat ps.length) + (Int32.ofNat cs.length)) = (Int32.ofNat (ps ++ cs).length) from by rw [own_add, List.length_append]]
  refine C2.priv (W := 0) (wd hw 380 rfl) (W381 hw) (own_plain (y := ⟨"java/lang/AbstractStringBuilder", "ensureCapacityInternal", "(I)V"⟩) (W383 hw) (W381 hw)) (wd hw 382 rfl) (wd hw 384 rfl) (W358 hw) (by decide) (rm_ensureG l Z a0 EL G b tb kb ps cap (ps ++ cs).length nc h C2.old B (by rw [List.length_append]; exact hgt) (by rw [List.length_append]; exact hG) hnc (by rw [List.length_append]; have := hG.1; omega) zb) (fun _ => rfl) rfl B.1 all0 (by decide) (by decide) (by decide) (by decide) (lenOf pd_28492956 rfl) rfl (nb rfl) rfl (Y12 10 rfl) (pc' := 24) rfl ?_
  intro vm3 T3 h3 v3 C3 A3 M3 q3
  obtain ⟨rfl, t3, kb3, K3, ge3, zg3, Z3⟩ := q3
  refine C3.aL (Y12 11 rfl) rfl rfl (C3.aL (Y12 12 rfl) rfl rfl ?_)
  refine C3.getF (W378 hw) Z3.2.1.2 (Y12 13 rfl) (pc' := 29) rfl ?_
  intro T4 C4
  refine C4.aL (Y12 14 rfl) rfl rfl ?_
  have ne5 : a ≠ b := (RoadKit.Exa.ne S.1 B.1 (by decide))
  have ne6 : t ≠ b := (Ne.symm (RoadKit.Exa.neArv B.1 S.2.2.2.1 (W349 hw)))
  have f7 := (S.keep K3 (ninS ne5 nin0) (ninS ne6 nin0))
  refine C4.priv (W := 0) (wd hw 400 rfl) (wd hw 401 rfl) (own_plain (y := ⟨"java/lang/AbstractStringBuilder", "ensureCapacityInternal", "(I)V"⟩) (W383 hw) (W381 hw)) (wd hw 402 rfl) (wd hw 404 rfl) (W358 hw) (by decide) (rm_putStr l Z a0 EL G b t3 kb3 ps nc a t kc cs h3 C4.old Z3 f7 (by have := hG.1; omega) zg3) (fun _ => rfl) rfl Z3.1 (allS ⟨Z3.2.2.2.1.lt, (own_safe_new (M3 rfl) ge3)⟩ all0) (by decide) (by decide) (by decide) (by decide) (lenOf pd_31 rfl) rfl (nb rfl) rfl (Y12 15 rfl) (pc' := 33) rfl ?_
  intro vm8 T8 h8 v8 C8 A8 M8 q8
  obtain ⟨rfl, K8, V8⟩ := q8
  refine C8.aL (Y12 16 rfl) rfl rfl (C8.du (Y12 17 rfl) rfl ?_)
  have ne9 : b ≠ t3 := (nL (lL B.1.lt ge3))
  have f10 := (Z3.2.1.2.keep K8 (ninS ne9 nin0))
  refine C8.getF (W378 hw) f10 (Y12 18 rfl) (pc' := 38) rfl ?_
  intro T11 C11
  refine C11.iL (Y12 19 rfl) rfl (C11.ad (z := ((Int32.ofNat ps.length) + (Int32.ofNat cs.length))) (Y12 20 rfl) rfl ?_)
  rw [show ((Int32.ofNat ps.length) + (Int32.ofNat cs.length)) = (Int32.ofNat (ps ++ cs).length) from by rw [own_add, List.length_append]]
  have f12 := (Z3.1.keep K8)
  have f14 := (Z3.2.1.1.keep K8 (ninS ne9 nin0))
  have f15 := (Z3.2.2.1.keep K8 (ninS ne9 nin0))
  refine C11.putF (v := (.int (Int32.ofNat (ps ++ cs).length))) (W378 hw) f10 f12 (Or.inl (W379 hw)) (W349 hw) (ty := .int) (by decide) rfl rfl zb (Safe.exa C11.warm.alike f12 (by decide) (by decide)) (Y12 21 rfl) (pc' := 43) rfl ?_
  intro T13 h13 C13 K13 A13 Wr13
  have f16 := f10.same Wr13
  have f17 := f14.other Wr13 (Or.inr (slot_ne (Or.inl (W365 hw)) (Or.inl (W379 hw)) (by decide) (t := .byte) (t' := .int) (by decide) (by decide)))
  have f18 := f15.other Wr13 (Or.inr (slot_ne (Or.inl (W363 hw)) (Or.inl (W379 hw)) (by decide) (t := (.array .byte)) (t' := .int) (by decide) (by decide)))
  refine C13.aL (Y12 22 rfl) rfl rfl ?_
  have f19 := (f12.keep K13)
  have f20 := (V8.keep K13 (ninS (Ne.symm ne9) nin0))
  have KK21 := (kT (kT (kT (kR h [b]) K3 (allS m0 all0)) K8 (allS (Or.inr ge3) all0)) K13 (allS m0 all0))
  exact C13.retA (t := (.object "java/lang/AbstractStringBuilder")) rfl rfl rfl rfl (Y12 23 rfl) (by decide) (by decide) ⟨rfl, t3, kb3, KK21, ge3, zg3, ⟨f19, ⟨f17, f16⟩, f18, f20, own_all_app B.2.2.2.2.1 S.2.2.2.2.1, by rw [List.length_append]; exact hG.1, by omega⟩⟩
theorem rm_sbAppend (G : Glob Z a0 EL) (b tb : Addr) (kb : ClassId) (ps : List Int32) (cap : Nat) (a t : Addr) (kc : ClassId) (cs : List Int32) (h : Heap) (O : Ext Z.heap h) (B : Sb Z h b tb kb ps cap) (S : Str Z h a t kc cs) (hle : ps.length + cs.length ≤ cap) (zb : Z.heap.size ≤ b) (zt : Z.heap.size ≤ tb) :
    Met l Z EL true ⟨"java/lang/StringBuilder", "append", "(Ljava/lang/String;)Ljava/lang/StringBuilder;"⟩ jdk_67_method_7_code 2 (some (.object "java/lang/StringBuilder")) [] ⟨4, 0, 0, 61⟩ #[(.ref b), (.ref a)] h [tb] (fun r h' => r = some (.ref b) ∧ Keep h h' [b, tb] ∧ Sb Z h' b tb kb (ps ++ cs) cap) := by
  have hw := G.hw
  refine Met.of (plainFor_of_name pn_75696c646572_12) G.ew O ?_
  intro p e s m below meth c T0 C0 S0
  refine Endw.eq (g' := mkF m 0 #[.val (.ref b), .val (.ref a)] []) rfl ?_
  refine C0.aL (Y13 0 rfl) rfl rfl (C0.aL (Y13 1 rfl) rfl rfl ?_)
  refine C0.super (y := ⟨"java/lang/AbstractStringBuilder", "append", "(Ljava/lang/String;)Ljava/lang/AbstractStringBuilder;"⟩) (W := 0) (a := b) (argsL := [(.ref a)]) (rest := []) (by decide) (wd hw 372 rfl) (own_same (wd hw 375 rfl) (own_plain (y := ⟨"java/lang/AbstractStringBuilder", "ensureCapacityInternal", "(I)V"⟩) (W383 hw) (W381 hw)) (by decide)) (wd hw 373 rfl) (wd hw 374 rfl) (wd hw 376 rfl) (W358 hw) (rm_asbAppend l Z a0 EL G b tb kb ps cap a t kc cs h C0.old B S hle zb zt) (fun _ => rfl) rfl B.1 (allS ⟨B.2.2.2.1.lt, (S0 tb (by simp))⟩ all0) (by decide) (by decide) (by decide) (by decide) (lenOf pd_42 rfl) rfl (nb rfl) rfl (Y13 2 rfl) (pc' := 5) rfl ?_
  intro vm1 T1 h1 v1 C1 A1 M1 q1
  obtain ⟨rfl, K1, Z1⟩ := q1
  refine Endw.st (T' := T1) (g' := (mkF m 6 #[.val (.ref b), .val (.ref a)] [])) (fun _ k_ => XS.pop C1.here C1.hx rfl (C1.dec (Y13 3 rfl)) rfl rfl k_) ?_
  refine C1.aL (Y13 4 rfl) rfl rfl ?_
  exact C1.retA (t := (.object "java/lang/StringBuilder")) rfl rfl rfl rfl (Y13 5 rfl) (by decide) (by decide) ⟨rfl, K1, Z1⟩
theorem rm_sbAppendG (G : Glob Z a0 EL) (b tb : Addr) (kb : ClassId) (ps : List Int32) (cap : Nat) (a t : Addr) (kc : ClassId) (cs : List Int32) (nc : Nat) (h : Heap) (O : Ext Z.heap h) (B : Sb Z h b tb kb ps cap) (S : Str Z h a t kc cs) (hgt : cap < ps.length + cs.length) (hG : Grow cap (ps.length + cs.length) nc) (hnc : nc ≤ 40) (zb : Z.heap.size ≤ b) :
    Met l Z EL true ⟨"java/lang/StringBuilder", "append", "(Ljava/lang/String;)Ljava/lang/StringBuilder;"⟩ jdk_67_method_7_code 2 (some (.object "java/lang/StringBuilder")) [] ⟨5, 1, 40, 76⟩ #[(.ref b), (.ref a)] h [] (fun r h' => r = some (.ref b) ∧ ∃ (tn : Addr) (kn : ClassId), Keep h h' [b] ∧ h.size ≤ tn ∧ Z.heap.size ≤ tn ∧ Sb Z h' b tn kn (ps ++ cs) nc) := by
  have hw := G.hw
  refine Met.of (plainFor_of_name pn_75696c646572_12) G.ew O ?_
  intro p e s m below meth c T0 C0 S0
  refine Endw.eq (g' := mkF m 0 #[.val (.ref b), .val (.ref a)] []) rfl ?_
  refine C0.aL (Y13 0 rfl) rfl rfl (C0.aL (Y13 1 rfl) rfl rfl ?_)
  refine C0.super (y := ⟨"java/lang/AbstractStringBuilder", "append", "(Ljava/lang/String;)Ljava/lang/AbstractStringBuilder;"⟩) (W := 0) (a := b) (argsL := [(.ref a)]) (rest := []) (by decide) (wd hw 372 rfl) (own_same (wd hw 375 rfl) (own_plain (y := ⟨"java/lang/AbstractStringBuilder", "ensureCapacityInternal", "(I)V"⟩) (W383 hw) (W381 hw)) (by decide)) (wd hw 373 rfl) (wd hw 374 rfl) (wd hw 376 rfl) (W358 hw) (rm_asbAppendG l Z a0 EL G b tb kb ps cap a t kc cs nc h C0.old B S hgt hG hnc zb) (fun _ => rfl) rfl B.1 all0 (by decide) (by decide) (by decide) (by decide) (lenOf pd_42 rfl) rfl (nb rfl) rfl (Y13 2 rfl) (pc' := 5) rfl ?_
  intro vm1 T1 h1 v1 C1 A1 M1 q1
  obtain ⟨rfl, t1, kb1, K1, ge1, zg1, Z1⟩ := q1
  refine Endw.st (T' := T1) (g' := (mkF m 6 #[.val (.ref b), .val (.ref a)] [])) (fun _ k_ => XS.pop C1.here C1.hx rfl (C1.dec (Y13 3 rfl)) rfl rfl k_) ?_
  refine C1.aL (Y13 4 rfl) rfl rfl ?_
  exact C1.retA (t := (.object "java/lang/StringBuilder")) rfl rfl rfl rfl (Y13 5 rfl) (by decide) (by decide) ⟨rfl, t1, kb1, K1, ge1, zg1, Z1⟩
theorem rm_asbInit (G : Glob Z a0 EL) (b : Addr) (h : Heap) (O : Ext Z.heap h) (E0 : Exa Z h b "java/lang/StringBuilder") (F0 : Fld Z h b "java/lang/AbstractStringBuilder" "value" "[B" .null) (F1 : Fld Z h b "java/lang/AbstractStringBuilder" "coder" "B" (.int 0)) (F2 : Fld Z h b "java/lang/AbstractStringBuilder" "count" "I" (.int 0)) (zb : Z.heap.size ≤ b) :
    Met l Z EL true ⟨"java/lang/AbstractStringBuilder", "<init>", "(I)V"⟩ jdk_68_method_2_code 2 none [] ⟨1, 1, 16, 12⟩ #[(.ref b), (.int 16)] h [] (fun r h' => r = none ∧ ∃ (t : Addr) (kb : ClassId), Keep h h' [b] ∧ h.size ≤ t ∧ Z.heap.size ≤ t ∧ Sb Z h' b t kb [] 16) := by
  have hw := G.hw
  obtain ⟨zc, Sc, hzc⟩ := G.cs
  refine Met.of (plainFor_of_name pn_75696c646572_6) G.ew O ?_
  intro p e s m below meth c T0 C0 S0
  refine Endw.eq (g' := mkF m 0 #[.val (.ref b), .val (.int 16)] []) rfl ?_
  refine C0.aL (Y14 0 rfl) rfl rfl ?_
  refine C0.initO (wd hw 360 rfl) (W12 hw) (W13 hw) rfl (Y14 1 rfl) (pc' := 4) rfl (by decide) (W := 0) (nb rfl) (by decide) ?_
  intro T1 C1
  refine C1.getS (wd hw 361 rfl) Sc (Y14 2 rfl) (pc' := 7) rfl ?_
  intro T2 C2
  refine C2.fN (Y14 3 rfl) (XT.i0_eq_f hzc) (C2.aL (Y14 4 rfl) rfl rfl (C2.iL (Y14 5 rfl) rfl ?_))
  refine C2.newA (aty := .byte) (z := (16 : Int32)) (cap := 16) (vs := []) (W19 hw) (Y14 6 rfl) (pc' := 14) rfl (by decide) (by decide) (by decide) (by decide) (by decide) rfl ?_
  intro T3 h3 a3 kA3 C3 K3 A3 ge3 zg3 V3 S3
  have f4 := (E0.keep K3)
  have f5 := (F0.keep K3 nin0)
  have f7 := (F1.keep K3 nin0)
  have f8 := (F2.keep K3 nin0)
  refine C3.putF (v := (.ref a3)) (W362 hw) f5 f4 (Or.inl (W363 hw)) (W349 hw) (ty := (.array .byte)) (by decide) rfl rfl zb (Safe.exa C3.warm.alike f4 (by decide) (by decide)) (Y14 7 rfl) (pc' := 17) rfl ?_
  intro T6 h6 C6 K6 A6 Wr6
  have f9 := f5.same Wr6
  have f10 := f7.other Wr6 (Or.inr (slot_ne (Or.inl (W365 hw)) (Or.inl (W363 hw)) (by decide) (t := .byte) (t' := (.array .byte)) (by decide) (by decide)))
  have f11 := f8.other Wr6 (Or.inr (slot_ne (Or.inl (W379 hw)) (Or.inl (W363 hw)) (by decide) (t := .int) (t' := (.array .byte)) (by decide) (by decide)))
  refine C6.aL (Y14 8 rfl) rfl rfl (C6.ic (z := 0) (Y14 9 rfl) rfl ?_)
  have f12 := (f4.keep K6)
  refine C6.putF (v := (.int 0)) (W364 hw) f10 f12 (Or.inl (W365 hw)) (W349 hw) (ty := .byte) (by decide) rfl rfl zb (Safe.exa C6.warm.alike f12 (by decide) (by decide)) (Y14 10 rfl) (pc' := 22) rfl ?_
  intro T13 h13 C13 K13 A13 Wr13
  have f14 := f10.same Wr13
  have f15 := f9.other Wr13 (Or.inr (slot_ne (Or.inl (W363 hw)) (Or.inl (W365 hw)) (by decide) (t := (.array .byte)) (t' := .byte) (by decide) (by decide)))
  have f16 := f11.other Wr13 (Or.inr (slot_ne (Or.inl (W379 hw)) (Or.inl (W365 hw)) (by decide) (t := .int) (t' := .byte) (by decide) (by decide)))
  refine C13.go (pc' := 38) (Y14 11 rfl) (by decide) rfl ?_
  have KK17 := (kT (kT (kR h3 [b]) K6 (allS m0 all0)) K13 (allS m0 all0))
  have ne18 : a3 ≠ b := (Ne.symm (nL (lL E0.lt ge3)))
  have f19 := (V3.keep KK17 (ninS ne18 nin0))
  have KK20 := (kT (kT (kT (kR h [b]) K3 all0) K6 (allS m0 all0)) K13 (allS m0 all0))
  have f21 := (f12.keep K13)
  exact C13.retV (Y14 12 rfl) (by decide) (by decide) ⟨rfl, a3, kA3, KK20, ge3, zg3, ⟨f21, ⟨f14, f16⟩, f15, f19, own_c0, by decide, by decide⟩⟩
theorem rm_sbInit (G : Glob Z a0 EL) (b : Addr) (h : Heap) (O : Ext Z.heap h) (E0 : Exa Z h b "java/lang/StringBuilder") (F0 : Fld Z h b "java/lang/AbstractStringBuilder" "value" "[B" .null) (F1 : Fld Z h b "java/lang/AbstractStringBuilder" "coder" "B" (.int 0)) (F2 : Fld Z h b "java/lang/AbstractStringBuilder" "count" "I" (.int 0)) (zb : Z.heap.size ≤ b) :
    Met l Z EL true ⟨"java/lang/StringBuilder", "<init>", "()V"⟩ jdk_67_method_1_code 1 none [] ⟨2, 1, 16, 25⟩ #[(.ref b)] h [] (fun r h' => r = none ∧ ∃ (t : Addr) (kb : ClassId), Keep h h' [b] ∧ h.size ≤ t ∧ Z.heap.size ≤ t ∧ Sb Z h' b t kb [] 16) := by
  have hw := G.hw
  refine Met.of (plainFor_of_name pn_75696c646572_12) G.ew O ?_
  intro p e s m below meth c T0 C0 S0
  refine Endw.eq (g' := mkF m 0 #[.val (.ref b)] []) rfl ?_
  refine C0.aL (Y15 0 rfl) rfl rfl (C0.bi (z := 16) (Y15 1 rfl) rfl ?_)
  refine C0.special (y := ⟨"java/lang/AbstractStringBuilder", "<init>", "(I)V"⟩) (W := 0) rfl (wd hw 354 rfl) (wd hw 355 rfl) (wd hw 359 rfl) (W358 hw) (by decide) (rm_asbInit l Z a0 EL G b h C0.old E0 F0 F1 F2 zb) (fun _ => rfl) rfl all0 (by decide) (by decide) (by decide) (by decide) (lenOf pd_28492956 rfl) rfl (nb rfl) rfl (Y15 2 rfl) (pc' := 6) rfl ?_
  intro vm1 T1 h1 v1 C1 A1 M1 q1
  obtain ⟨rfl, t1, kb1, K1, ge1, zg1, Z1⟩ := q1
  exact C1.retV (Y15 3 rfl) (by decide) (by decide) ⟨rfl, t1, kb1, K1, ge1, zg1, Z1⟩
theorem rm_getValue (G : Glob Z a0 EL) (b t : Addr) (h : Heap) (O : Ext Z.heap h) (F0 : Fld Z h b "java/lang/AbstractStringBuilder" "value" "[B" (.ref t)) :
    Met l Z EL true ⟨"java/lang/AbstractStringBuilder", "getValue", "()[B"⟩ jdk_68_method_64_code 1 (some (.array .byte)) [] ⟨0, 0, 0, 0⟩ #[(.ref b)] h [] (fun r h' => r = some (.ref t) ∧ h = h') := by
  have hw := G.hw
  refine Met.of (plainFor_of_name pn_75696c646572_6) G.ew O ?_
  intro p e s m below meth c T0 C0 S0
  refine Endw.eq (g' := mkF m 0 #[.val (.ref b)] []) rfl ?_
  refine C0.aL (Y16 0 rfl) rfl rfl ?_
  refine C0.getF (W362 hw) F0 (Y16 1 rfl) (pc' := 4) rfl ?_
  intro T1 C1
  exact C1.retA (t := (.array .byte)) rfl rfl rfl rfl (Y16 2 rfl) (by decide) (by decide) ⟨rfl, rfl⟩
theorem rm_asbLen (G : Glob Z a0 EL) (b : Addr) (x : Int32) (h : Heap) (O : Ext Z.heap h) (E0 : Exa Z h b "java/lang/StringBuilder") (F0 : Fld Z h b "java/lang/AbstractStringBuilder" "count" "I" (.int x)) :
    Met l Z EL true ⟨"java/lang/AbstractStringBuilder", "length", "()I"⟩ jdk_68_method_6_code 1 (some .int) [] ⟨0, 0, 0, 0⟩ #[(.ref b)] h [] (fun r h' => r = some (.int x) ∧ h = h') := by
  have hw := G.hw
  refine Met.of (plainFor_of_name pn_75696c646572_6) G.ew O ?_
  intro p e s m below meth c T0 C0 S0
  refine Endw.eq (g' := mkF m 0 #[.val (.ref b)] []) rfl ?_
  refine C0.aL (Y17 0 rfl) rfl rfl ?_
  refine C0.getF (W378 hw) F0 (Y17 1 rfl) (pc' := 4) rfl ?_
  intro T1 C1
  exact C1.retI (t := .int) rfl (by simp) rfl (Y17 2 rfl) (by decide) (by decide) ⟨rfl, rfl⟩
theorem rm_sbLen (G : Glob Z a0 EL) (b : Addr) (x : Int32) (h : Heap) (O : Ext Z.heap h) (E0 : Exa Z h b "java/lang/StringBuilder") (F0 : Fld Z h b "java/lang/AbstractStringBuilder" "count" "I" (.int x)) :
    Met l Z EL true ⟨"java/lang/StringBuilder", "length", "()I"⟩ jdk_67_method_93_code 1 (some .int) [] ⟨1, 0, 0, 12⟩ #[(.ref b)] h [] (fun r h' => r = some (.int x) ∧ h = h') := by
  have hw := G.hw
  refine Met.of (plainFor_of_name pn_75696c646572_12) G.ew O ?_
  intro p e s m below meth c T0 C0 S0
  refine Endw.eq (g' := mkF m 0 #[.val (.ref b)] []) rfl ?_
  refine C0.aL (Y18 0 rfl) rfl rfl ?_
  refine C0.super (y := ⟨"java/lang/AbstractStringBuilder", "length", "()I"⟩) (W := 0) (a := b) (argsL := []) (rest := []) (by decide) (wd hw 440 rfl) (own_same (wd hw 435 rfl) (own_plain (y := ⟨"java/lang/AbstractStringBuilder", "ensureCapacityInternal", "(I)V"⟩) (W383 hw) (W381 hw)) (by decide)) (wd hw 436 rfl) (wd hw 374 rfl) (wd hw 441 rfl) (W358 hw) (rm_asbLen l Z a0 EL G b x h C0.old E0 F0) (fun _ => rfl) rfl E0 all0 (by decide) (by decide) (by decide) (by decide) (lenOf pd_282949 rfl) rfl (nb rfl) rfl (Y18 1 rfl) (pc' := 4) rfl ?_
  intro vm1 T1 h1 v1 C1 A1 M1 q1
  obtain ⟨rfl, rfl⟩ := q1
  exact C1.retI (t := .int) rfl (by simp) rfl (Y18 2 rfl) (by decide) (by decide) ⟨rfl, rfl⟩
theorem rm_asbLat (G : Glob Z a0 EL) (b : Addr) (h : Heap) (O : Ext Z.heap h) (F0 : Fld Z h b "java/lang/AbstractStringBuilder" "coder" "B" (.int 0)) :
    Met l Z EL true ⟨"java/lang/AbstractStringBuilder", "isLatin1", "()Z"⟩ jdk_68_method_68_code 1 (some .boolean) [] ⟨0, 0, 0, 0⟩ #[(.ref b)] h [] (fun r h' => r = some (.int 1) ∧ h = h') := by
  have hw := G.hw
  obtain ⟨zc, Sc, hzc⟩ := G.cs
  refine Met.of (plainFor_of_name pn_75696c646572_6) G.ew O ?_
  intro p e s m below meth c T0 C0 S0
  refine Endw.eq (g' := mkF m 0 #[.val (.ref b)] []) rfl ?_
  refine C0.getS (wd hw 361 rfl) Sc (Y19 0 rfl) (pc' := 3) rfl ?_
  intro T1 C1
  refine C1.fN (Y19 1 rfl) (XT.i0_eq_f hzc) (C1.aL (Y19 2 rfl) rfl rfl ?_)
  refine C1.getF (W364 hw) F0 (Y19 3 rfl) (pc' := 10) rfl ?_
  intro T2 C2
  refine C2.fN (Y19 4 rfl) (XT.i0_ne_f (by decide)) (C2.ic (z := 1) (Y19 5 rfl) rfl (C2.go (pc' := 18) (Y19 6 rfl) (by decide) rfl ?_))
  exact C2.retI (t := .boolean) rfl (by simp) rfl (Y19 7 rfl) (by decide) (by decide) ⟨rfl, rfl⟩
theorem rm_checkLen (G : Glob Z a0 EL) (x y : Int32) (hxy : ¬ y < x) (h : Heap) (O : Ext Z.heap h)  :
    Met l Z EL true ⟨"java/util/Arrays", "checkLength", "(II)V"⟩ jdk_65_method_131_code 2 none [] ⟨0, 0, 0, 0⟩ #[(.int x), (.int y)] h [] (fun r h' => r = none ∧ h = h') := by
  refine Met.of (plainFor_of_name pn_417272617973_19) G.ew O ?_
  intro p e s m below meth c T0 C0 S0
  refine Endw.eq (g' := mkF m 0 #[.val (.int x), .val (.int y)] []) rfl ?_
  refine C0.iL (Y20 0 rfl) rfl (C0.iL (Y20 1 rfl) rfl (C0.cY (pc' := 37) (Y20 2 rfl) (XT.ii_ge_t hxy) (by decide) rfl ?_))
  exact C0.retV (Y20 3 rfl) (by decide) (by decide) ⟨rfl, rfl⟩
theorem rm_copyRB (G : Glob Z a0 EL) (t : Addr) (kb : ClassId) (cs : List Int32) (cap : Nat) (h : Heap) (O : Ext Z.heap h) (V : Arv Z h t kb .byte (Int32.ofNat cap) (bys cs) (.int 0)) (hlt : cs.length < cap) (hcap : cap ≤ 4000) (hl : cs.length ≤ 40) :
    Met l Z EL true ⟨"java/util/Arrays", "copyOfRangeByte", "([BII)[B"⟩ jdk_65_method_133_code 5 (some (.array .byte)) [] ⟨1, 1, 40, 18⟩ #[(.ref t), (.int 0), (.int (Int32.ofNat cs.length))] h [] (fun r h' => ∃ (d : Addr) (kd : ClassId), r = some (.ref d) ∧ Keep h h' [] ∧ h.size ≤ d ∧ Z.heap.size ≤ d ∧ Arv Z h' d kd .byte (Int32.ofNat cs.length) (bys cs) (.int 0)) := by
  have hw := G.hw
  refine Met.of (plainFor_of_name pn_417272617973_19) G.ew O ?_
  intro p e s m below meth c T0 C0 S0
  refine Endw.eq (g' := mkF m 0 #[.val (.ref t), .val (.int 0), .val (.int (Int32.ofNat cs.length)), .unset, .unset] []) rfl ?_
  refine C0.iL (Y21 0 rfl) rfl (C0.iL (Y21 1 rfl) rfl ?_)
  refine C0.static (W := 0) (wd hw 453 rfl) (wd hw 454 rfl) (wd hw 455 rfl) (W232 hw) (by decide) (rm_checkLen l Z a0 EL G (0 : Int32) (Int32.ofNat cs.length) (own_nn (by omega)) h C0.old) (fun _ => rfl) rfl all0 (by decide) (by decide) (by decide) (by decide) (lenOf pd_2849492956 rfl) rfl (nb rfl) rfl (Y21 2 rfl) (pc' := 5) rfl ?_
  intro vm1 T1 h1 v1 C1 A1 M1 q1
  obtain ⟨rfl, rfl⟩ := q1
  refine C1.iL (Y21 3 rfl) rfl (C1.iL (Y21 4 rfl) rfl (C1.sb (z := ((Int32.ofNat cs.length) - (0 : Int32))) (Y21 5 rfl) rfl ?_))
  rw [show ((Int32.ofNat cs.length) - (0 : Int32)) = (Int32.ofNat cs.length) from own_sub0 _]
  refine C1.iS (Y21 6 rfl) (l' := #[.val (.ref t), .val (.int 0), .val (.int (Int32.ofNat cs.length)), .val (.int (Int32.ofNat cs.length)), .unset]) rfl (C1.iL (Y21 7 rfl) rfl ?_)
  refine C1.newA (aty := .byte) (z := (Int32.ofNat cs.length)) (cap := 40) (vs := []) (W19 hw) (Y21 8 rfl) (pc' := 12) rfl (own_nn (by omega)) (by rw [own_nc (by omega)]; exact hl) (by decide) (by decide) (by decide) rfl ?_
  intro T2 h2 a2 kA2 C2 K2 A2 ge2 zg2 V2 S2
  refine C2.aSk (Y21 9 rfl) rfl (l' := #[.val (.ref t), .val (.int 0), .val (.int (Int32.ofNat cs.length)), .val (.int (Int32.ofNat cs.length)), .val (.ref a2)]) rfl (C2.aL (Y21 10 rfl) rfl rfl (C2.iL (Y21 11 rfl) rfl (C2.aLk (Y21 12 rfl) rfl rfl (C2.ic (z := 0) (Y21 13 rfl) rfl (C2.aL (Y21 14 rfl) rfl rfl ?_)))))
  have f3 := (V.keep K2 nin0)
  refine C2.len f3 (Y21 15 rfl) (pc' := 21) rfl ?_
  refine C2.iL (Y21 16 rfl) rfl (C2.sb (z := ((Int32.ofNat cap) - (0 : Int32))) (Y21 17 rfl) rfl ?_)
  rw [show ((Int32.ofNat cap) - (0 : Int32)) = (Int32.ofNat cap) from own_sub0 _]
  refine C2.iL (Y21 18 rfl) rfl ?_
  refine C2.static (W := 4) (wd hw 245 rfl) (wd hw 194 rfl) (wd hw 195 rfl) (W87 hw) (by decide) (rm_min l Z a0 EL G (Int32.ofNat cap) (Int32.ofNat cs.length) h2 C2.old) (fun _ => rfl) rfl all0 (by decide) (by decide) (by decide) (by decide) (lenOf pd_2849492949 rfl) rfl (nb rfl) rfl (Y21 19 rfl) (pc' := 27) rfl ?_
  intro vm4 T4 h4 v4 C4 A4 M4 q4
  rw [(own_min_r (by omega) (by omega))] at q4
  obtain ⟨rfl, rfl⟩ := q4
  have f6 := (A4.safe V2.lt S2)
  refine C4.acopyNew (cs := cs) (cap := cap) (N := cs.length) (M := cs.length) (W := 0) (wd hw 246 rfl) (wd hw 249 rfl) (wd hw 247 rfl) (wd hw 248 rfl) f3 V2 (Nat.le_refl _) (by omega) (Nat.le_refl _) hcap (by omega) zg2 f6 rfl (Y21 20 rfl) (pc' := 30) rfl (by decide) (nb rfl) (by decide) ?_
  intro T5 h5 C5 K5 A5 V5
  refine C5.aLk (Y21 21 rfl) rfl rfl ?_
  have KK7 := (kT (kT (kR h []) K2 all0) K5 (allS (Or.inr ge2) all0))
  exact C5.retA (t := (.array .byte)) rfl rfl rfl rfl (Y21 22 rfl) (by decide) (by decide) ⟨a2, kA2, rfl, KK7, ge2, zg2, V5⟩
theorem rm_copyR (G : Glob Z a0 EL) (t : Addr) (kb : ClassId) (cs : List Int32) (cap : Nat) (h : Heap) (O : Ext Z.heap h) (V : Arv Z h t kb .byte (Int32.ofNat cap) (bys cs) (.int 0)) (hlt : cs.length < cap) (hcap : cap ≤ 4000) (hl : cs.length ≤ 40) :
    Met l Z EL true ⟨"java/util/Arrays", "copyOfRange", "([BII)[B"⟩ jdk_65_method_132_code 3 (some (.array .byte)) [] ⟨2, 1, 40, 34⟩ #[(.ref t), (.int 0), (.int (Int32.ofNat cs.length))] h [] (fun r h' => ∃ (d : Addr) (kd : ClassId), r = some (.ref d) ∧ Keep h h' [] ∧ h.size ≤ d ∧ Z.heap.size ≤ d ∧ Arv Z h' d kd .byte (Int32.ofNat cs.length) (bys cs) (.int 0)) := by
  have hw := G.hw
  refine Met.of (plainFor_of_name pn_417272617973_19) G.ew O ?_
  intro p e s m below meth c T0 C0 S0
  refine Endw.eq (g' := mkF m 0 #[.val (.ref t), .val (.int 0), .val (.int (Int32.ofNat cs.length))] []) rfl ?_
  refine C0.iL (Y22 0 rfl) rfl (C0.fN (Y22 1 rfl) (XT.i0_ne_f (by decide)) (C0.iL (Y22 2 rfl) rfl (C0.aL (Y22 3 rfl) rfl rfl ?_)))
  refine C0.len V (Y22 4 rfl) (pc' := 7) rfl ?_
  refine C0.cN (Y22 5 rfl) (XT.ii_eq_f (fun q => absurd ((own_ieq (by omega) (by omega)).mp q) (by omega))) (C0.aL (Y22 6 rfl) rfl rfl (C0.iL (Y22 7 rfl) rfl (C0.iL (Y22 8 rfl) rfl ?_)))
  refine C0.static (W := 0) (wd hw 450 rfl) (wd hw 451 rfl) (wd hw 452 rfl) (W232 hw) (by decide) (rm_copyRB l Z a0 EL G t kb cs cap h C0.old V hlt hcap hl) (fun _ => rfl) rfl all0 (by decide) (by decide) (by decide) (by decide) (lenOf pd_285b424949295b42 rfl) rfl (nb rfl) rfl (Y22 9 rfl) (pc' := 16) rfl ?_
  intro vm1 T1 h1 v1 C1 A1 M1 q1
  obtain ⟨d1, kd1, rfl, K1, ge1, zg1, V1⟩ := q1
  exact C1.retA (t := (.array .byte)) rfl rfl rfl rfl (Y22 10 rfl) (by decide) (by decide) ⟨d1, kd1, rfl, K1, ge1, zg1, V1⟩
theorem rm_strInitASB (G : Glob Z a0 EL) (a b t : Addr) (kb : ClassId) (cs : List Int32) (cap : Nat) (h : Heap) (O : Ext Z.heap h) (E0 : Exa Z h a "java/lang/String") (F0 : Fld Z h a "java/lang/String" "value" "[B" .null) (F1 : Fld Z h a "java/lang/String" "coder" "B" (.int 0)) (za : Z.heap.size ≤ a) (B : Sb Z h b t kb cs cap) (hlt : cs.length < cap) (hl : cs.length ≤ 40) :
    Met l Z EL true ⟨"java/lang/String", "<init>", "(Ljava/lang/AbstractStringBuilder;Ljava/lang/Void;)V"⟩ jdk_42_method_150_code 5 none [] ⟨3, 1, 40, 49⟩ #[(.ref a), (.ref b), .null] h [a] (fun r h' => r = none ∧ ∃ (d : Addr) (kd : ClassId), Keep h h' [a] ∧ h.size ≤ d ∧ Z.heap.size ≤ d ∧ Str Z h' a d kd cs) := by
  have hw := G.hw
  refine Met.of (plainFor_of_name pn_537472696e67_11) G.ew O ?_
  intro p e s m below meth c T0 C0 S0
  refine Endw.eq (g' := mkF m 0 #[.val (.ref a), .val (.ref b), .val .null, .unset, .unset] []) rfl ?_
  refine C0.aL (Y23 0 rfl) rfl rfl ?_
  refine C0.initO (wd hw 11 rfl) (W12 hw) (W13 hw) rfl (Y23 1 rfl) (pc' := 4) rfl (by decide) (W := 0) (nb rfl) (by decide) ?_
  intro T1 C1
  refine C1.aL (Y23 2 rfl) rfl rfl ?_
  refine C1.virtual (W := 0) (wd hw 429 rfl) (wd hw 430 rfl) (fun _ q => notFace_of_selects (args := #[]) (mvT q (wd hw 432 rfl))) (wd hw 432 rfl) (wd hw 431 rfl) (wd hw 433 rfl) (W358 hw) (by decide) (rm_getValue l Z a0 EL G b t h C1.old B.2.2.1) (fun _ => rfl) rfl B.1 all0 (by decide) (by decide) (by decide) (by decide) (lenOf pd_28295b42 rfl) rfl (nb rfl) rfl (Y23 3 rfl) (pc' := 8) rfl ?_
  intro vm2 T2 h2 v2 C2 A2 M2 q2
  obtain ⟨rfl, rfl⟩ := q2
  refine C2.aS (Y23 4 rfl) rfl (l' := #[.val (.ref a), .val (.ref b), .val .null, .val (.ref t), .unset]) rfl (C2.aL (Y23 5 rfl) rfl rfl ?_)
  refine C2.virtual (W := 0) (wd hw 434 rfl) (wd hw 435 rfl) (fun _ q => own_nf (own_plain (y := ⟨"java/lang/AbstractStringBuilder", "ensureCapacityInternal", "(I)V"⟩) (a0 := #[]) (mvT q (W383 hw)) (mvT q (W381 hw)))) (wd hw 437 rfl) (wd hw 438 rfl) (wd hw 439 rfl) (W350 hw) (by decide) (rm_sbLen l Z a0 EL G b (Int32.ofNat cs.length) h C2.old B.1 B.2.1.2) (fun _ => rfl) rfl B.1 all0 (by decide) (by decide) (by decide) (by decide) (lenOf pd_282949 rfl) rfl (nb rfl) rfl (Y23 6 rfl) (pc' := 13) rfl ?_
  intro vm3 T3 h3 v3 C3 A3 M3 q3
  obtain ⟨rfl, rfl⟩ := q3
  refine C3.iSk (Y23 7 rfl) (l' := #[.val (.ref a), .val (.ref b), .val .null, .val (.ref t), .val (.int (Int32.ofNat cs.length))]) rfl (C3.aL (Y23 8 rfl) rfl rfl ?_)
  refine C3.virtual (W := 0) (wd hw 442 rfl) (wd hw 443 rfl) (fun _ q => notFace_of_selects (args := #[]) (mvT q (wd hw 445 rfl))) (wd hw 445 rfl) (wd hw 444 rfl) (wd hw 446 rfl) (W358 hw) (by decide) (rm_asbLat l Z a0 EL G b h C3.old B.2.1.1) (fun _ => rfl) rfl B.1 all0 (by decide) (by decide) (by decide) (by decide) (lenOf pd_28295a rfl) rfl (nb rfl) rfl (Y23 9 rfl) (pc' := 19) rfl ?_
  intro vm4 T4 h4 v4 C4 A4 M4 q4
  obtain ⟨rfl, rfl⟩ := q4
  refine C4.fN (Y23 10 rfl) (XT.i0_eq_f (by decide)) (C4.aL (Y23 11 rfl) rfl rfl (C4.ic (z := 0) (Y23 12 rfl) rfl ?_))
  have f6 := (A4.safe E0.lt (A3.safe E0.lt (A2.safe E0.lt (S0 a (by simp)))))
  refine C4.putF (v := (.int 0)) (wd hw 26 rfl) F1 E0 (Or.inr ⟨(W27 hw), rfl, rfl⟩) (W2 hw) (ty := .byte) (by decide) rfl rfl za f6 (Y23 13 rfl) (pc' := 27) rfl ?_
  intro T5 h5 C5 K5 A5 Wr5
  have f7 := F1.same Wr5
  have f8 := F0.other Wr5 (Or.inr (slot_ne (Or.inr (W29 hw)) (Or.inr (W27 hw)) (by decide) (t := (.array .byte)) (t' := .byte) (by decide) (by decide)))
  refine C5.aL (Y23 14 rfl) rfl rfl (C5.aL (Y23 15 rfl) rfl rfl (C5.ic (z := 0) (Y23 16 rfl) rfl (C5.iLk (Y23 17 rfl) rfl ?_)))
  have ne9 : t ≠ a := (Ne.symm (RoadKit.Exa.neArv E0 B.2.2.2.1 (W2 hw)))
  have f10 := (B.2.2.2.1.keep K5 (ninS ne9 nin0))
  refine C5.static (W := 1) (wd hw 447 rfl) (wd hw 448 rfl) (wd hw 449 rfl) (W232 hw) (by decide) (rm_copyR l Z a0 EL G t kb cs cap h5 C5.old f10 hlt B.le4 hl) (fun _ => rfl) rfl all0 (by decide) (by decide) (by decide) (by decide) (lenOf pd_285b424949295b42 rfl) rfl (nb rfl) rfl (Y23 18 rfl) (pc' := 35) rfl ?_
  intro vm11 T11 h11 v11 C11 A11 M11 q11
  obtain ⟨d11, kd11, rfl, K11, ge11, zg11, V11⟩ := q11
  have KK12 := (kT (kT (kR h [a]) K5 (allS m0 all0)) K11 all0)
  have f13 := (E0.keep KK12)
  have f14 := (f8.keep K11 nin0)
  have f16 := (f7.keep K11 nin0)
  have f17 := (A11.safe (lL E0.lt K5.1) (A5.safe E0.lt f6))
  refine C11.putF (v := (.ref d11)) (W28 hw) f14 f13 (Or.inr ⟨(W29 hw), rfl, rfl⟩) (W2 hw) (ty := (.array .byte)) (by decide) rfl rfl za f17 (Y23 19 rfl) (pc' := 38) rfl ?_
  intro T15 h15 C15 K15 A15 Wr15
  have f18 := f14.same Wr15
  have f19 := f16.other Wr15 (Or.inr (slot_ne (Or.inr (W27 hw)) (Or.inr (W29 hw)) (by decide) (t := .byte) (t' := (.array .byte)) (by decide) (by decide)))
  refine C15.go (pc' := 97) (Y23 20 rfl) (by decide) rfl ?_
  have ne20 : d11 ≠ a := (Ne.symm (nL (lL (lL E0.lt K5.1) ge11)))
  have f21 := (V11.keep K15 (ninS ne20 nin0))
  have KK22 := (kT (kT (kT (kR h [a]) K5 (allS m0 all0)) K11 all0) K15 (allS m0 all0))
  have f23 := (f13.keep K15)
  exact C15.retV (Y23 21 rfl) (by decide) (by decide) ⟨rfl, d11, kd11, KK22, (lT K5.1 ge11), zg11, ⟨f23, f19, f18, f21, B.2.2.2.2.1, by omega⟩⟩
theorem rm_strInitSB (G : Glob Z a0 EL) (a b t : Addr) (kb : ClassId) (cs : List Int32) (cap : Nat) (h : Heap) (O : Ext Z.heap h) (E0 : Exa Z h a "java/lang/String") (F0 : Fld Z h a "java/lang/String" "value" "[B" .null) (F1 : Fld Z h a "java/lang/String" "coder" "B" (.int 0)) (za : Z.heap.size ≤ a) (B : Sb Z h b t kb cs cap) (hlt : cs.length < cap) (hl : cs.length ≤ 40) :
    Met l Z EL true ⟨"java/lang/String", "<init>", "(Ljava/lang/StringBuilder;)V"⟩ jdk_42_method_53_code 2 none [] ⟨4, 1, 40, 65⟩ #[(.ref a), (.ref b)] h [a] (fun r h' => r = none ∧ ∃ (d : Addr) (kd : ClassId), Keep h h' [a] ∧ h.size ≤ d ∧ Z.heap.size ≤ d ∧ Str Z h' a d kd cs) := by
  have hw := G.hw
  refine Met.of (plainFor_of_name pn_537472696e67_11) G.ew O ?_
  intro p e s m below meth c T0 C0 S0
  refine Endw.eq (g' := mkF m 0 #[.val (.ref a), .val (.ref b)] []) rfl ?_
  refine C0.aL (Y24 0 rfl) rfl rfl (C0.aL (Y24 1 rfl) rfl rfl (C0.nu (Y24 2 rfl) ?_))
  refine C0.special (y := ⟨"java/lang/String", "<init>", "(Ljava/lang/AbstractStringBuilder;Ljava/lang/Void;)V"⟩) (W := 0) rfl (wd hw 426 rfl) (wd hw 427 rfl) (wd hw 428 rfl) (W3 hw) (by decide) (rm_strInitASB l Z a0 EL G a b t kb cs cap h C0.old E0 F0 F1 za B hlt hl) (fun _ => rfl) rfl (allS ⟨E0.lt, (S0 a (by simp))⟩ all0) (by decide) (by decide) (by decide) (by decide) (lenOf pd_32 rfl) rfl (nb rfl) rfl (Y24 3 rfl) (pc' := 6) rfl ?_
  intro vm1 T1 h1 v1 C1 A1 M1 q1
  obtain ⟨rfl, d1, kd1, K1, ge1, zg1, Z1⟩ := q1
  exact C1.retV (Y24 4 rfl) (by decide) (by decide) ⟨rfl, d1, kd1, K1, ge1, zg1, Z1⟩
theorem rm_toString (G : Glob Z a0 EL) (b t : Addr) (kb : ClassId) (cs : List Int32) (cap : Nat) (h : Heap) (O : Ext Z.heap h) (B : Sb Z h b t kb cs cap) (hlt : cs.length < cap) (hl : cs.length ≤ 40) :
    Met l Z EL true ⟨"java/lang/StringBuilder", "toString", "()Ljava/lang/String;"⟩ jdk_67_method_42_code 1 (some (.object "java/lang/String")) [] ⟨5, 2, 44, 79⟩ #[(.ref b)] h [] (fun r h' => ∃ (a d : Addr) (kd : ClassId), r = some (.ref a) ∧ Keep h h' [] ∧ h.size ≤ a ∧ h.size ≤ d ∧ Z.heap.size ≤ a ∧ Z.heap.size ≤ d ∧ Str Z h' a d kd cs) := by
  have hw := G.hw
  refine Met.of (plainFor_of_name pn_75696c646572_12) G.ew O ?_
  intro p e s m below meth c T0 C0 S0
  refine Endw.eq (g' := mkF m 0 #[.val (.ref b)] []) rfl ?_
  refine C0.new (wd hw 422 rfl) (W2 hw) (W3 hw) (Y25 0 rfl) (pc' := 3) rfl (by decide) (by decide) ?_
  intro T1 h1 a1 C1 K1 A1 ge1 zg1 E1 D1 S1
  refine C1.du (Y25 1 rfl) rfl (C1.aL (Y25 2 rfl) rfl rfl ?_)
  have f2 := (B.keep K1 nin0 nin0)
  have f3 : Fld Z h1 a1 "java/lang/String" "value" "[B" .null := D1 (Or.inr (W29 hw)) (ty := (.array .byte)) (by decide)
  have f4 : Fld Z h1 a1 "java/lang/String" "coder" "B" (.int 0) := D1 (Or.inr (W27 hw)) (ty := .byte) (by decide)
  refine C1.special (y := ⟨"java/lang/String", "<init>", "(Ljava/lang/StringBuilder;)V"⟩) (W := 1) rfl (wd hw 423 rfl) (wd hw 424 rfl) (wd hw 425 rfl) (W3 hw) (by decide) (rm_strInitSB l Z a0 EL G a1 b t kb cs cap h1 C1.old E1 f3 f4 zg1 f2 hlt hl) (fun _ => rfl) rfl (allS ⟨E1.lt, S1⟩ all0) (by decide) (by decide) (by decide) (by decide) (lenOf pd_51 rfl) rfl (nb rfl) rfl (Y25 3 rfl) (pc' := 8) rfl ?_
  intro vm5 T5 h5 v5 C5 A5 M5 q5
  obtain ⟨rfl, d5, kd5, K5, ge5, zg5, Z5⟩ := q5
  have KK6 := (kT (kT (kR h []) K1 all0) K5 (allS (Or.inr ge1) all0))
  exact C5.retA (t := (.object "java/lang/String")) rfl rfl rfl rfl (Y25 4 rfl) (by decide) (by decide) ⟨a1, d5, kd5, rfl, KK6, ge1, (lT K1.1 ge5), zg1, zg5, Z5⟩
theorem rm_gch (G : Glob Z a0 EL) (t : Addr) (kb : ClassId) (cs : List Int32) (i : Nat) (x : Int32) (h : Heap) (O : Ext Z.heap h) (D : Arv Z h t kb .byte (Int32.ofNat cs.length) (bys cs) (.int 0)) (hi : i < cs.length) (hx : cs.getD i 0 = x) (hb : B8 x) (h4 : cs.length ≤ 4000) :
    Met l Z EL true ⟨"java/lang/StringLatin1", "getChar", "([BI)C"⟩ jdk_43_method_44_code 2 (some .char) [] ⟨0, 0, 0, 0⟩ #[(.ref t), (.int (Int32.ofNat i))] h [] (fun r h' => r = some (.int x) ∧ h = h') := by
  refine Met.of (plainFor_of_name pn_4c6174696e31_13) G.ew O ?_
  intro p e s m below meth c T0 C0 S0
  refine Endw.eq (g' := mkF m 0 #[.val (.ref t), .val (.int (Int32.ofNat i))] []) rfl ?_
  refine C0.aL (Y26 0 rfl) rfl rfl (C0.iL (Y26 1 rfl) rfl ?_)
  refine C0.baloadN (j := i) D hi (by omega) (v := (.int (own_lo x))) (by rw [own_bysD cs hi, hx]) (Y26 2 rfl) (pc' := 3) rfl ?_
  refine C0.si (z := 255) (Y26 3 rfl) rfl (C0.an (z := ((own_lo x) &&& (255 : Int32))) (Y26 4 rfl) rfl ?_)
  rw [show ((own_lo x) &&& (255 : Int32)) = x from own_chr8 hb]
  refine Endw.st (T' := T0) (g' := (mkF m 8 #[.val (.ref t), .val (.int (Int32.ofNat i))] [(.int (x.toUInt32.toUInt16.toUInt32.toInt32))])) (fun _ k_ => XS.i2c C0.here C0.hx rfl (C0.dec (Y26 5 rfl)) rfl k_) ?_
  rw [show x.toUInt32.toUInt16.toUInt32.toInt32 = x from own_i2c16 (own_b16 hb)]
  exact C0.retI (t := .char) rfl (by simp) (own_narC (own_b16 hb)) (Y26 6 rfl) (by decide) (by decide) ⟨rfl, rfl⟩
theorem rm_prop (G : Glob Z a0 EL) (c_ : Addr) (x : Int32) (h : Heap) (O : Ext Z.heap h) (hb : B8 x) :
    Met l Z EL true ⟨"java/lang/CharacterDataLatin1", "getProperties", "(I)I"⟩ jdk_116_method_1_code 4 (some .int) [] ⟨0, 0, 0, 0⟩ #[(.ref c_), (.int x)] h [] (fun r h' => r = some (.int (own_tabI.getD x.toNatClampNeg 0)) ∧ h = h') := by
  have hw := G.hw
  refine Met.of (plainFor_of_name pn_4c6174696e31_7) G.ew O ?_
  intro p e s m below meth c T0 C0 S0
  refine Endw.eq (g' := mkF m 0 #[.val (.ref c_), .val (.int x), .unset, .unset] []) rfl ?_
  refine C0.iL (Y27 0 rfl) rfl ?_
  refine Endw.st (T' := T0) (g' := (mkF m 2 #[.val (.ref c_), .val (.int x), .unset, .unset] [(.int (x.toUInt32.toUInt16.toUInt32.toInt32))])) (fun _ k_ => XS.i2c C0.here C0.hx rfl (C0.dec (Y27 1 rfl)) rfl k_) ?_
  rw [show x.toUInt32.toUInt16.toUInt32.toInt32 = x from own_i2c16 (own_b16 hb)]
  refine C0.iS (Y27 2 rfl) (l' := #[.val (.ref c_), .val (.int x), .val (.int x), .unset]) rfl ?_
  have f1 := (G.t4.ext C0.old)
  refine C0.getS (wd hw 148 rfl) G.s3 (Y27 3 rfl) (pc' := 6) rfl ?_
  intro T2 C2
  refine C2.iL (Y27 4 rfl) rfl ?_
  refine C2.iaload f1 ⟨hb.1, own_b8lt hb⟩ (v := (.int (own_tabI.getD x.toNatClampNeg 0))) (own_mapD own_tabI _) (Y27 5 rfl) (pc' := 8) rfl ?_
  refine C2.iS (Y27 6 rfl) (l' := #[.val (.ref c_), .val (.int x), .val (.int x), .val (.int (own_tabI.getD x.toNatClampNeg 0))]) rfl (C2.iL (Y27 7 rfl) rfl ?_)
  exact C2.retI (t := .int) rfl (by simp) rfl (Y27 8 rfl) (by decide) (by decide) ⟨rfl, rfl⟩
theorem rm_isWs (G : Glob Z a0 EL) (c_ : Addr) (x : Int32) (h : Heap) (O : Ext Z.heap h) (E0 : Exa Z h c_ "java/lang/CharacterDataLatin1") (hn : own_nw x) :
    Met l Z EL true ⟨"java/lang/CharacterDataLatin1", "isWhitespace", "(I)Z"⟩ jdk_116_method_26_code 3 (some .boolean) [] ⟨1, 0, 0, 15⟩ #[(.ref c_), (.int x)] h [] (fun r h' => r = some (.int 0) ∧ h = h') := by
  have hw := G.hw
  refine Met.of (plainFor_of_name pn_4c6174696e31_7) G.ew O ?_
  intro p e s m below meth c T0 C0 S0
  refine Endw.eq (g' := mkF m 0 #[.val (.ref c_), .val (.int x), .unset] []) rfl ?_
  refine C0.aL (Y28 0 rfl) rfl rfl (C0.iL (Y28 1 rfl) rfl ?_)
  refine C0.virtual (W := 0) (wd hw 143 rfl) (wd hw 144 rfl) (fun _ q => notFace_of_selects (args := #[]) (mvT q (wd hw 146 rfl))) (wd hw 146 rfl) (wd hw 145 rfl) (wd hw 147 rfl) (wd hw 137 rfl) (by decide) (rm_prop l Z a0 EL G c_ x h C0.old hn.1.1) (fun _ => rfl) rfl E0 all0 (by decide) (by decide) (by decide) (by decide) (lenOf pd_28492949 rfl) rfl (nb rfl) rfl (Y28 2 rfl) (pc' := 5) rfl ?_
  intro vm1 T1 h1 v1 C1 A1 M1 q1
  obtain ⟨rfl, rfl⟩ := q1
  refine C1.iS (Y28 3 rfl) (l' := #[.val (.ref c_), .val (.int x), .val (.int (own_tabI.getD x.toNatClampNeg 0))]) rfl (C1.iL (Y28 4 rfl) rfl (C1.si (z := 28672) (Y28 5 rfl) rfl (C1.an (z := ((own_tabI.getD x.toNatClampNeg 0) &&& (28672 : Int32))) (Y28 6 rfl) rfl (C1.si (z := 16384) (Y28 7 rfl) rfl (C1.cY (pc' := 21) (Y28 8 rfl) (XT.ii_ne_t hn.2) (by decide) rfl (C1.ic (z := 0) (Y28 9 rfl) rfl ?_))))))
  exact C1.retI (t := .boolean) rfl (by simp) rfl (Y28 10 rfl) (by decide) (by decide) ⟨rfl, rfl⟩
theorem rm_lfirst (G : Glob Z a0 EL) (t : Addr) (kb : ClassId) (cs : List Int32) (h : Heap) (O : Ext Z.heap h) (D : Arv Z h t kb .byte (Int32.ofNat cs.length) (bys cs) (.int 0)) (hs : own_solid cs) (h4 : cs.length ≤ 4000) :
    Met l Z EL true ⟨"java/lang/StringLatin1", "indexOfNonWhitespace", "([B)I"⟩ jdk_43_method_37_code 4 (some .int) [] ⟨2, 0, 0, 29⟩ #[(.ref t)] h [] (fun r h' => r = some (.int 0) ∧ h = h') := by
  have hw := G.hw
  refine Met.of (plainFor_of_name pn_4c6174696e31_13) G.ew O ?_
  intro p e s m below meth c T0 C0 S0
  refine Endw.eq (g' := mkF m 0 #[.val (.ref t), .unset, .unset, .unset] []) rfl ?_
  refine C0.aL (Y29 0 rfl) rfl rfl ?_
  refine C0.len D (Y29 1 rfl) (pc' := 2) rfl ?_
  refine C0.iS (Y29 2 rfl) (l' := #[.val (.ref t), .val (.int (Int32.ofNat cs.length)), .unset, .unset]) rfl (C0.ic (z := 0) (Y29 3 rfl) rfl (C0.iS (Y29 4 rfl) (l' := #[.val (.ref t), .val (.int (Int32.ofNat cs.length)), .val (.int 0), .unset]) rfl (C0.iL (Y29 5 rfl) rfl (C0.iL (Y29 6 rfl) rfl (C0.cN (Y29 7 rfl) (XT.ii_ge_f ((own_lt (a := 0) (by omega) (by omega)).mpr hs.1.1)) (C0.aL (Y29 8 rfl) rfl rfl (C0.iL (Y29 9 rfl) rfl ?_)))))))
  refine C0.static (W := 0) (wd hw 133 rfl) (wd hw 134 rfl) (wd hw 135 rfl) (W131 hw) (by decide) (rm_gch l Z a0 EL G t kb cs 0 (cs.getD 0 0) h C0.old D hs.1.1 rfl hs.1.2.1.1 h4) (fun _ => rfl) rfl all0 (by decide) (by decide) (by decide) (by decide) (lenOf pd_285b42492943 rfl) rfl (nb rfl) rfl (Y29 10 rfl) (pc' := 15) rfl ?_
  intro vm1 T1 h1 v1 C1 A1 M1 q1
  obtain ⟨rfl, rfl⟩ := q1
  refine C1.iS (Y29 11 rfl) (l' := #[.val (.ref t), .val (.int (Int32.ofNat cs.length)), .val (.int 0), .val (.int (cs.getD 0 0))]) rfl (C1.iL (Y29 12 rfl) rfl (C1.bi (z := 32) (Y29 13 rfl) rfl (C1.cN (Y29 14 rfl) (XT.ii_eq_f hs.1.2.1.2.1) (C1.iL (Y29 15 rfl) rfl (C1.bi (z := 9) (Y29 16 rfl) rfl (C1.cN (Y29 17 rfl) (XT.ii_eq_f hs.1.2.1.2.2) ?_))))))
  have f2 := (G.t3.ext C1.old)
  refine C1.getS (wd hw 136 rfl) G.s2 (Y29 18 rfl) (pc' := 31) rfl ?_
  intro T3 C3
  refine C3.iL (Y29 19 rfl) rfl ?_
  refine C3.virtual (W := 0) (wd hw 138 rfl) (wd hw 139 rfl) (fun _ q => notFace_of_selects (args := #[]) (mvT q (wd hw 141 rfl))) (wd hw 141 rfl) (wd hw 140 rfl) (wd hw 142 rfl) (wd hw 137 rfl) (by decide) (rm_isWs l Z a0 EL G (sCI Z) (cs.getD 0 0) h C3.old f2 hs.1.2) (fun _ => rfl) rfl f2 all0 (by decide) (by decide) (by decide) (by decide) (lenOf pd_2849295a rfl) rfl (nb rfl) rfl (Y29 20 rfl) (pc' := 35) rfl ?_
  intro vm4 T4 h4 v4 C4 A4 M4 q4
  obtain ⟨rfl, rfl⟩ := q4
  refine C4.fN (Y29 21 rfl) (XT.i0_ne_f (by decide)) (C4.go (pc' := 47) (Y29 22 rfl) (by decide) rfl (C4.iL (Y29 23 rfl) rfl ?_))
  exact C4.retI (t := .int) rfl (by simp) rfl (Y29 24 rfl) (by decide) (by decide) ⟨rfl, rfl⟩
theorem rm_llast (G : Glob Z a0 EL) (t : Addr) (kb : ClassId) (cs : List Int32) (h : Heap) (O : Ext Z.heap h) (D : Arv Z h t kb .byte (Int32.ofNat cs.length) (bys cs) (.int 0)) (hs : own_solid cs) (h4 : cs.length ≤ 4000) :
    Met l Z EL true ⟨"java/lang/StringLatin1", "lastIndexOfNonWhitespace", "([B)I"⟩ jdk_43_method_38_code 4 (some .int) [] ⟨2, 0, 0, 29⟩ #[(.ref t)] h [] (fun r h' => r = some (.int (Int32.ofNat cs.length)) ∧ h = h') := by
  have hw := G.hw
  refine Met.of (plainFor_of_name pn_4c6174696e31_13) G.ew O ?_
  intro p e s m below meth c T0 C0 S0
  refine Endw.eq (g' := mkF m 0 #[.val (.ref t), .unset, .unset, .unset] []) rfl ?_
  refine C0.aL (Y30 0 rfl) rfl rfl ?_
  refine C0.len D (Y30 1 rfl) (pc' := 2) rfl ?_
  refine C0.iS (Y30 2 rfl) (l' := #[.val (.ref t), .val (.int (Int32.ofNat cs.length)), .unset, .unset]) rfl (C0.iL (Y30 3 rfl) rfl (C0.iS (Y30 4 rfl) (l' := #[.val (.ref t), .val (.int (Int32.ofNat cs.length)), .val (.int (Int32.ofNat cs.length)), .unset]) rfl (C0.ic (z := 0) (Y30 5 rfl) rfl (C0.iL (Y30 6 rfl) rfl (C0.cN (Y30 7 rfl) (XT.ii_ge_f ((own_lt (a := 0) (by omega) (by omega)).mpr hs.1.1)) (C0.aL (Y30 8 rfl) rfl rfl (C0.iL (Y30 9 rfl) rfl (C0.ic (z := 1) (Y30 10 rfl) rfl (C0.sb (z := ((Int32.ofNat cs.length) - (1 : Int32))) (Y30 11 rfl) rfl ?_)))))))))
  rw [show ((Int32.ofNat cs.length) - (1 : Int32)) = (Int32.ofNat (cs.length - 1)) from own_sub (b := 1) hs.1.1]
  refine C0.static (W := 0) (wd hw 133 rfl) (wd hw 134 rfl) (wd hw 135 rfl) (W131 hw) (by decide) (rm_gch l Z a0 EL G t kb cs (cs.length - 1) (cs.getD (cs.length - 1) 0) h C0.old D (Nat.sub_lt hs.1.1 Nat.one_pos) rfl hs.2.1.1 h4) (fun _ => rfl) rfl all0 (by decide) (by decide) (by decide) (by decide) (lenOf pd_285b42492943 rfl) rfl (nb rfl) rfl (Y30 12 rfl) (pc' := 17) rfl ?_
  intro vm1 T1 h1 v1 C1 A1 M1 q1
  obtain ⟨rfl, rfl⟩ := q1
  refine C1.iS (Y30 13 rfl) (l' := #[.val (.ref t), .val (.int (Int32.ofNat cs.length)), .val (.int (Int32.ofNat cs.length)), .val (.int (cs.getD (cs.length - 1) 0))]) rfl (C1.iL (Y30 14 rfl) rfl (C1.bi (z := 32) (Y30 15 rfl) rfl (C1.cN (Y30 16 rfl) (XT.ii_eq_f hs.2.1.2.1) (C1.iL (Y30 17 rfl) rfl (C1.bi (z := 9) (Y30 18 rfl) rfl (C1.cN (Y30 19 rfl) (XT.ii_eq_f hs.2.1.2.2) ?_))))))
  have f2 := (G.t3.ext C1.old)
  refine C1.getS (wd hw 136 rfl) G.s2 (Y30 20 rfl) (pc' := 33) rfl ?_
  intro T3 C3
  refine C3.iL (Y30 21 rfl) rfl ?_
  refine C3.virtual (W := 0) (wd hw 138 rfl) (wd hw 139 rfl) (fun _ q => notFace_of_selects (args := #[]) (mvT q (wd hw 141 rfl))) (wd hw 141 rfl) (wd hw 140 rfl) (wd hw 142 rfl) (wd hw 137 rfl) (by decide) (rm_isWs l Z a0 EL G (sCI Z) (cs.getD (cs.length - 1) 0) h C3.old f2 hs.2) (fun _ => rfl) rfl f2 all0 (by decide) (by decide) (by decide) (by decide) (lenOf pd_2849295a rfl) rfl (nb rfl) rfl (Y30 22 rfl) (pc' := 37) rfl ?_
  intro vm4 T4 h4 v4 C4 A4 M4 q4
  obtain ⟨rfl, rfl⟩ := q4
  refine C4.fN (Y30 23 rfl) (XT.i0_ne_f (by decide)) (C4.go (pc' := 49) (Y30 24 rfl) (by decide) rfl (C4.iL (Y30 25 rfl) rfl ?_))
  exact C4.retI (t := .int) rfl (by simp) rfl (Y30 26 rfl) (by decide) (by decide) ⟨rfl, rfl⟩
theorem rm_lstrip (G : Glob Z a0 EL) (t : Addr) (kb : ClassId) (cs : List Int32) (h : Heap) (O : Ext Z.heap h) (D : Arv Z h t kb .byte (Int32.ofNat cs.length) (bys cs) (.int 0)) (hs : own_solid cs) (h4 : cs.length ≤ 4000) :
    Met l Z EL true ⟨"java/lang/StringLatin1", "strip", "([B)Ljava/lang/String;"⟩ jdk_43_method_39_code 4 (some (.object "java/lang/String")) [] ⟨3, 0, 0, 44⟩ #[(.ref t)] h [] (fun r h' => r = some .null ∧ h = h') := by
  have hw := G.hw
  refine Met.of (plainFor_of_name pn_4c6174696e31_13) G.ew O ?_
  intro p e s m below meth c T0 C0 S0
  refine Endw.eq (g' := mkF m 0 #[.val (.ref t), .unset, .unset, .unset] []) rfl ?_
  refine C0.aL (Y31 0 rfl) rfl rfl ?_
  refine C0.static (W := 0) (wd hw 167 rfl) (wd hw 130 rfl) (wd hw 132 rfl) (W131 hw) (by decide) (rm_lfirst l Z a0 EL G t kb cs h C0.old D hs h4) (fun _ => rfl) rfl all0 (by decide) (by decide) (by decide) (by decide) (lenOf pd_285b422949 rfl) rfl (nb rfl) rfl (Y31 1 rfl) (pc' := 4) rfl ?_
  intro vm1 T1 h1 v1 C1 A1 M1 q1
  obtain ⟨rfl, rfl⟩ := q1
  refine C1.iS (Y31 2 rfl) (l' := #[.val (.ref t), .val (.int 0), .unset, .unset]) rfl (C1.iL (Y31 3 rfl) rfl (C1.aL (Y31 4 rfl) rfl rfl ?_))
  refine C1.len D (Y31 5 rfl) (pc' := 8) rfl ?_
  refine C1.cY (pc' := 14) (Y31 6 rfl) (XT.ii_ne_t (fun q => own_n0 hs.1.1 h4 q.symm)) (by decide) rfl (C1.aL (Y31 7 rfl) rfl rfl ?_)
  refine C1.static (W := 0) (wd hw 168 rfl) (wd hw 169 rfl) (wd hw 170 rfl) (W131 hw) (by decide) (rm_llast l Z a0 EL G t kb cs h C1.old D hs h4) (fun _ => rfl) rfl all0 (by decide) (by decide) (by decide) (by decide) (lenOf pd_285b422949 rfl) rfl (nb rfl) rfl (Y31 8 rfl) (pc' := 18) rfl ?_
  intro vm2 T2 h2 v2 C2 A2 M2 q2
  obtain ⟨rfl, rfl⟩ := q2
  refine C2.iS (Y31 9 rfl) (l' := #[.val (.ref t), .val (.int 0), .val (.int (Int32.ofNat cs.length)), .unset]) rfl (C2.iL (Y31 10 rfl) rfl (C2.fN (Y31 11 rfl) (XT.i0_gt_f (by decide)) (C2.iL (Y31 12 rfl) rfl (C2.aL (Y31 13 rfl) rfl rfl ?_))))
  refine C2.len D (Y31 14 rfl) (pc' := 26) rfl ?_
  refine C2.cY (pc' := 33) (Y31 15 rfl) (XT.ii_ge_t (fun q => absurd ((own_lt (by omega) (by omega)).mp q) (Nat.lt_irrefl _))) (by decide) rfl (C2.ic (z := 0) (Y31 16 rfl) rfl (C2.iS (Y31 17 rfl) (l' := #[.val (.ref t), .val (.int 0), .val (.int (Int32.ofNat cs.length)), .val (.int 0)]) rfl (C2.iL (Y31 18 rfl) rfl (C2.fY (pc' := 50) (Y31 19 rfl) (XT.i0_eq_t (by decide)) (by decide) rfl (C2.nu (Y31 20 rfl) ?_)))))
  exact C2.retA (t := (.object "java/lang/String")) rfl rfl rfl rfl (Y31 21 rfl) (by decide) (by decide) ⟨rfl, rfl⟩
theorem rm_sfirst (G : Glob Z a0 EL) (a t : Addr) (kb : ClassId) (cs : List Int32) (h : Heap) (O : Ext Z.heap h) (S : Str Z h a t kb cs) (hs : own_solid cs) :
    Met l Z EL true ⟨"java/lang/String", "indexOfNonWhitespace", "()I"⟩ jdk_42_method_120_code 1 (some .int) [] ⟨3, 0, 0, 44⟩ #[(.ref a)] h [] (fun r h' => r = some (.int 0) ∧ h = h') := by
  have hw := G.hw
  refine Met.of (plainFor_of_name pn_537472696e67_11) G.ew O ?_
  intro p e s m below meth c T0 C0 S0
  refine Endw.eq (g' := mkF m 0 #[.val (.ref a)] []) rfl ?_
  refine C0.aL (Y32 0 rfl) rfl rfl ?_
  refine C0.virtual (W := 0) (wd hw 124 rfl) (wd hw 125 rfl) (fun _ q => notFace_of_selects (args := #[]) (mvT q (W127 hw))) (W127 hw) (wd hw 126 rfl) (wd hw 128 rfl) (W3 hw) (by decide) (rm_isLatin1 l Z a0 EL G a h C0.old S.2.1) (fun _ => rfl) rfl S.1 all0 (by decide) (by decide) (by decide) (by decide) (lenOf pd_28295a rfl) rfl (nb rfl) rfl (Y32 1 rfl) (pc' := 4) rfl ?_
  intro vm1 T1 h1 v1 C1 A1 M1 q1
  obtain ⟨rfl, rfl⟩ := q1
  refine C1.fN (Y32 2 rfl) (XT.i0_eq_f (by decide)) (C1.aL (Y32 3 rfl) rfl rfl ?_)
  refine C1.getF (W28 hw) S.2.2.1 (Y32 4 rfl) (pc' := 11) rfl ?_
  intro T2 C2
  refine C2.static (W := 0) (wd hw 129 rfl) (wd hw 130 rfl) (wd hw 132 rfl) (W131 hw) (by decide) (rm_lfirst l Z a0 EL G t kb cs h C2.old S.2.2.2.1 hs S.le4) (fun _ => rfl) rfl all0 (by decide) (by decide) (by decide) (by decide) (lenOf pd_285b422949 rfl) rfl (nb rfl) rfl (Y32 5 rfl) (pc' := 14) rfl ?_
  intro vm3 T3 h3 v3 C3 A3 M3 q3
  obtain ⟨rfl, rfl⟩ := q3
  refine C3.go (pc' := 24) (Y32 6 rfl) (by decide) rfl ?_
  exact C3.retI (t := .int) rfl (by simp) rfl (Y32 7 rfl) (by decide) (by decide) ⟨rfl, rfl⟩
theorem rm_blank (G : Glob Z a0 EL) (a t : Addr) (kb : ClassId) (cs : List Int32) (h : Heap) (O : Ext Z.heap h) (S : Str Z h a t kb cs) (hs : own_solid cs) :
    Met l Z EL true ⟨"java/lang/String", "isBlank", "()Z"⟩ jdk_42_method_117_code 1 (some .boolean) [] ⟨4, 0, 0, 56⟩ #[(.ref a)] h [] (fun r h' => r = some (.int 0) ∧ h = h') := by
  have hw := G.hw
  refine Met.of (plainFor_of_name pn_537472696e67_11) G.ew O ?_
  intro p e s m below meth c T0 C0 S0
  refine Endw.eq (g' := mkF m 0 #[.val (.ref a)] []) rfl ?_
  refine C0.aL (Y33 0 rfl) rfl rfl ?_
  refine C0.priv (W := 0) (wd hw 119 rfl) (wd hw 120 rfl) (own_plain (y := ⟨"java/lang/String", "isBlank", "()Z"⟩) (wd hw 117 rfl) (wd hw 116 rfl)) (wd hw 121 rfl) (wd hw 123 rfl) (W3 hw) (by decide) (rm_sfirst l Z a0 EL G a t kb cs h C0.old S hs) (fun _ => rfl) rfl S.1 all0 (by decide) (by decide) (by decide) (by decide) (lenOf pd_282949 rfl) rfl (nb rfl) rfl (Y33 1 rfl) (pc' := 4) rfl ?_
  intro vm1 T1 h1 v1 C1 A1 M1 q1
  obtain ⟨rfl, rfl⟩ := q1
  refine C1.aL (Y33 2 rfl) rfl rfl ?_
  refine C1.virtual (W := 1) (wd hw 149 rfl) (W150 hw) (fun _ q => notFace_of_selects (args := #[]) (mvT q (W152 hw))) (W152 hw) (W151 hw) (W153 hw) (W3 hw) (by decide) (rm_strLen l Z a0 EL G a t kb cs h C1.old S) (fun _ => rfl) rfl S.1 all0 (by decide) (by decide) (by decide) (by decide) (lenOf pd_282949 rfl) rfl (nb rfl) rfl (Y33 3 rfl) (pc' := 8) rfl ?_
  intro vm2 T2 h2 v2 C2 A2 M2 q2
  obtain ⟨rfl, rfl⟩ := q2
  refine C2.cY (pc' := 15) (Y33 4 rfl) (XT.ii_ne_t (fun q => own_n0 hs.1.1 S.le4 q.symm)) (by decide) rfl (C2.ic (z := 0) (Y33 5 rfl) rfl ?_)
  exact C2.retI (t := .boolean) rfl (by simp) rfl (Y33 6 rfl) (by decide) (by decide) ⟨rfl, rfl⟩
theorem rm_sstrip (G : Glob Z a0 EL) (a t : Addr) (kb : ClassId) (cs : List Int32) (h : Heap) (O : Ext Z.heap h) (S : Str Z h a t kb cs) (hs : own_solid cs) :
    Met l Z EL true ⟨"java/lang/String", "strip", "()Ljava/lang/String;"⟩ jdk_42_method_114_code 2 (some (.object "java/lang/String")) [] ⟨4, 0, 0, 59⟩ #[(.ref a)] h [] (fun r h' => r = some (.ref a) ∧ h = h') := by
  have hw := G.hw
  refine Met.of (plainFor_of_name pn_537472696e67_11) G.ew O ?_
  intro p e s m below meth c T0 C0 S0
  refine Endw.eq (g' := mkF m 0 #[.val (.ref a), .unset] []) rfl ?_
  refine C0.aL (Y34 0 rfl) rfl rfl ?_
  refine C0.virtual (W := 0) (wd hw 124 rfl) (wd hw 125 rfl) (fun _ q => notFace_of_selects (args := #[]) (mvT q (W127 hw))) (W127 hw) (wd hw 126 rfl) (wd hw 128 rfl) (W3 hw) (by decide) (rm_isLatin1 l Z a0 EL G a h C0.old S.2.1) (fun _ => rfl) rfl S.1 all0 (by decide) (by decide) (by decide) (by decide) (lenOf pd_28295a rfl) rfl (nb rfl) rfl (Y34 1 rfl) (pc' := 4) rfl ?_
  intro vm1 T1 h1 v1 C1 A1 M1 q1
  obtain ⟨rfl, rfl⟩ := q1
  refine C1.fN (Y34 2 rfl) (XT.i0_eq_f (by decide)) (C1.aL (Y34 3 rfl) rfl rfl ?_)
  refine C1.getF (W28 hw) S.2.2.1 (Y34 4 rfl) (pc' := 11) rfl ?_
  intro T2 C2
  refine C2.static (W := 0) (wd hw 164 rfl) (wd hw 165 rfl) (wd hw 166 rfl) (W131 hw) (by decide) (rm_lstrip l Z a0 EL G t kb cs h C2.old S.2.2.2.1 hs S.le4) (fun _ => rfl) rfl all0 (by decide) (by decide) (by decide) (by decide) (lenOf pd_56 rfl) rfl (nb rfl) rfl (Y34 5 rfl) (pc' := 14) rfl ?_
  intro vm3 T3 h3 v3 C3 A3 M3 q3
  obtain ⟨rfl, rfl⟩ := q3
  refine C3.go (pc' := 24) (Y34 6 rfl) (by decide) rfl (C3.aS (Y34 7 rfl) rfl (l' := #[.val (.ref a), .val .null]) rfl (C3.aL (Y34 8 rfl) rfl rfl ?_))
  refine Endw.st (T' := T3) (g' := (mkF m 29 #[.val (.ref a), .val .null] [])) (fun _ k_ => XS.ifnonnullNo C3.here C3.hx rfl (C3.dec (Y34 9 rfl)) rfl k_) ?_
  refine C3.aL (Y34 10 rfl) rfl rfl (C3.go (pc' := 34) (Y34 11 rfl) (by decide) rfl ?_)
  exact C3.retA (t := (.object "java/lang/String")) rfl rfl rfl rfl (Y34 12 rfl) (by decide) (by decide) ⟨rfl, rfl⟩
theorem rm_seq (G : Glob Z a0 EL) (a : Addr) (h : Heap) (O : Ext Z.heap h)  :
    Met l Z EL true ⟨"java/lang/String", "equals", "(Ljava/lang/Object;)Z"⟩ jdk_42_method_66_code 3 (some .boolean) [] ⟨0, 0, 0, 0⟩ #[(.ref a), (.ref a)] h [] (fun r h' => r = some (.int 1) ∧ h = h') := by
  refine Met.of (plainFor_of_name pn_537472696e67_11) G.ew O ?_
  intro p e s m below meth c T0 C0 S0
  refine Endw.eq (g' := mkF m 0 #[.val (.ref a), .val (.ref a), .unset] []) rfl ?_
  refine C0.aL (Y35 0 rfl) rfl rfl (C0.aL (Y35 1 rfl) rfl rfl ?_)
  refine Endw.st (T' := T0) (g' := (mkF m 5 #[.val (.ref a), .val (.ref a), .unset] [])) (fun _ k_ => XT.acmpNo C0.here C0.hx rfl (C0.dec (Y35 2 rfl)) rfl rfl rfl (XT.aa_ne_f rfl) k_) ?_
  refine C0.ic (z := 1) (Y35 3 rfl) rfl ?_
  exact C0.retI (t := .boolean) rfl (by simp) rfl (Y35 4 rfl) (by decide) (by decide) ⟨rfl, rfl⟩
theorem rm_require (G : Glob Z a0 EL) (v : Value) (hv : v.isRef = true) (a t : Addr) (kb : ClassId) (cs : List Int32) (h : Heap) (O : Ext Z.heap h) (S : Str Z h a t kb cs) (hs : own_solid cs) :
    Met l Z EL true ⟨"com/example/dique/dique/util/Identifiers", "require", "(Ljava/lang/String;Ljava/lang/String;)V"⟩ prog_91_method_5_code 2 none [] ⟨5, 0, 0, 72⟩ #[v, (.ref a)] h [] (fun r h' => r = none ∧ h = h') := by
  have hw := G.hw
  refine Met.of (plainFor_of_name pn_696669657273_5) G.ew O ?_
  intro p e s m below meth c T0 C0 S0
  refine Endw.eq (g' := mkF m 0 #[.val v, .val (.ref a)] []) (by first | rfl | (simp [entryFrame, mkF, argsToLocals, own_cI, own_cR, own_cN, own_cJ, own_cD, maxLocals, XT.cat1 hv]; done)) ?_
  refine C0.aL (Y36 0 rfl) rfl rfl ?_
  refine Endw.st (T' := T0) (g' := (mkF m 4 #[.val v, .val (.ref a)] [])) (fun _ k_ => XS.ifnullNo C0.here C0.hx rfl (C0.dec (Y36 1 rfl)) rfl k_) ?_
  refine C0.aL (Y36 2 rfl) rfl rfl ?_
  refine C0.virtual (W := 0) (wd hw 114 rfl) (wd hw 115 rfl) (fun _ q => notFace_of_selects (args := #[]) (mvT q (wd hw 117 rfl))) (wd hw 117 rfl) (wd hw 116 rfl) (wd hw 118 rfl) (W3 hw) (by decide) (rm_blank l Z a0 EL G a t kb cs h C0.old S hs) (fun _ => rfl) rfl S.1 all0 (by decide) (by decide) (by decide) (by decide) (lenOf pd_28295a rfl) rfl (nb rfl) rfl (Y36 3 rfl) (pc' := 8) rfl ?_
  intro vm1 T1 h1 v1 C1 A1 M1 q1
  obtain ⟨rfl, rfl⟩ := q1
  refine C1.fN (Y36 4 rfl) (XT.i0_ne_f (by decide)) (C1.aL (Y36 5 rfl) rfl rfl ?_)
  refine C1.virtual (W := 0) (wd hw 159 rfl) (wd hw 160 rfl) (fun _ q => notFace_of_selects (args := #[]) (mvT q (wd hw 162 rfl))) (wd hw 162 rfl) (wd hw 161 rfl) (wd hw 163 rfl) (W3 hw) (by decide) (rm_sstrip l Z a0 EL G a t kb cs h C1.old S hs) (fun _ => rfl) rfl S.1 all0 (by decide) (by decide) (by decide) (by decide) (lenOf pd_5 rfl) rfl (nb rfl) rfl (Y36 6 rfl) (pc' := 15) rfl ?_
  intro vm2 T2 h2 v2 C2 A2 M2 q2
  obtain ⟨rfl, rfl⟩ := q2
  refine C2.aL (Y36 7 rfl) rfl rfl ?_
  refine C2.virtual (W := 0) (wd hw 171 rfl) (wd hw 172 rfl) (fun _ q => notFace_of_selects (args := #[]) (mvT q (wd hw 174 rfl))) (wd hw 174 rfl) (wd hw 173 rfl) (wd hw 175 rfl) (W3 hw) (by decide) (rm_seq l Z a0 EL G a h C2.old) (fun _ => rfl) rfl S.1 all0 (by decide) (by decide) (by decide) (by decide) (lenOf pd_37 rfl) rfl (nb rfl) rfl (Y36 8 rfl) (pc' := 19) rfl ?_
  intro vm3 T3 h3 v3 C3 A3 M3 q3
  obtain ⟨rfl, rfl⟩ := q3
  refine C3.fY (pc' := 58) (Y36 9 rfl) (XT.i0_ne_t (by decide)) (by decide) rfl ?_
  exact C3.retV (Y36 10 rfl) (by decide) (by decide) ⟨rfl, rfl⟩
theorem rm_pci (G : Glob Z a0 EL) (i n : Nat) (vv : Value) (hvv : vv.isRef = true) (h : Heap) (O : Ext Z.heap h) (hi : i < n) (hn : n ≤ 4000) :
    Met l Z EL true ⟨"jdk/internal/util/Preconditions", "checkIndex", "(IILjava/util/function/BiFunction;)I"⟩ jdk_41_method_11_code 3 (some .int) [] ⟨0, 0, 0, 0⟩ #[(.int (Int32.ofNat i)), (.int (Int32.ofNat n)), vv] h [] (fun r h' => r = some (.int (Int32.ofNat i)) ∧ h = h') := by
  refine Met.of (plainFor_of_name pn_6974696f6e73_31) G.ew O ?_
  intro p e s m below meth c T0 C0 S0
  refine Endw.eq (g' := mkF m 0 #[.val (.int (Int32.ofNat i)), .val (.int (Int32.ofNat n)), .val vv] []) (by first | rfl | (simp [entryFrame, mkF, argsToLocals, own_cI, own_cR, own_cN, own_cJ, own_cD, maxLocals, XT.cat1 hvv]; done)) ?_
  refine C0.iL (Y37 0 rfl) rfl (C0.fN (Y37 1 rfl) (XT.i0_lt_f (own_nn (by omega))) (C0.iL (Y37 2 rfl) rfl (C0.iL (Y37 3 rfl) rfl (C0.cY (pc' := 16) (Y37 4 rfl) (XT.ii_lt_t ((own_lt (by omega) (by omega)).mpr hi)) (by decide) rfl (C0.iL (Y37 5 rfl) rfl ?_)))))
  exact C0.retI (t := .int) rfl (by simp) rfl (Y37 6 rfl) (by decide) (by decide) ⟨rfl, rfl⟩
theorem rm_sci (G : Glob Z a0 EL) (i n : Nat) (h : Heap) (O : Ext Z.heap h) (hi : i < n) (hn : n ≤ 4000) :
    Met l Z EL true ⟨"java/lang/String", "checkIndex", "(II)V"⟩ jdk_42_method_155_code 2 none [] ⟨1, 0, 0, 14⟩ #[(.int (Int32.ofNat i)), (.int (Int32.ofNat n))] h [] (fun r h' => r = none ∧ h = h') := by
  have hw := G.hw
  obtain ⟨vf, Sf, hvf⟩ := G.fm
  refine Met.of (plainFor_of_name pn_537472696e67_11) G.ew O ?_
  intro p e s m below meth c T0 C0 S0
  refine Endw.eq (g' := mkF m 0 #[.val (.int (Int32.ofNat i)), .val (.int (Int32.ofNat n))] []) rfl ?_
  refine C0.iL (Y38 0 rfl) rfl (C0.iL (Y38 1 rfl) rfl ?_)
  refine C0.getS (wd hw 552 rfl) Sf (Y38 2 rfl) (pc' := 5) rfl ?_
  intro T1 C1
  refine C1.static (W := 0) (wd hw 554 rfl) (wd hw 555 rfl) (wd hw 556 rfl) (wd hw 553 rfl) (by decide) (rm_pci l Z a0 EL G i n vf hvf h C1.old hi hn) (fun _ => rfl) rfl all0 (by decide) (by decide) (by decide) (by decide) (lenOf pd_27 rfl) rfl (nb rfl) rfl (Y38 3 rfl) (pc' := 8) rfl ?_
  intro vm2 T2 h2 v2 C2 A2 M2 q2
  obtain ⟨rfl, rfl⟩ := q2
  refine Endw.st (T' := T2) (g' := (mkF m 9 #[.val (.int (Int32.ofNat i)), .val (.int (Int32.ofNat n))] [])) (fun _ k_ => XS.pop C2.here C2.hx rfl (C2.dec (Y38 4 rfl)) rfl rfl k_) ?_
  exact C2.retV (Y38 5 rfl) (by decide) (by decide) ⟨rfl, rfl⟩
theorem rm_lch (G : Glob Z a0 EL) (t : Addr) (kb : ClassId) (cs : List Int32) (i : Nat) (x : Int32) (h : Heap) (O : Ext Z.heap h) (D : Arv Z h t kb .byte (Int32.ofNat cs.length) (bys cs) (.int 0)) (hi : i < cs.length) (hx : cs.getD i 0 = x) (hb : B8 x) (h4 : cs.length ≤ 4000) :
    Met l Z EL true ⟨"java/lang/StringLatin1", "charAt", "([BI)C"⟩ jdk_43_method_2_code 2 (some .char) [] ⟨2, 0, 0, 27⟩ #[(.ref t), (.int (Int32.ofNat i))] h [] (fun r h' => r = some (.int x) ∧ h = h') := by
  have hw := G.hw
  refine Met.of (plainFor_of_name pn_4c6174696e31_13) G.ew O ?_
  intro p e s m below meth c T0 C0 S0
  refine Endw.eq (g' := mkF m 0 #[.val (.ref t), .val (.int (Int32.ofNat i))] []) rfl ?_
  refine C0.iL (Y39 0 rfl) rfl (C0.aL (Y39 1 rfl) rfl rfl ?_)
  refine C0.len D (Y39 2 rfl) (pc' := 3) rfl ?_
  refine C0.static (W := 0) (wd hw 549 rfl) (wd hw 550 rfl) (wd hw 551 rfl) (W3 hw) (by decide) (rm_sci l Z a0 EL G i cs.length h C0.old hi h4) (fun _ => rfl) rfl all0 (by decide) (by decide) (by decide) (by decide) (lenOf pd_2849492956 rfl) rfl (nb rfl) rfl (Y39 3 rfl) (pc' := 6) rfl ?_
  intro vm1 T1 h1 v1 C1 A1 M1 q1
  obtain ⟨rfl, rfl⟩ := q1
  refine C1.aL (Y39 4 rfl) rfl rfl (C1.iL (Y39 5 rfl) rfl ?_)
  refine C1.baloadN (j := i) D hi (by omega) (v := (.int (own_lo x))) (by rw [own_bysD cs hi, hx]) (Y39 6 rfl) (pc' := 9) rfl ?_
  refine C1.si (z := 255) (Y39 7 rfl) rfl (C1.an (z := ((own_lo x) &&& (255 : Int32))) (Y39 8 rfl) rfl ?_)
  rw [show ((own_lo x) &&& (255 : Int32)) = x from own_chr8 hb]
  refine Endw.st (T' := T1) (g' := (mkF m 14 #[.val (.ref t), .val (.int (Int32.ofNat i))] [(.int (x.toUInt32.toUInt16.toUInt32.toInt32))])) (fun _ k_ => XS.i2c C1.here C1.hx rfl (C1.dec (Y39 9 rfl)) rfl k_) ?_
  rw [show x.toUInt32.toUInt16.toUInt32.toInt32 = x from own_i2c16 (own_b16 hb)]
  exact C1.retI (t := .char) rfl (by simp) (own_narC (own_b16 hb)) (Y39 10 rfl) (by decide) (by decide) ⟨rfl, rfl⟩
theorem rm_chr (G : Glob Z a0 EL) (a t : Addr) (kb : ClassId) (cs : List Int32) (i : Nat) (x : Int32) (h : Heap) (O : Ext Z.heap h) (S : Str Z h a t kb cs) (hi : i < cs.length) (hx : cs.getD i 0 = x) :
    Met l Z EL true ⟨"java/lang/String", "charAt", "(I)C"⟩ jdk_42_method_56_code 2 (some .char) [] ⟨3, 0, 0, 40⟩ #[(.ref a), (.int (Int32.ofNat i))] h [] (fun r h' => r = some (.int x) ∧ h = h') := by
  have hw := G.hw
  refine Met.of (plainFor_of_name pn_537472696e67_11) G.ew O ?_
  intro p e s m below meth c T0 C0 S0
  refine Endw.eq (g' := mkF m 0 #[.val (.ref a), .val (.int (Int32.ofNat i))] []) rfl ?_
  refine C0.aL (Y40 0 rfl) rfl rfl ?_
  refine C0.virtual (W := 0) (wd hw 124 rfl) (wd hw 125 rfl) (fun _ q => notFace_of_selects (args := #[]) (mvT q (W127 hw))) (W127 hw) (wd hw 126 rfl) (wd hw 128 rfl) (W3 hw) (by decide) (rm_isLatin1 l Z a0 EL G a h C0.old S.2.1) (fun _ => rfl) rfl S.1 all0 (by decide) (by decide) (by decide) (by decide) (lenOf pd_28295a rfl) rfl (nb rfl) rfl (Y40 1 rfl) (pc' := 4) rfl ?_
  intro vm1 T1 h1 v1 C1 A1 M1 q1
  obtain ⟨rfl, rfl⟩ := q1
  refine C1.fN (Y40 2 rfl) (XT.i0_eq_f (by decide)) (C1.aL (Y40 3 rfl) rfl rfl ?_)
  refine C1.getF (W28 hw) S.2.2.1 (Y40 4 rfl) (pc' := 11) rfl ?_
  intro T2 C2
  refine C2.iL (Y40 5 rfl) rfl ?_
  refine C2.static (W := 0) (wd hw 546 rfl) (wd hw 547 rfl) (wd hw 548 rfl) (W131 hw) (by decide) (rm_lch l Z a0 EL G t kb cs i x h C2.old S.2.2.2.1 hi hx (hx ▸ own_getAll hi S.2.2.2.2.1) S.le4) (fun _ => rfl) rfl all0 (by decide) (by decide) (by decide) (by decide) (lenOf pd_285b42492943 rfl) rfl (nb rfl) rfl (Y40 6 rfl) (pc' := 15) rfl ?_
  intro vm3 T3 h3 v3 C3 A3 M3 q3
  obtain ⟨rfl, rfl⟩ := q3
  exact C3.retI (t := .char) rfl (by simp) (own_narC (own_b16 (hx ▸ own_getAll hi S.2.2.2.2.1))) (Y40 7 rfl) (by decide) (by decide) ⟨rfl, rfl⟩
theorem rm_foldC (G : Glob Z a0 EL) (x : Int32) (h : Heap) (O : Ext Z.heap h) (hx : own_low x) :
    Met l Z EL true ⟨"com/example/dique/dique/util/Identifiers", "fold", "(C)C"⟩ prog_91_method_4_code 1 (some .char) [] ⟨0, 0, 0, 0⟩ #[(.int x)] h [] (fun r h' => r = some (.int x) ∧ h = h') := by
  refine Met.of (plainFor_of_name pn_696669657273_5) G.ew O ?_
  intro p e s m below meth c T0 C0 S0
  refine Endw.eq (g' := mkF m 0 #[.val (.int x)] []) rfl ?_
  refine C0.iL (Y41 0 rfl) rfl (C0.bi (z := 65) (Y41 1 rfl) rfl (C0.cN (Y41 2 rfl) (XT.ii_lt_f hx.2.1) (C0.iL (Y41 3 rfl) rfl (C0.bi (z := 90) (Y41 4 rfl) rfl (C0.cY (pc' := 23) (Y41 5 rfl) (XT.ii_gt_t hx.2.2) (by decide) rfl (C0.iL (Y41 6 rfl) rfl ?_))))))
  exact C0.retI (t := .char) rfl (by simp) (own_narC (own_b16 hx.1)) (Y41 7 rfl) (by decide) (by decide) ⟨rfl, rfl⟩
theorem rm_canEnc (G : Glob Z a0 EL) (x : Int32) (h : Heap) (O : Ext Z.heap h) (hx : B8 x) :
    Met l Z EL true ⟨"java/lang/StringLatin1", "canEncode", "(C)Z"⟩ jdk_43_method_3_code 1 (some .boolean) [] ⟨0, 0, 0, 0⟩ #[(.int x)] h [] (fun r h' => r = some (.int 1) ∧ h = h') := by
  refine Met.of (plainFor_of_name pn_4c6174696e31_13) G.ew O ?_
  intro p e s m below meth c T0 C0 S0
  refine Endw.eq (g' := mkF m 0 #[.val (.int x)] []) rfl ?_
  refine C0.iL (Y42 0 rfl) rfl (C0.si (z := 255) (Y42 1 rfl) rfl (C0.cN (Y42 2 rfl) (XT.ii_gt_f hx.2) (C0.ic (z := 1) (Y42 3 rfl) rfl (C0.go (pc' := 12) (Y42 4 rfl) (by decide) rfl ?_))))
  exact C0.retI (t := .boolean) rfl (by simp) rfl (Y42 5 rfl) (by decide) (by decide) ⟨rfl, rfl⟩
theorem rm_asbAppC (G : Glob Z a0 EL) (b tb : Addr) (kb : ClassId) (ps : List Int32) (cap : Nat) (x : Int32) (h : Heap) (O : Ext Z.heap h) (B : Sb Z h b tb kb ps cap) (hx : B8 x) (hle : ps.length + 1 ≤ cap) (zb : Z.heap.size ≤ b) (zt : Z.heap.size ≤ tb) :
    Met l Z EL true ⟨"java/lang/AbstractStringBuilder", "append", "(C)Ljava/lang/AbstractStringBuilder;"⟩ jdk_68_method_31_code 2 (some (.object "java/lang/AbstractStringBuilder")) [] ⟨1, 0, 0, 14⟩ #[(.ref b), (.int x)] h [tb] (fun r h' => r = some (.ref b) ∧ Keep h h' [b, tb] ∧ Sb Z h' b tb kb (ps ++ [x]) cap) := by
  have hw := G.hw
  refine Met.of (plainFor_of_name pn_75696c646572_6) G.ew O ?_
  intro p e s m below meth c T0 C0 S0
  refine Endw.eq (g' := mkF m 0 #[.val (.ref b), .val (.int x)] []) rfl ?_
  refine C0.aL (Y43 0 rfl) rfl rfl (C0.aL (Y43 1 rfl) rfl rfl ?_)
  refine C0.getF (W378 hw) B.2.1.2 (Y43 2 rfl) (pc' := 5) rfl ?_
  intro T1 C1
  refine C1.ic (z := 1) (Y43 3 rfl) rfl (C1.ad (z := ((Int32.ofNat ps.length) + (1 : Int32))) (Y43 4 rfl) rfl ?_)
  rw [show ((Int32.ofNat ps.length) + (1 : Int32)) = (Int32.ofNat (ps ++ [x]).length) from by rw [own_inc, List.length_append]; rfl]
  refine C1.priv (W := 0) (wd hw 380 rfl) (W381 hw) (own_plain (y := ⟨"java/lang/AbstractStringBuilder", "ensureCapacityInternal", "(I)V"⟩) (W383 hw) (W381 hw)) (wd hw 382 rfl) (wd hw 384 rfl) (W358 hw) (by decide) (rm_ensure l Z a0 EL G b tb kb ps cap (ps ++ [x]).length h C1.old B (by rw [List.length_append]; exact hle)) (fun _ => rfl) rfl B.1 all0 (by decide) (by decide) (by decide) (by decide) (lenOf pd_28492956 rfl) rfl (nb rfl) rfl (Y43 5 rfl) (pc' := 10) rfl ?_
  intro vm2 T2 h2 v2 C2 A2 M2 q2
  obtain ⟨rfl, rfl⟩ := q2
  refine C2.aL (Y43 6 rfl) rfl rfl ?_
  refine C2.virtual (W := 0) (wd hw 569 rfl) (wd hw 443 rfl) (fun _ q => notFace_of_selects (args := #[]) (mvT q (wd hw 445 rfl))) (wd hw 445 rfl) (wd hw 444 rfl) (wd hw 446 rfl) (W358 hw) (by decide) (rm_asbLat l Z a0 EL G b h C2.old B.2.1.1) (fun _ => rfl) rfl B.1 all0 (by decide) (by decide) (by decide) (by decide) (lenOf pd_28295a rfl) rfl (nb rfl) rfl (Y43 7 rfl) (pc' := 14) rfl ?_
  intro vm3 T3 h3 v3 C3 A3 M3 q3
  obtain ⟨rfl, rfl⟩ := q3
  refine C3.fN (Y43 8 rfl) (XT.i0_eq_f (by decide)) (C3.iL (Y43 9 rfl) rfl ?_)
  refine C3.static (W := 0) (wd hw 570 rfl) (wd hw 571 rfl) (wd hw 572 rfl) (W131 hw) (by decide) (rm_canEnc l Z a0 EL G x h C3.old hx) (fun _ => rfl) rfl all0 (by decide) (by decide) (by decide) (by decide) (lenOf pd_2843295a rfl) rfl (nb rfl) rfl (Y43 10 rfl) (pc' := 21) rfl ?_
  intro vm4 T4 h4 v4 C4 A4 M4 q4
  obtain ⟨rfl, rfl⟩ := q4
  refine C4.fN (Y43 11 rfl) (XT.i0_eq_f (by decide)) (C4.aL (Y43 12 rfl) rfl rfl ?_)
  refine C4.getF (W362 hw) B.2.2.1 (Y43 13 rfl) (pc' := 28) rfl ?_
  intro T5 C5
  refine C5.aL (Y43 14 rfl) rfl rfl (C5.du (Y43 15 rfl) rfl ?_)
  refine C5.getF (W378 hw) B.2.1.2 (Y43 16 rfl) (pc' := 33) rfl ?_
  intro T6 C6
  refine Endw.st (T' := T6) (g' := (mkF m 34 #[.val (.ref b), .val (.int x)] [(.int (Int32.ofNat ps.length)), (.ref b), (.int (Int32.ofNat ps.length)), (.ref tb)])) (fun _ k_ => XS.dupX1 C6.here C6.hx rfl (C6.dec (Y43 17 rfl)) rfl rfl rfl k_) ?_
  refine C6.ic (z := 1) (Y43 18 rfl) rfl (C6.ad (z := ((Int32.ofNat ps.length) + (1 : Int32))) (Y43 19 rfl) rfl ?_)
  rw [show ((Int32.ofNat ps.length) + (1 : Int32)) = (Int32.ofNat (ps ++ [x]).length) from by rw [own_inc, List.length_append]; rfl]
  refine C6.putF (v := (.int (Int32.ofNat (ps ++ [x]).length))) (W378 hw) B.2.1.2 B.1 (Or.inl (W379 hw)) (W349 hw) (ty := .int) (by decide) rfl rfl zb (Safe.exa C6.warm.alike B.1 (by decide) (by decide)) (Y43 20 rfl) (pc' := 39) rfl ?_
  intro T7 h7 C7 K7 A7 Wr7
  have f8 := B.2.1.2.same Wr7
  have f9 := B.2.1.1.other Wr7 (Or.inr (slot_ne (Or.inl (W365 hw)) (Or.inl (W379 hw)) (by decide) (t := .byte) (t' := .int) (by decide) (by decide)))
  have f10 := B.2.2.1.other Wr7 (Or.inr (slot_ne (Or.inl (W363 hw)) (Or.inl (W379 hw)) (by decide) (t := (.array .byte)) (t' := .int) (by decide) (by decide)))
  refine C7.iL (Y43 21 rfl) rfl ?_
  refine Endw.st (T' := T7) (g' := (mkF m 41 #[.val (.ref b), .val (.int x)] [(.int (x.toInt8.toInt32)), (.int (Int32.ofNat ps.length)), (.ref tb)])) (fun _ k_ => XS.i2b C7.here C7.hx rfl (C7.dec (Y43 22 rfl)) rfl k_) ?_
  have ne11 : tb ≠ b := (Ne.symm (RoadKit.Exa.neArv B.1 B.2.2.2.1 (W349 hw)))
  have f12 := (B.2.2.2.1.keep K7 (ninS ne11 nin0))
  have f14 := (A7.safe B.2.2.2.1.lt (A4.safe B.2.2.2.1.lt (A3.safe B.2.2.2.1.lt (A2.safe B.2.2.2.1.lt (S0 tb (by simp))))))
  refine C7.bastoreEnd (i := ps.length) (vs := (bys ps)) (x' := (x.toInt8.toInt32)) f12 (bys_len ps) (by omega) B.le4 own_nar_byte zt f14 (Y43 23 rfl) (pc' := 42) rfl ?_
  intro T13 h13 C13 K13 A13 V13
  refine C13.go (pc' := 75) (Y43 24 rfl) (by decide) rfl (C13.aL (Y43 25 rfl) rfl rfl ?_)
  have KK15 := (kT (kT (kR h [b, tb]) K7 (allS m0 all0)) K13 (allS m1 all0))
  have KK16 := (kT (kT (kR h [b, tb]) K7 (allS m0 all0)) K13 (allS m1 all0))
  have f17 := (B.1.keep KK16)
  have f18 := (f9.keep K13 (ninS (Ne.symm ne11) nin0))
  have f19 := (f8.keep K13 (ninS (Ne.symm ne11) nin0))
  have f20 := (f10.keep K13 (ninS (Ne.symm ne11) nin0))
  exact C13.retA (t := (.object "java/lang/AbstractStringBuilder")) rfl rfl rfl rfl (Y43 26 rfl) (by decide) (by decide) ⟨rfl, KK15, ⟨f17, ⟨f18, f19⟩, f20, (by rw [own_bys1]; exact V13), own_all_app B.2.2.2.2.1 (own_cS hx own_c0), (by rw [List.length_append]; exact hle), B.le4⟩⟩
theorem rm_sbAppC (G : Glob Z a0 EL) (b tb : Addr) (kb : ClassId) (ps : List Int32) (cap : Nat) (x : Int32) (h : Heap) (O : Ext Z.heap h) (B : Sb Z h b tb kb ps cap) (hx : B8 x) (hle : ps.length + 1 ≤ cap) (zb : Z.heap.size ≤ b) (zt : Z.heap.size ≤ tb) :
    Met l Z EL true ⟨"java/lang/StringBuilder", "append", "(C)Ljava/lang/StringBuilder;"⟩ jdk_67_method_14_code 2 (some (.object "java/lang/StringBuilder")) [] ⟨2, 0, 0, 27⟩ #[(.ref b), (.int x)] h [tb] (fun r h' => r = some (.ref b) ∧ Keep h h' [b, tb] ∧ Sb Z h' b tb kb (ps ++ [x]) cap) := by
  have hw := G.hw
  refine Met.of (plainFor_of_name pn_75696c646572_12) G.ew O ?_
  intro p e s m below meth c T0 C0 S0
  refine Endw.eq (g' := mkF m 0 #[.val (.ref b), .val (.int x)] []) rfl ?_
  refine C0.aL (Y44 0 rfl) rfl rfl (C0.iL (Y44 1 rfl) rfl ?_)
  refine C0.super (y := ⟨"java/lang/AbstractStringBuilder", "append", "(C)Ljava/lang/AbstractStringBuilder;"⟩) (W := 0) (a := b) (argsL := [(.int x)]) (rest := []) (by decide) (wd hw 565 rfl) (own_same (wd hw 567 rfl) (own_plain (y := ⟨"java/lang/AbstractStringBuilder", "ensureCapacityInternal", "(I)V"⟩) (W383 hw) (W381 hw)) (by decide)) (wd hw 566 rfl) (wd hw 374 rfl) (wd hw 568 rfl) (W358 hw) (rm_asbAppC l Z a0 EL G b tb kb ps cap x h C0.old B hx hle zb zt) (fun _ => rfl) rfl B.1 (allS ⟨B.2.2.2.1.lt, (S0 tb (by simp))⟩ all0) (by decide) (by decide) (by decide) (by decide) (lenOf pd_14 rfl) rfl (nb rfl) rfl (Y44 2 rfl) (pc' := 5) rfl ?_
  intro vm1 T1 h1 v1 C1 A1 M1 q1
  obtain ⟨rfl, K1, Z1⟩ := q1
  refine Endw.st (T' := T1) (g' := (mkF m 6 #[.val (.ref b), .val (.int x)] [])) (fun _ k_ => XS.pop C1.here C1.hx rfl (C1.dec (Y44 3 rfl)) rfl rfl k_) ?_
  refine C1.aL (Y44 4 rfl) rfl rfl ?_
  exact C1.retA (t := (.object "java/lang/StringBuilder")) rfl rfl rfl rfl (Y44 5 rfl) (by decide) (by decide) ⟨rfl, K1, Z1⟩
theorem rm_asbInit1 (G : Glob Z a0 EL) (b : Addr) (h : Heap) (O : Ext Z.heap h) (E0 : Exa Z h b "java/lang/StringBuilder") (F0 : Fld Z h b "java/lang/AbstractStringBuilder" "value" "[B" .null) (F1 : Fld Z h b "java/lang/AbstractStringBuilder" "coder" "B" (.int 0)) (F2 : Fld Z h b "java/lang/AbstractStringBuilder" "count" "I" (.int 0)) (zb : Z.heap.size ≤ b) :
    Met l Z EL true ⟨"java/lang/AbstractStringBuilder", "<init>", "(I)V"⟩ jdk_68_method_2_code 2 none [] ⟨1, 1, 1, 12⟩ #[(.ref b), (.int 1)] h [] (fun r h' => r = none ∧ ∃ (t : Addr) (kb : ClassId), Keep h h' [b] ∧ h.size ≤ t ∧ Z.heap.size ≤ t ∧ Sb Z h' b t kb [] 1 ∧ Exa Z h' t "[B") := by
  have hw := G.hw
  obtain ⟨zc, Sc, hzc⟩ := G.cs
  refine Met.of (plainFor_of_name pn_75696c646572_6) G.ew O ?_
  intro p e s m below meth c T0 C0 S0
  refine Endw.eq (g' := mkF m 0 #[.val (.ref b), .val (.int 1)] []) rfl ?_
  refine C0.aL (Y14 0 rfl) rfl rfl ?_
  refine C0.initO (wd hw 360 rfl) (W12 hw) (W13 hw) rfl (Y14 1 rfl) (pc' := 4) rfl (by decide) (W := 0) (nb rfl) (by decide) ?_
  intro T1 C1
  refine C1.getS (wd hw 361 rfl) Sc (Y14 2 rfl) (pc' := 7) rfl ?_
  intro T2 C2
  refine C2.fN (Y14 3 rfl) (XT.i0_eq_f hzc) (C2.aL (Y14 4 rfl) rfl rfl (C2.iL (Y14 5 rfl) rfl ?_))
  refine C2.newAE (aty := .byte) (z := (1 : Int32)) (cap := 1) (vs := []) (ad := "[B") (by decide +kernel) (W19 hw) (Y14 6 rfl) (pc' := 14) rfl (by decide) (by decide) (by decide) (by decide) (by decide) rfl ?_
  intro T3 h3 a3 kA3 C3 K3 A3 ge3 zg3 V3 S3 E3
  have f4 := (E0.keep K3)
  have f5 := (F0.keep K3 nin0)
  have f7 := (F1.keep K3 nin0)
  have f8 := (F2.keep K3 nin0)
  refine C3.putF (v := (.ref a3)) (W362 hw) f5 f4 (Or.inl (W363 hw)) (W349 hw) (ty := (.array .byte)) (by decide) rfl rfl zb (Safe.exa C3.warm.alike f4 (by decide) (by decide)) (Y14 7 rfl) (pc' := 17) rfl ?_
  intro T6 h6 C6 K6 A6 Wr6
  have f9 := f5.same Wr6
  have f10 := f7.other Wr6 (Or.inr (slot_ne (Or.inl (W365 hw)) (Or.inl (W363 hw)) (by decide) (t := .byte) (t' := (.array .byte)) (by decide) (by decide)))
  have f11 := f8.other Wr6 (Or.inr (slot_ne (Or.inl (W379 hw)) (Or.inl (W363 hw)) (by decide) (t := .int) (t' := (.array .byte)) (by decide) (by decide)))
  refine C6.aL (Y14 8 rfl) rfl rfl (C6.ic (z := 0) (Y14 9 rfl) rfl ?_)
  have f12 := (f4.keep K6)
  refine C6.putF (v := (.int 0)) (W364 hw) f10 f12 (Or.inl (W365 hw)) (W349 hw) (ty := .byte) (by decide) rfl rfl zb (Safe.exa C6.warm.alike f12 (by decide) (by decide)) (Y14 10 rfl) (pc' := 22) rfl ?_
  intro T13 h13 C13 K13 A13 Wr13
  have f14 := f10.same Wr13
  have f15 := f9.other Wr13 (Or.inr (slot_ne (Or.inl (W363 hw)) (Or.inl (W365 hw)) (by decide) (t := (.array .byte)) (t' := .byte) (by decide) (by decide)))
  have f16 := f11.other Wr13 (Or.inr (slot_ne (Or.inl (W379 hw)) (Or.inl (W365 hw)) (by decide) (t := .int) (t' := .byte) (by decide) (by decide)))
  refine C13.go (pc' := 38) (Y14 11 rfl) (by decide) rfl ?_
  have KK17 := (kT (kT (kR h3 [b]) K6 (allS m0 all0)) K13 (allS m0 all0))
  have ne18 : a3 ≠ b := (Ne.symm (nL (lL E0.lt ge3)))
  have f19 := (V3.keep KK17 (ninS ne18 nin0))
  have KK20 := (kT (kT (kT (kR h [b]) K3 all0) K6 (allS m0 all0)) K13 (allS m0 all0))
  have f21 := (f12.keep K13)
  have f22 := (E3.keep KK17)
  exact C13.retV (Y14 12 rfl) (by decide) (by decide) ⟨rfl, a3, kA3, KK20, ge3, zg3, ⟨f21, ⟨f14, f16⟩, f15, f19, own_c0, by decide, by decide⟩, f22⟩
theorem rm_sbInit1 (G : Glob Z a0 EL) (b : Addr) (h : Heap) (O : Ext Z.heap h) (E0 : Exa Z h b "java/lang/StringBuilder") (F0 : Fld Z h b "java/lang/AbstractStringBuilder" "value" "[B" .null) (F1 : Fld Z h b "java/lang/AbstractStringBuilder" "coder" "B" (.int 0)) (F2 : Fld Z h b "java/lang/AbstractStringBuilder" "count" "I" (.int 0)) (zb : Z.heap.size ≤ b) :
    Met l Z EL true ⟨"java/lang/StringBuilder", "<init>", "(I)V"⟩ jdk_67_method_2_code 2 none [] ⟨2, 1, 1, 25⟩ #[(.ref b), (.int 1)] h [] (fun r h' => r = none ∧ ∃ (t : Addr) (kb : ClassId), Keep h h' [b] ∧ h.size ≤ t ∧ Z.heap.size ≤ t ∧ Sb Z h' b t kb [] 1 ∧ Exa Z h' t "[B") := by
  have hw := G.hw
  refine Met.of (plainFor_of_name pn_75696c646572_12) G.ew O ?_
  intro p e s m below meth c T0 C0 S0
  refine Endw.eq (g' := mkF m 0 #[.val (.ref b), .val (.int 1)] []) rfl ?_
  refine C0.aL (Y45 0 rfl) rfl rfl (C0.iL (Y45 1 rfl) rfl ?_)
  refine C0.special (y := ⟨"java/lang/AbstractStringBuilder", "<init>", "(I)V"⟩) (W := 0) rfl (wd hw 354 rfl) (wd hw 355 rfl) (wd hw 359 rfl) (W358 hw) (by decide) (rm_asbInit1 l Z a0 EL G b h C0.old E0 F0 F1 F2 zb) (fun _ => rfl) rfl all0 (by decide) (by decide) (by decide) (by decide) (lenOf pd_28492956 rfl) rfl (nb rfl) rfl (Y45 2 rfl) (pc' := 5) rfl ?_
  intro vm1 T1 h1 v1 C1 A1 M1 q1
  obtain ⟨rfl, t1, kb1, K1, ge1, zg1, Z1, E1⟩ := q1
  exact C1.retV (Y45 3 rfl) (by decide) (by decide) ⟨rfl, t1, kb1, K1, ge1, zg1, Z1, E1⟩
theorem rm_crC (G : Glob Z a0 EL) (t : Addr) (kb : ClassId) (cs : List Int32) (h : Heap) (O : Ext Z.heap h) (V : Arv Z h t kb .byte (Int32.ofNat cs.length) (bys cs) (.int 0)) (ET : Exa Z h t "[B") (h4 : cs.length ≤ 4) :
    Met l Z EL true ⟨"java/util/Arrays", "copyOfRange", "([BII)[B"⟩ jdk_65_method_132_code 3 (some (.array .byte)) [] ⟨1, 1, 4, 14⟩ #[(.ref t), (.int 0), (.int (Int32.ofNat cs.length))] h [] (fun r h' => ∃ (d : Addr) (kd : ClassId), r = some (.ref d) ∧ Keep h h' [] ∧ h.size ≤ d ∧ Z.heap.size ≤ d ∧ Arv Z h' d kd .byte (Int32.ofNat cs.length) (bys cs) (.int 0)) := by
  have hw := G.hw
  refine Met.of (plainFor_of_name pn_417272617973_19) G.ew O ?_
  intro p e s m below meth c T0 C0 S0
  refine Endw.eq (g' := mkF m 0 #[.val (.ref t), .val (.int 0), .val (.int (Int32.ofNat cs.length))] []) rfl ?_
  refine C0.iL (Y22 0 rfl) rfl (C0.fN (Y22 1 rfl) (XT.i0_ne_f (by decide)) (C0.iL (Y22 2 rfl) rfl (C0.aL (Y22 3 rfl) rfl rfl ?_)))
  refine C0.len V (Y22 4 rfl) (pc' := 7) rfl ?_
  refine C0.cY (pc' := 17) (Y22 5 rfl) (XT.ii_eq_t rfl) (by decide) rfl (C0.aL (Y22 11 rfl) rfl rfl ?_)
  refine C0.clone (ad := "[B") (W := 0) (cap := 4) (a := t) (rest := []) (wd hw 574 rfl) (wd hw 575 rfl) (wd hw 579 rfl) (wd hw 577 rfl) (wd hw 578 rfl) (wd hw 580 rfl) V ET (by decide) (nb rfl) (by decide) (by rw [own_nc (by omega)]; exact h4) (by decide) (by decide) rfl (Y22 12 rfl) (pc' := 21) rfl ?_
  intro T1 h1 a1 C1 K1 A1 ge1 zg1 V1 S1 E1
  refine C1.castY (wd hw 581 rfl) (Ins.of_exa E1 (wd hw 582 rfl)) (Y22 13 rfl) (pc' := 24) rfl ?_
  intro T2 C2
  exact C2.retA (t := (.array .byte)) rfl rfl rfl rfl (Y22 14 rfl) (by decide) (by decide) ⟨a1, kb, rfl, K1, ge1, zg1, V1⟩
theorem rm_siaC (G : Glob Z a0 EL) (a b t : Addr) (kb : ClassId) (cs : List Int32) (h : Heap) (O : Ext Z.heap h) (E0 : Exa Z h a "java/lang/String") (F0 : Fld Z h a "java/lang/String" "value" "[B" .null) (F1 : Fld Z h a "java/lang/String" "coder" "B" (.int 0)) (H0 : Fld Z h a "java/lang/String" "hash" "I" (.int 0)) (H1 : Fld Z h a "java/lang/String" "hashIsZero" "Z" (.int 0)) (za : Z.heap.size ≤ a) (B : Sb Z h b t kb cs cs.length) (ET : Exa Z h t "[B") (h4 : cs.length ≤ 4) :
    Met l Z EL true ⟨"java/lang/String", "<init>", "(Ljava/lang/AbstractStringBuilder;Ljava/lang/Void;)V"⟩ jdk_42_method_150_code 5 none [] ⟨2, 1, 4, 29⟩ #[(.ref a), (.ref b), .null] h [a] (fun r h' => r = none ∧ ∃ (d : Addr) (kd : ClassId), Keep h h' [a] ∧ h.size ≤ d ∧ Z.heap.size ≤ d ∧ Str Z h' a d kd cs ∧ Fld Z h' a "java/lang/String" "hash" "I" (.int 0) ∧ Fld Z h' a "java/lang/String" "hashIsZero" "Z" (.int 0)) := by
  have hw := G.hw
  refine Met.of (plainFor_of_name pn_537472696e67_11) G.ew O ?_
  intro p e s m below meth c T0 C0 S0
  refine Endw.eq (g' := mkF m 0 #[.val (.ref a), .val (.ref b), .val .null, .unset, .unset] []) rfl ?_
  refine C0.aL (Y23 0 rfl) rfl rfl ?_
  refine C0.initO (wd hw 11 rfl) (W12 hw) (W13 hw) rfl (Y23 1 rfl) (pc' := 4) rfl (by decide) (W := 0) (nb rfl) (by decide) ?_
  intro T1 C1
  refine C1.aL (Y23 2 rfl) rfl rfl ?_
  refine C1.virtual (W := 0) (wd hw 429 rfl) (wd hw 430 rfl) (fun _ q => notFace_of_selects (args := #[]) (mvT q (wd hw 432 rfl))) (wd hw 432 rfl) (wd hw 431 rfl) (wd hw 433 rfl) (W358 hw) (by decide) (rm_getValue l Z a0 EL G b t h C1.old B.2.2.1) (fun _ => rfl) rfl B.1 all0 (by decide) (by decide) (by decide) (by decide) (lenOf pd_28295b42 rfl) rfl (nb rfl) rfl (Y23 3 rfl) (pc' := 8) rfl ?_
  intro vm2 T2 h2 v2 C2 A2 M2 q2
  obtain ⟨rfl, rfl⟩ := q2
  refine C2.aS (Y23 4 rfl) rfl (l' := #[.val (.ref a), .val (.ref b), .val .null, .val (.ref t), .unset]) rfl (C2.aL (Y23 5 rfl) rfl rfl ?_)
  refine C2.virtual (W := 0) (wd hw 434 rfl) (wd hw 435 rfl) (fun _ q => own_nf (own_plain (y := ⟨"java/lang/AbstractStringBuilder", "ensureCapacityInternal", "(I)V"⟩) (a0 := #[]) (mvT q (W383 hw)) (mvT q (W381 hw)))) (wd hw 437 rfl) (wd hw 438 rfl) (wd hw 439 rfl) (W350 hw) (by decide) (rm_sbLen l Z a0 EL G b (Int32.ofNat cs.length) h C2.old B.1 B.2.1.2) (fun _ => rfl) rfl B.1 all0 (by decide) (by decide) (by decide) (by decide) (lenOf pd_282949 rfl) rfl (nb rfl) rfl (Y23 6 rfl) (pc' := 13) rfl ?_
  intro vm3 T3 h3 v3 C3 A3 M3 q3
  obtain ⟨rfl, rfl⟩ := q3
  refine C3.iSk (Y23 7 rfl) (l' := #[.val (.ref a), .val (.ref b), .val .null, .val (.ref t), .val (.int (Int32.ofNat cs.length))]) rfl (C3.aL (Y23 8 rfl) rfl rfl ?_)
  refine C3.virtual (W := 0) (wd hw 442 rfl) (wd hw 443 rfl) (fun _ q => notFace_of_selects (args := #[]) (mvT q (wd hw 445 rfl))) (wd hw 445 rfl) (wd hw 444 rfl) (wd hw 446 rfl) (W358 hw) (by decide) (rm_asbLat l Z a0 EL G b h C3.old B.2.1.1) (fun _ => rfl) rfl B.1 all0 (by decide) (by decide) (by decide) (by decide) (lenOf pd_28295a rfl) rfl (nb rfl) rfl (Y23 9 rfl) (pc' := 19) rfl ?_
  intro vm4 T4 h4 v4 C4 A4 M4 q4
  obtain ⟨rfl, rfl⟩ := q4
  refine C4.fN (Y23 10 rfl) (XT.i0_eq_f (by decide)) (C4.aL (Y23 11 rfl) rfl rfl (C4.ic (z := 0) (Y23 12 rfl) rfl ?_))
  have f6 := (A4.safe E0.lt (A3.safe E0.lt (A2.safe E0.lt (S0 a (by simp)))))
  refine C4.putF (v := (.int 0)) (wd hw 26 rfl) F1 E0 (Or.inr ⟨(W27 hw), rfl, rfl⟩) (W2 hw) (ty := .byte) (by decide) rfl rfl za f6 (Y23 13 rfl) (pc' := 27) rfl ?_
  intro T5 h5 C5 K5 A5 Wr5
  have f7 := F1.same Wr5
  have f8 := F0.other Wr5 (Or.inr (slot_ne (Or.inr (W29 hw)) (Or.inr (W27 hw)) (by decide) (t := (.array .byte)) (t' := .byte) (by decide) (by decide)))
  have f9 := H0.other Wr5 (Or.inr (slot_ne (Or.inl (W602 hw)) (Or.inr (W27 hw)) (by decide) (t := .int) (t' := .byte) (by decide) (by decide)))
  have f10 := H1.other Wr5 (Or.inr (slot_ne (Or.inl (wd hw 604 rfl)) (Or.inr (W27 hw)) (by decide) (t := .boolean) (t' := .byte) (by decide) (by decide)))
  refine C5.aL (Y23 14 rfl) rfl rfl (C5.aL (Y23 15 rfl) rfl rfl (C5.ic (z := 0) (Y23 16 rfl) rfl (C5.iLk (Y23 17 rfl) rfl ?_)))
  have ne11 : t ≠ a := (RoadKit.Exa.ne ET E0 (by decide))
  have f12 := (B.2.2.2.1.keep K5 (ninS ne11 nin0))
  have f13 := (ET.keep K5)
  refine C5.static (W := 1) (wd hw 447 rfl) (wd hw 448 rfl) (wd hw 449 rfl) (W232 hw) (by decide) (rm_crC l Z a0 EL G t kb cs h5 C5.old f12 f13 h4) (fun _ => rfl) rfl all0 (by decide) (by decide) (by decide) (by decide) (lenOf pd_285b424949295b42 rfl) rfl (nb rfl) rfl (Y23 18 rfl) (pc' := 35) rfl ?_
  intro vm14 T14 h14 v14 C14 A14 M14 q14
  obtain ⟨d14, kd14, rfl, K14, ge14, zg14, V14⟩ := q14
  have KK15 := (kT (kT (kR h [a]) K5 (allS m0 all0)) K14 all0)
  have f16 := (E0.keep KK15)
  have f17 := (f8.keep K14 nin0)
  have f19 := (f7.keep K14 nin0)
  have f20 := (f9.keep K14 nin0)
  have f21 := (f10.keep K14 nin0)
  have f22 := (A14.safe (lL E0.lt K5.1) (A5.safe E0.lt f6))
  refine C14.putF (v := (.ref d14)) (W28 hw) f17 f16 (Or.inr ⟨(W29 hw), rfl, rfl⟩) (W2 hw) (ty := (.array .byte)) (by decide) rfl rfl za f22 (Y23 19 rfl) (pc' := 38) rfl ?_
  intro T18 h18 C18 K18 A18 Wr18
  have f23 := f17.same Wr18
  have f24 := f19.other Wr18 (Or.inr (slot_ne (Or.inr (W27 hw)) (Or.inr (W29 hw)) (by decide) (t := .byte) (t' := (.array .byte)) (by decide) (by decide)))
  have f25 := f20.other Wr18 (Or.inr (slot_ne (Or.inl (W602 hw)) (Or.inr (W29 hw)) (by decide) (t := .int) (t' := (.array .byte)) (by decide) (by decide)))
  have f26 := f21.other Wr18 (Or.inr (slot_ne (Or.inl (wd hw 604 rfl)) (Or.inr (W29 hw)) (by decide) (t := .boolean) (t' := (.array .byte)) (by decide) (by decide)))
  refine C18.go (pc' := 97) (Y23 20 rfl) (by decide) rfl ?_
  have ne27 : d14 ≠ a := (Ne.symm (nL (lL (lL E0.lt K5.1) ge14)))
  have f28 := (V14.keep K18 (ninS ne27 nin0))
  have KK29 := (kT (kT (kT (kR h [a]) K5 (allS m0 all0)) K14 all0) K18 (allS m0 all0))
  have f30 := (f16.keep K18)
  exact C18.retV (Y23 21 rfl) (by decide) (by decide) ⟨rfl, d14, kd14, KK29, (lT K5.1 ge14), zg14, ⟨f30, f24, f23, f28, B.2.2.2.2.1, by omega⟩, f25, f26⟩
theorem rm_sisC (G : Glob Z a0 EL) (a b t : Addr) (kb : ClassId) (cs : List Int32) (h : Heap) (O : Ext Z.heap h) (E0 : Exa Z h a "java/lang/String") (F0 : Fld Z h a "java/lang/String" "value" "[B" .null) (F1 : Fld Z h a "java/lang/String" "coder" "B" (.int 0)) (H0 : Fld Z h a "java/lang/String" "hash" "I" (.int 0)) (H1 : Fld Z h a "java/lang/String" "hashIsZero" "Z" (.int 0)) (za : Z.heap.size ≤ a) (B : Sb Z h b t kb cs cs.length) (ET : Exa Z h t "[B") (h4 : cs.length ≤ 4) :
    Met l Z EL true ⟨"java/lang/String", "<init>", "(Ljava/lang/StringBuilder;)V"⟩ jdk_42_method_53_code 2 none [] ⟨3, 1, 4, 45⟩ #[(.ref a), (.ref b)] h [a] (fun r h' => r = none ∧ ∃ (d : Addr) (kd : ClassId), Keep h h' [a] ∧ h.size ≤ d ∧ Z.heap.size ≤ d ∧ Str Z h' a d kd cs ∧ Fld Z h' a "java/lang/String" "hash" "I" (.int 0) ∧ Fld Z h' a "java/lang/String" "hashIsZero" "Z" (.int 0)) := by
  have hw := G.hw
  refine Met.of (plainFor_of_name pn_537472696e67_11) G.ew O ?_
  intro p e s m below meth c T0 C0 S0
  refine Endw.eq (g' := mkF m 0 #[.val (.ref a), .val (.ref b)] []) rfl ?_
  refine C0.aL (Y24 0 rfl) rfl rfl (C0.aL (Y24 1 rfl) rfl rfl (C0.nu (Y24 2 rfl) ?_))
  refine C0.special (y := ⟨"java/lang/String", "<init>", "(Ljava/lang/AbstractStringBuilder;Ljava/lang/Void;)V"⟩) (W := 0) rfl (wd hw 426 rfl) (wd hw 427 rfl) (wd hw 428 rfl) (W3 hw) (by decide) (rm_siaC l Z a0 EL G a b t kb cs h C0.old E0 F0 F1 H0 H1 za B ET h4) (fun _ => rfl) rfl (allS ⟨E0.lt, (S0 a (by simp))⟩ all0) (by decide) (by decide) (by decide) (by decide) (lenOf pd_32 rfl) rfl (nb rfl) rfl (Y24 3 rfl) (pc' := 6) rfl ?_
  intro vm1 T1 h1 v1 C1 A1 M1 q1
  obtain ⟨rfl, d1, kd1, K1, ge1, zg1, Z1, H1, I1⟩ := q1
  exact C1.retV (Y24 4 rfl) (by decide) (by decide) ⟨rfl, d1, kd1, K1, ge1, zg1, Z1, H1, I1⟩
theorem rm_tosC (G : Glob Z a0 EL) (b t : Addr) (kb : ClassId) (cs : List Int32) (h : Heap) (O : Ext Z.heap h) (B : Sb Z h b t kb cs cs.length) (ET : Exa Z h t "[B") (h4 : cs.length ≤ 4) :
    Met l Z EL true ⟨"java/lang/StringBuilder", "toString", "()Ljava/lang/String;"⟩ jdk_67_method_42_code 1 (some (.object "java/lang/String")) [] ⟨4, 2, 8, 59⟩ #[(.ref b)] h [] (fun r h' => ∃ (a_ d : Addr) (kd : ClassId), r = some (.ref a_) ∧ Keep h h' [] ∧ h.size ≤ a_ ∧ h.size ≤ d ∧ Z.heap.size ≤ a_ ∧ Z.heap.size ≤ d ∧ Str Z h' a_ d kd cs ∧ Fld Z h' a_ "java/lang/String" "hash" "I" (.int 0) ∧ Fld Z h' a_ "java/lang/String" "hashIsZero" "Z" (.int 0)) := by
  have hw := G.hw
  refine Met.of (plainFor_of_name pn_75696c646572_12) G.ew O ?_
  intro p e s m below meth c T0 C0 S0
  refine Endw.eq (g' := mkF m 0 #[.val (.ref b)] []) rfl ?_
  refine C0.new (wd hw 422 rfl) (W2 hw) (W3 hw) (Y25 0 rfl) (pc' := 3) rfl (by decide) (by decide) ?_
  intro T1 h1 a1 C1 K1 A1 ge1 zg1 E1 D1 S1
  refine C1.du (Y25 1 rfl) rfl (C1.aL (Y25 2 rfl) rfl rfl ?_)
  have f2 := (B.keep K1 nin0 nin0)
  have f3 : Fld Z h1 a1 "java/lang/String" "value" "[B" .null := D1 (Or.inr (W29 hw)) (ty := (.array .byte)) (by decide)
  have f4 : Fld Z h1 a1 "java/lang/String" "coder" "B" (.int 0) := D1 (Or.inr (W27 hw)) (ty := .byte) (by decide)
  have f5 : Fld Z h1 a1 "java/lang/String" "hash" "I" (.int 0) := D1 (Or.inl (W602 hw)) (ty := .int) (by decide)
  have f6 : Fld Z h1 a1 "java/lang/String" "hashIsZero" "Z" (.int 0) := D1 (Or.inl (wd hw 604 rfl)) (ty := .boolean) (by decide)
  have f7 := (ET.keep K1)
  refine C1.special (y := ⟨"java/lang/String", "<init>", "(Ljava/lang/StringBuilder;)V"⟩) (W := 1) rfl (wd hw 423 rfl) (wd hw 424 rfl) (wd hw 425 rfl) (W3 hw) (by decide) (rm_sisC l Z a0 EL G a1 b t kb cs h1 C1.old E1 f3 f4 f5 f6 zg1 f2 f7 h4) (fun _ => rfl) rfl (allS ⟨E1.lt, S1⟩ all0) (by decide) (by decide) (by decide) (by decide) (lenOf pd_51 rfl) rfl (nb rfl) rfl (Y25 3 rfl) (pc' := 8) rfl ?_
  intro vm8 T8 h8 v8 C8 A8 M8 q8
  obtain ⟨rfl, d8, kd8, K8, ge8, zg8, Z8, H8, I8⟩ := q8
  have KK9 := (kT (kT (kR h []) K1 all0) K8 (allS (Or.inr ge1) all0))
  exact C8.retA (t := (.object "java/lang/String")) rfl rfl rfl rfl (Y25 4 rfl) (by decide) (by decide) ⟨a1, d8, kd8, rfl, KK9, ge1, (lT K1.1 ge8), zg1, zg8, Z8, H8, I8⟩
theorem rm_fold (G : Glob Z a0 EL) (a t : Addr) (kb : ClassId) (x : Int32) (h : Heap) (O : Ext Z.heap h) (S : Str Z h a t kb [x]) (hx : own_low x) :
    Met l Z EL true ⟨"com/example/dique/dique/util/Identifiers", "fold", "(Ljava/lang/String;)Ljava/lang/String;"⟩ prog_91_method_2_code 3 (some (.object "java/lang/String")) [] ⟨5, 4, 13, 71⟩ #[(.ref a)] h [] (fun r h' => ∃ (a_ d : Addr) (kd : ClassId), r = some (.ref a_) ∧ Keep h h' [] ∧ h.size ≤ a_ ∧ h.size ≤ d ∧ Z.heap.size ≤ a_ ∧ Z.heap.size ≤ d ∧ Str Z h' a_ d kd [x] ∧ Fld Z h' a_ "java/lang/String" "hash" "I" (.int 0) ∧ Fld Z h' a_ "java/lang/String" "hashIsZero" "Z" (.int 0)) := by
  have hw := G.hw
  refine Met.of (plainFor_of_name pn_696669657273_5) G.ew O ?_
  intro p e s m below meth c T0 C0 S0
  refine Endw.eq (g' := mkF m 0 #[.val (.ref a), .unset, .unset] []) rfl ?_
  refine C0.new (wd hw 536 rfl) (W349 hw) (W350 hw) (Y46 0 rfl) (pc' := 3) rfl (by decide) (by decide) ?_
  intro T1 h1 a1 C1 K1 A1 ge1 zg1 E1 D1 S1
  refine C1.du (Y46 1 rfl) rfl (C1.aL (Y46 2 rfl) rfl rfl ?_)
  have f2 := (S.keep K1 nin0 nin0)
  have f4 := (S.1.keep K1)
  refine C1.virtual (W := 2) (wd hw 537 rfl) (W150 hw) (fun _ q => notFace_of_selects (args := #[]) (mvT q (W152 hw))) (W152 hw) (W151 hw) (W153 hw) (W3 hw) (by decide) (rm_strLen l Z a0 EL G a t kb [x] h1 C1.old f2) (fun _ => rfl) rfl f4 all0 (by decide) (by decide) (by decide) (by decide) (lenOf pd_282949 rfl) rfl (nb rfl) rfl (Y46 3 rfl) (pc' := 8) rfl ?_
  intro vm3 T3 h3 v3 C3 A3 M3 q3
  obtain ⟨rfl, rfl⟩ := q3
  show Endw p e below T3 (mkF m 8 #[.val (.ref a), .unset, .unset] [(.int 1), (.ref a1), (.ref a1)]) _
  have f5 : Fld Z h1 a1 "java/lang/AbstractStringBuilder" "value" "[B" .null := D1 (Or.inl (W363 hw)) (ty := (.array .byte)) (by decide)
  have f6 : Fld Z h1 a1 "java/lang/AbstractStringBuilder" "coder" "B" (.int 0) := D1 (Or.inl (W365 hw)) (ty := .byte) (by decide)
  have f7 : Fld Z h1 a1 "java/lang/AbstractStringBuilder" "count" "I" (.int 0) := D1 (Or.inl (W379 hw)) (ty := .int) (by decide)
  refine C3.special (y := ⟨"java/lang/StringBuilder", "<init>", "(I)V"⟩) (W := 1) rfl (wd hw 538 rfl) (wd hw 539 rfl) (wd hw 540 rfl) (W350 hw) (by decide) (rm_sbInit1 l Z a0 EL G a1 h1 C3.old E1 f5 f6 f7 zg1) (fun _ => rfl) rfl all0 (by decide) (by decide) (by decide) (by decide) (lenOf pd_28492956 rfl) rfl (nb rfl) rfl (Y46 4 rfl) (pc' := 11) rfl ?_
  intro vm8 T8 h8 v8 C8 A8 M8 q8
  obtain ⟨rfl, t8, kb8, K8, ge8, zg8, Z8, E8⟩ := q8
  refine C8.aS (Y46 5 rfl) rfl (l' := #[.val (.ref a), .val (.ref a1), .unset]) rfl (C8.ic (z := 0) (Y46 6 rfl) rfl (C8.iS (Y46 7 rfl) (l' := #[.val (.ref a), .val (.ref a1), .val (.int 0)]) rfl (C8.iL (Y46 8 rfl) rfl (C8.aL (Y46 9 rfl) rfl rfl ?_))))
  have ne9 : a ≠ a1 := (nL (lL S.1.lt ge1))
  have ne10 : t ≠ a1 := (nL (lL S.2.2.2.1.lt ge1))
  have f11 := (f2.keep K8 (ninS ne9 nin0) (ninS ne10 nin0))
  have f13 := (f4.keep K8)
  refine C8.virtual (W := 1) (wd hw 537 rfl) (W150 hw) (fun _ q => notFace_of_selects (args := #[]) (mvT q (W152 hw))) (W152 hw) (W151 hw) (W153 hw) (W3 hw) (by decide) (rm_strLen l Z a0 EL G a t kb [x] h8 C8.old f11) (fun _ => rfl) rfl f13 all0 (by decide) (by decide) (by decide) (by decide) (lenOf pd_282949 rfl) rfl (nb rfl) rfl (Y46 10 rfl) (pc' := 19) rfl ?_
  intro vm12 T12 h12 v12 C12 A12 M12 q12
  obtain ⟨rfl, rfl⟩ := q12
  show Endw p e below T12 (mkF m 19 #[.val (.ref a), .val (.ref a1), .val (.int 0)] [(.int 1), (.int 0)]) _
  refine C12.cN (Y46 11 rfl) (XT.ii_ge_f (by decide)) (C12.aL (Y46 12 rfl) rfl rfl (C12.aL (Y46 13 rfl) rfl rfl (C12.iL (Y46 14 rfl) rfl ?_)))
  refine C12.virtual (W := 1) (wd hw 541 rfl) (wd hw 542 rfl) (fun _ q => notFace_of_selects (args := #[]) (mvT q (wd hw 544 rfl))) (wd hw 544 rfl) (wd hw 543 rfl) (wd hw 545 rfl) (W3 hw) (by decide) (rm_chr l Z a0 EL G a t kb [x] 0 x h8 C12.old f11 (Nat.zero_lt_succ _) rfl) (fun _ => rfl) rfl f13 all0 (by decide) (by decide) (by decide) (by decide) (lenOf pd_28492943 rfl) rfl (nb rfl) rfl (Y46 15 rfl) (pc' := 28) rfl ?_
  intro vm14 T14 h14 v14 C14 A14 M14 q14
  obtain ⟨rfl, rfl⟩ := q14
  refine C14.static (W := 1) (wd hw 557 rfl) (wd hw 558 rfl) (wd hw 559 rfl) (W112 hw) (by decide) (rm_foldC l Z a0 EL G x h8 C14.old hx) (fun _ => rfl) rfl all0 (by decide) (by decide) (by decide) (by decide) (lenOf pd_28432943 rfl) rfl (nb rfl) rfl (Y46 16 rfl) (pc' := 31) rfl ?_
  intro vm15 T15 h15 v15 C15 A15 M15 q15
  obtain ⟨rfl, rfl⟩ := q15
  have f17 := (A15.safe Z8.2.2.2.1.lt (A14.safe Z8.2.2.2.1.lt (A12.safe Z8.2.2.2.1.lt (own_safe_new (M8 rfl) ge8))))
  refine C15.virtual (W := 0) (wd hw 560 rfl) (wd hw 561 rfl) (fun _ q => notFace_of_selects (args := #[]) (mvT q (wd hw 563 rfl))) (wd hw 563 rfl) (wd hw 562 rfl) (wd hw 564 rfl) (W350 hw) (by decide) (rm_sbAppC l Z a0 EL G a1 t8 kb8 [] 1 x h8 C15.old Z8 hx.1 (Nat.le_refl _) zg1 zg8) (fun _ => rfl) rfl Z8.1 (allS ⟨Z8.2.2.2.1.lt, f17⟩ all0) (by decide) (by decide) (by decide) (by decide) (lenOf pd_15 rfl) rfl (nb rfl) rfl (Y46 17 rfl) (pc' := 34) rfl ?_
  intro vm16 T16 h16 v16 C16 A16 M16 q16
  obtain ⟨rfl, K16, Z16⟩ := q16
  refine Endw.st (T' := T16) (g' := (mkF m 38 #[.val (.ref a), .val (.ref a1), .val (.int 1)] [])) (fun _ k_ => XS.pop C16.here C16.hx rfl (C16.dec (Y46 18 rfl)) rfl rfl (XS.iinc C16.here C16.hx rfl (C16.dec (Y46 19 rfl)) rfl (l' := #[.val (.ref a), .val (.ref a1), .val (.int 1)]) rfl k_)) ?_
  refine C16.go (pc' := 14) (Y46 20 rfl) (by decide) rfl (C16.iL (Y46 8 rfl) rfl (C16.aL (Y46 9 rfl) rfl rfl ?_))
  have ne18 : a ≠ t8 := (nL (lL (lL S.1.lt K1.1) ge8))
  have ne19 : t ≠ t8 := (nL (lL (lL S.2.2.2.1.lt K1.1) ge8))
  have f20 := (f11.keep K16 (ninS ne9 (ninS ne18 nin0)) (ninS ne10 (ninS ne19 nin0)))
  have f22 := (f13.keep K16)
  refine C16.virtual (W := 1) (wd hw 537 rfl) (W150 hw) (fun _ q => notFace_of_selects (args := #[]) (mvT q (W152 hw))) (W152 hw) (W151 hw) (W153 hw) (W3 hw) (by decide) (rm_strLen l Z a0 EL G a t kb [x] h16 C16.old f20) (fun _ => rfl) rfl f22 all0 (by decide) (by decide) (by decide) (by decide) (lenOf pd_282949 rfl) rfl (nb rfl) rfl (Y46 10 rfl) (pc' := 19) rfl ?_
  intro vm21 T21 h21 v21 C21 A21 M21 q21
  obtain ⟨rfl, rfl⟩ := q21
  show Endw p e below T21 (mkF m 19 #[.val (.ref a), .val (.ref a1), .val (.int 1)] [(.int 1), (.int 1)]) _
  refine C21.cY (pc' := 41) (Y46 11 rfl) (XT.ii_ge_t (by decide)) (by decide) rfl (C21.aL (Y46 21 rfl) rfl rfl ?_)
  have f23 := (E8.keep K16)
  refine C21.virtual (W := 0) (wd hw 573 rfl) (W418 hw) (fun _ q => notFace_of_selects (args := #[]) (mvT q (W420 hw))) (W420 hw) (W419 hw) (W421 hw) (W350 hw) (by decide) (rm_tosC l Z a0 EL G a1 t8 kb8 [x] h16 C21.old Z16 f23 (nb rfl)) (fun _ => rfl) rfl Z16.1 all0 (by decide) (by decide) (by decide) (by decide) (lenOf pd_5 rfl) rfl (nb rfl) rfl (Y46 22 rfl) (pc' := 45) rfl ?_
  intro vm24 T24 h24 v24 C24 A24 M24 q24
  obtain ⟨a24, d24, kd24, rfl, K24, ge24, gd24, zg24, zd24, Z24, H24, I24⟩ := q24
  have KK25 := (kT (kT (kT (kT (kR h []) K1 all0) K8 (allS (Or.inr ge1) all0)) K16 (allS (Or.inr ge1) (allS (Or.inr (lT K1.1 ge8)) all0))) K24 all0)
  exact C24.retA (t := (.object "java/lang/String")) rfl rfl rfl rfl (Y46 23 rfl) (by decide) (by decide) ⟨a24, d24, kd24, rfl, KK25, (lT (lT K1.1 (lT K8.1 K16.1)) ge24), (lT (lT K1.1 (lT K8.1 K16.1)) gd24), zg24, zd24, Z24, H24, I24⟩
theorem rm_lhash (G : Glob Z a0 EL) (t : Addr) (kb : ClassId) (x : Int32) (h : Heap) (O : Ext Z.heap h) (D : Arv Z h t kb .byte (Int32.ofNat [x].length) (bys [x]) (.int 0)) (hb : B8 x) :
    Met l Z EL true ⟨"java/lang/StringLatin1", "hashCode", "([B)I"⟩ jdk_43_method_21_code 1 (some .int) [] ⟨0, 0, 0, 0⟩ #[(.ref t)] h [] (fun r h' => r = some (.int x) ∧ h = h') := by
  refine Met.of (plainFor_of_name pn_4c6174696e31_13) G.ew O ?_
  intro p e s m below meth c T0 C0 S0
  refine Endw.eq (g' := mkF m 0 #[.val (.ref t)] []) rfl ?_
  refine C0.aL (Y47 0 rfl) rfl rfl ?_
  refine C0.len D (Y47 1 rfl) (pc' := 2) rfl ?_
  show Endw p e below T0 (mkF m 2 #[.val (.ref t)] [(.int 1)]) _
  refine C0.lswHit (b := 1) (off := 30) (Y47 2 rfl) (by decide) (by decide) (by decide) (pc' := 32) rfl ?_
  refine C0.aL (Y47 3 rfl) rfl rfl (C0.ic (z := 0) (Y47 4 rfl) rfl ?_)
  refine C0.baloadN (j := 0) D (Nat.zero_lt_succ _) (nb rfl) (v := (.int (own_lo x))) rfl (Y47 5 rfl) (pc' := 35) rfl ?_
  refine C0.si (z := 255) (Y47 6 rfl) rfl (C0.an (z := ((own_lo x) &&& (255 : Int32))) (Y47 7 rfl) rfl ?_)
  rw [show ((own_lo x) &&& (255 : Int32)) = x from own_chr8 hb]
  refine C0.go (pc' := 51) (Y47 8 rfl) (by decide) rfl ?_
  exact C0.retI (t := .int) rfl (by simp) rfl (Y47 9 rfl) (by decide) (by decide) ⟨rfl, rfl⟩
theorem rm_shash (G : Glob Z a0 EL) (a t : Addr) (kb : ClassId) (x : Int32) (h : Heap) (O : Ext Z.heap h) (S : Str Z h a t kb [x]) (H0 : Fld Z h a "java/lang/String" "hash" "I" (.int 0)) (H1 : Fld Z h a "java/lang/String" "hashIsZero" "Z" (.int 0)) (hx : own_low x) (za : Z.heap.size ≤ a) :
    Met l Z EL true ⟨"java/lang/String", "hashCode", "()I"⟩ jdk_42_method_78_code 2 (some .int) [] ⟨1, 0, 0, 12⟩ #[(.ref a)] h [a] (fun r h' => r = some (.int x) ∧ Keep h h' [a] ∧ Str Z h' a t kb [x] ∧ Fld Z h' a "java/lang/String" "hash" "I" (.int x) ∧ Fld Z h' a "java/lang/String" "hashIsZero" "Z" (.int 0)) := by
  have hw := G.hw
  refine Met.of (plainFor_of_name pn_537472696e67_11) G.ew O ?_
  intro p e s m below meth c T0 C0 S0
  refine Endw.eq (g' := mkF m 0 #[.val (.ref a), .unset] []) rfl ?_
  refine C0.aL (Y48 0 rfl) rfl rfl ?_
  refine C0.getF (wd hw 601 rfl) H0 (Y48 1 rfl) (pc' := 4) rfl ?_
  intro T1 C1
  refine C1.iS (Y48 2 rfl) (l' := #[.val (.ref a), .val (.int 0)]) rfl (C1.iL (Y48 3 rfl) rfl (C1.fN (Y48 4 rfl) (XT.i0_ne_f (by decide)) (C1.aL (Y48 5 rfl) rfl rfl ?_)))
  refine C1.getF (wd hw 603 rfl) H1 (Y48 6 rfl) (pc' := 13) rfl ?_
  intro T2 C2
  refine C2.fN (Y48 7 rfl) (XT.i0_ne_f (by decide)) (C2.aL (Y48 8 rfl) rfl rfl ?_)
  refine C2.virtual (W := 0) (wd hw 124 rfl) (wd hw 125 rfl) (fun _ q => notFace_of_selects (args := #[]) (mvT q (W127 hw))) (W127 hw) (wd hw 126 rfl) (wd hw 128 rfl) (W3 hw) (by decide) (rm_isLatin1 l Z a0 EL G a h C2.old S.2.1) (fun _ => rfl) rfl S.1 all0 (by decide) (by decide) (by decide) (by decide) (lenOf pd_28295a rfl) rfl (nb rfl) rfl (Y48 9 rfl) (pc' := 20) rfl ?_
  intro vm3 T3 h3 v3 C3 A3 M3 q3
  obtain ⟨rfl, rfl⟩ := q3
  refine C3.fN (Y48 10 rfl) (XT.i0_eq_f (by decide)) (C3.aL (Y48 11 rfl) rfl rfl ?_)
  refine C3.getF (W28 hw) S.2.2.1 (Y48 12 rfl) (pc' := 27) rfl ?_
  intro T4 C4
  refine C4.static (W := 0) (wd hw 605 rfl) (wd hw 606 rfl) (wd hw 607 rfl) (W131 hw) (by decide) (rm_lhash l Z a0 EL G t kb x h C4.old S.2.2.2.1 hx.1) (fun _ => rfl) rfl all0 (by decide) (by decide) (by decide) (by decide) (lenOf pd_285b422949 rfl) rfl (nb rfl) rfl (Y48 13 rfl) (pc' := 30) rfl ?_
  intro vm5 T5 h5 v5 C5 A5 M5 q5
  obtain ⟨rfl, rfl⟩ := q5
  refine C5.go (pc' := 40) (Y48 14 rfl) (by decide) rfl (C5.iS (Y48 15 rfl) (l' := #[.val (.ref a), .val (.int x)]) rfl (C5.iL (Y48 16 rfl) rfl (C5.fY (pc' := 53) (Y48 17 rfl) (XT.i0_ne_t (own_low0 hx)) (by decide) rfl (C5.aL (Y48 18 rfl) rfl rfl (C5.iL (Y48 19 rfl) rfl ?_)))))
  have f7 := (A5.safe S.1.lt (A3.safe S.1.lt (S0 a (by simp))))
  refine C5.putF (v := (.int x)) (wd hw 601 rfl) H0 S.1 (Or.inl (W602 hw)) (W2 hw) (ty := .int) (by decide) rfl rfl za f7 (Y48 20 rfl) (pc' := 58) rfl ?_
  intro T6 h6 C6 K6 A6 Wr6
  have f8 := H0.same Wr6
  have f9 := S.2.1.other Wr6 (Or.inr (slot_ne (Or.inr (W27 hw)) (Or.inl (W602 hw)) (by decide) (t := .byte) (t' := .int) (by decide) (by decide)))
  have f10 := S.2.2.1.other Wr6 (Or.inr (slot_ne (Or.inr (W29 hw)) (Or.inl (W602 hw)) (by decide) (t := (.array .byte)) (t' := .int) (by decide) (by decide)))
  have f11 := H1.other Wr6 (Or.inr (slot_ne (Or.inl (wd hw 604 rfl)) (Or.inl (W602 hw)) (by decide) (t := .boolean) (t' := .int) (by decide) (by decide)))
  refine C6.iL (Y48 21 rfl) rfl ?_
  have f12 := (S.1.keep K6)
  have ne13 : t ≠ a := (Ne.symm (RoadKit.Exa.neArv S.1 S.2.2.2.1 (W2 hw)))
  have f14 := (S.2.2.2.1.keep K6 (ninS ne13 nin0))
  exact C6.retI (t := .int) rfl (by simp) rfl (Y48 22 rfl) (by decide) (by decide) ⟨rfl, K6, ⟨f12, f9, f10, f14, S.2.2.2.2.1, S.2.2.2.2.2⟩, f8, f11⟩
theorem rm_hash (G : Glob Z a0 EL) (a t : Addr) (kb : ClassId) (x : Int32) (h : Heap) (O : Ext Z.heap h) (S : Str Z h a t kb [x]) (H0 : Fld Z h a "java/lang/String" "hash" "I" (.int 0)) (H1 : Fld Z h a "java/lang/String" "hashIsZero" "Z" (.int 0)) (hx : own_low x) (za : Z.heap.size ≤ a) (hh : (x ^^^ ((x.toUInt32 >>> ((16 : Int32) &&& 31).toUInt32).toInt32)) = x) :
    Met l Z EL true ⟨"java/util/HashMap", "hash", "(Ljava/lang/Object;)I"⟩ jdk_69_method_1_code 2 (some .int) [] ⟨2, 0, 0, 25⟩ #[(.ref a)] h [a] (fun r h' => r = some (.int x) ∧ Keep h h' [a] ∧ Str Z h' a t kb [x] ∧ Fld Z h' a "java/lang/String" "hash" "I" (.int x) ∧ Fld Z h' a "java/lang/String" "hashIsZero" "Z" (.int 0)) := by
  have hw := G.hw
  refine Met.of (plainFor_of_name pn_6173684d6170_20) G.ew O ?_
  intro p e s m below meth c T0 C0 S0
  refine Endw.eq (g' := mkF m 0 #[.val (.ref a), .unset] []) rfl ?_
  refine C0.aL (Y49 0 rfl) rfl rfl ?_
  refine Endw.st (T' := T0) (g' := (mkF m 8 #[.val (.ref a), .unset] [])) (fun _ k_ => XS.ifnonnullYes C0.here C0.hx rfl (pc0 := 1) rfl (C0.dec (Y49 1 rfl)) rfl (by decide) rfl k_) ?_
  refine C0.aL (Y49 2 rfl) rfl rfl ?_
  refine C0.virtual (W := 0) (wd hw 595 rfl) (wd hw 596 rfl) (fun _ q => own_nf (own_plain (y := ⟨"java/lang/Object", "getClass", "()Ljava/lang/Class;"⟩) (a0 := #[]) (mvT q (wd hw 237 rfl)) (mvT q (wd hw 236 rfl)))) (wd hw 598 rfl) (wd hw 599 rfl) (wd hw 600 rfl) (W3 hw) (by decide) (rm_shash l Z a0 EL G a t kb x h C0.old S H0 H1 hx za) (fun _ => rfl) rfl S.1 (allS ⟨S.1.lt, (S0 a (by simp))⟩ all0) (by decide) (by decide) (by decide) (by decide) (lenOf pd_282949 rfl) rfl (nb rfl) rfl (Y49 3 rfl) (pc' := 12) rfl ?_
  intro vm1 T1 h1 v1 C1 A1 M1 q1
  obtain ⟨rfl, K1, Z1, H1, I1⟩ := q1
  refine C1.du (Y49 4 rfl) rfl (C1.iS (Y49 5 rfl) (l' := #[.val (.ref a), .val (.int x)]) rfl (C1.iL (Y49 6 rfl) rfl (C1.bi (z := 16) (Y49 7 rfl) rfl ?_)))
  refine Endw.st (T' := T1) (g' := (mkF m 19 #[.val (.ref a), .val (.int x)] [(.int (x ^^^ ((x.toUInt32 >>> ((16 : Int32) &&& 31).toUInt32).toInt32)))])) (fun _ k_ => XS.iushr C1.here C1.hx rfl (C1.dec (Y49 8 rfl)) rfl (XS.ixor C1.here C1.hx rfl (C1.dec (Y49 9 rfl)) rfl k_)) ?_
  rw [show (x ^^^ ((x.toUInt32 >>> ((16 : Int32) &&& 31).toUInt32).toInt32)) = x from hh]
  exact C1.retI (t := .int) rfl (by simp) rfl (Y49 10 rfl) (by decide) (by decide) ⟨rfl, K1, ⟨Z1.1, Z1.2.1, Z1.2.2.1, Z1.2.2.2.1, S.2.2.2.2.1, S.2.2.2.2.2⟩, H1, I1⟩
theorem rm_au2_init (G : Glob Z a0 EL) (p0 : Addr) (h : Heap) (O : Ext Z.heap h)  :
    Met l Z EL true ⟨"java/util/AbstractCollection", "<init>", "()V"⟩ jdk_22_method_1_code 1 none [] ⟨1, 0, 0, 12⟩ #[(.ref p0)] h [] (fun r h' => r = none ∧ h = h') := by
  have hw := G.hw
  refine Met.of (plainFor_of_name pn_656374696f6e_15) G.ew O ?_
  intro p e s m below meth c T0 C0 S0
  refine Endw.eq (g' := mkF m 0 #[.val (.ref p0)] []) rfl ?_
  refine C0.aL (Y53 0 rfl) rfl rfl ?_
  refine C0.initO (wd hw 52 rfl) (W12 hw) (W13 hw) rfl (Y53 1 rfl) (pc' := 4) rfl (by decide) (W := 0) (nb rfl) (by decide) ?_
  intro T1 C1
  exact C1.retV (Y53 2 rfl) (by decide) (by decide) ⟨rfl, rfl⟩
theorem rm_au1_init (G : Glob Z a0 EL) (p0 : Addr) (h : Heap) (O : Ext Z.heap h) (e_0 : Exa Z h p0 "java/util/ArrayList") (f_0_0 : Fld Z h p0 "java/util/AbstractList" "modCount" "I" (.int 0)) (f_0_1 : Fld Z h p0 "java/util/ArrayList" "elementData" "[Ljava/lang/Object;" .null) (f_0_2 : Fld Z h p0 "java/util/ArrayList" "size" "I" (.int 0)) (z_0 : Z.heap.size ≤ p0) :
    Met l Z EL true ⟨"java/util/AbstractList", "<init>", "()V"⟩ jdk_39_method_1_code 1 none [] ⟨2, 0, 0, 24⟩ #[(.ref p0)] h [] (fun r h' => r = none ∧ Keep h h' [p0] ∧ Exa Z h' p0 "java/util/ArrayList" ∧ Fld Z h' p0 "java/util/AbstractList" "modCount" "I" (.int 0) ∧ Fld Z h' p0 "java/util/ArrayList" "elementData" "[Ljava/lang/Object;" .null ∧ Fld Z h' p0 "java/util/ArrayList" "size" "I" (.int 0)) := by
  have hw := G.hw
  refine Met.of (plainFor_of_name pn_63744c697374_16) G.ew O ?_
  intro p e s m below meth c T0 C0 S0
  refine Endw.eq (g' := mkF m 0 #[.val (.ref p0)] []) rfl ?_
  refine C0.aL (Y52 0 rfl) rfl rfl ?_
  refine C0.special (y := ⟨"java/util/AbstractCollection", "<init>", "()V"⟩) (W := 0) rfl (wd hw 46 rfl) (wd hw 47 rfl) (wd hw 51 rfl) (wd hw 50 rfl) (by decide) (rm_au2_init l Z a0 EL G p0 h C0.old ) (fun _ => rfl) rfl all0 (by decide) (by decide) (by decide) (by decide) (lenOf pd_282956 rfl) rfl (nb rfl) rfl (Y52 1 rfl) (pc' := 4) rfl ?_
  intro vm1 T1 h1 v1 C1 A1 M1 q1
  obtain ⟨rfl, rfl⟩ := q1
  refine C1.aL (Y52 2 rfl) rfl rfl (C1.ic (z := 0) (Y52 3 rfl) rfl ?_)
  refine C1.putF (v := (.int 0)) (wd hw 53 rfl) f_0_0 e_0 (Or.inl (W54 hw)) (W35 hw) (ty := .int) (by decide) rfl rfl z_0 (Safe.exa C1.warm.alike e_0 (by decide) (by decide)) (Y52 4 rfl) (pc' := 9) rfl ?_
  intro T2 h2 C2 K2 A2 Wr2
  have f3 := f_0_0.same Wr2
  have f4 := f_0_1.other Wr2 (Or.inr (slot_ne (Or.inl (W57 hw)) (Or.inl (W54 hw)) (by decide) (t := (.array (.object "java/lang/Object"))) (t' := .int) (by decide) (by decide)))
  have f5 := f_0_2.other Wr2 (Or.inr (slot_ne (Or.inl (W69 hw)) (Or.inl (W54 hw)) (by decide) (t := .int) (t' := .int) (by decide) (by decide)))
  have f6 := (e_0.keep K2)
  exact C2.retV (Y52 5 rfl) (by decide) (by decide) ⟨rfl, K2, f6, f3, f4, f5⟩
theorem rm_au0_init (G : Glob Z a0 EL) (p0 : Addr) (h : Heap) (O : Ext Z.heap h) (e_0 : Exa Z h p0 "java/util/ArrayList") (f_0_0 : Fld Z h p0 "java/util/AbstractList" "modCount" "I" (.int 0)) (f_0_1 : Fld Z h p0 "java/util/ArrayList" "elementData" "[Ljava/lang/Object;" .null) (f_0_2 : Fld Z h p0 "java/util/ArrayList" "size" "I" (.int 0)) (z_0 : Z.heap.size ≤ p0) :
    Met l Z EL true ⟨"java/util/ArrayList", "<init>", "()V"⟩ jdk_38_method_2_code 1 none [] ⟨3, 0, 0, 36⟩ #[(.ref p0)] h [] (fun r h' => r = none ∧ Keep h h' [p0] ∧ Exa Z h' p0 "java/util/ArrayList" ∧ Fld Z h' p0 "java/util/AbstractList" "modCount" "I" (.int 0) ∧ Fld Z h' p0 "java/util/ArrayList" "elementData" "[Ljava/lang/Object;" (.ref (sDE Z)) ∧ Fld Z h' p0 "java/util/ArrayList" "size" "I" (.int 0)) := by
  have hw := G.hw
  refine Met.of (plainFor_of_name pn_61794c697374_18) G.ew O ?_
  intro p e s m below meth c T0 C0 S0
  refine Endw.eq (g' := mkF m 0 #[.val (.ref p0)] []) rfl ?_
  refine C0.aL (Y51 0 rfl) rfl rfl ?_
  refine C0.special (y := ⟨"java/util/AbstractList", "<init>", "()V"⟩) (W := 0) rfl (wd hw 40 rfl) (wd hw 41 rfl) (wd hw 45 rfl) (wd hw 44 rfl) (by decide) (rm_au1_init l Z a0 EL G p0 h C0.old e_0 f_0_0 f_0_1 f_0_2 z_0) (fun _ => rfl) rfl all0 (by decide) (by decide) (by decide) (by decide) (lenOf pd_282956 rfl) rfl (nb rfl) rfl (Y51 1 rfl) (pc' := 4) rfl ?_
  intro vm1 T1 h1 v1 C1 A1 M1 q1
  obtain ⟨rfl, K1, E1_0, F1_0_0, F1_0_1, F1_0_2⟩ := q1
  refine C1.aL (Y51 2 rfl) rfl rfl ?_
  refine C1.getS (wd hw 55 rfl) G.s1 (Y51 3 rfl) (pc' := 8) rfl ?_
  intro T4 C4
  refine C4.putF (v := (.ref (sDE Z))) (W56 hw) F1_0_1 E1_0 (Or.inl (W57 hw)) (W35 hw) (ty := (.array (.object "java/lang/Object"))) (by decide) rfl rfl z_0 (Safe.exa C4.warm.alike E1_0 (by decide) (by decide)) (Y51 4 rfl) (pc' := 11) rfl ?_
  intro T5 h5 C5 K5 A5 Wr5
  have f6 := F1_0_1.same Wr5
  have f7 := F1_0_0.other Wr5 (Or.inr (slot_ne (Or.inl (W54 hw)) (Or.inl (W57 hw)) (by decide) (t := .int) (t' := (.array (.object "java/lang/Object"))) (by decide) (by decide)))
  have f8 := F1_0_2.other Wr5 (Or.inr (slot_ne (Or.inl (W69 hw)) (Or.inl (W57 hw)) (by decide) (t := .int) (t' := (.array (.object "java/lang/Object"))) (by decide) (by decide)))
  have f9 := (E1_0.keep K5)
  have KK10 := (kT (kT (kR h [p0]) K1 (allS m0 all0)) K5 (allS m0 all0))
  exact C5.retV (Y51 5 rfl) (by decide) (by decide) ⟨rfl, KK10, f9, f7, f6, f8⟩
theorem rm_au6_grow (G : Glob Z a0 EL) (p0 : Addr) (h : Heap) (O : Ext Z.heap h) (e_0 : Exa Z h p0 "java/util/ArrayList") (f_0_0 : Fld Z h p0 "java/util/AbstractList" "modCount" "I" (.int 1)) (f_0_1 : Fld Z h p0 "java/util/ArrayList" "elementData" "[Ljava/lang/Object;" (.ref (sDE Z))) (f_0_2 : Fld Z h p0 "java/util/ArrayList" "size" "I" (.int 0)) (z_0 : Z.heap.size ≤ p0) :
    Met l Z EL true ⟨"java/util/ArrayList", "grow", "(I)[Ljava/lang/Object;"⟩ jdk_38_method_6_code 4 (some (.array (.object "java/lang/Object"))) [] ⟨1, 1, 10, 14⟩ #[(.ref p0), (.int 1)] h [] (fun r h' => ∃ (q0 : Addr) (kq0 : ClassId), r = some (.ref q0) ∧ Keep h h' [p0] ∧ h.size ≤ q0 ∧ Z.heap.size ≤ q0 ∧ Exa Z h' p0 "java/util/ArrayList" ∧ Fld Z h' p0 "java/util/AbstractList" "modCount" "I" (.int 1) ∧ Fld Z h' p0 "java/util/ArrayList" "elementData" "[Ljava/lang/Object;" (.ref q0) ∧ Fld Z h' p0 "java/util/ArrayList" "size" "I" (.int 0) ∧ Exa Z h' q0 "[Ljava/lang/Object;" ∧ Arv Z h' q0 kq0 (.object "java/lang/Object") (10 : Int32) [.null, .null, .null, .null, .null, .null, .null, .null, .null, .null] .null ∧ Ovr Z kq0 "java/lang/Object") := by
  have hw := G.hw
  refine Met.of (plainFor_of_name pn_61794c697374_18) G.ew O ?_
  intro p e s m below meth c T0 C0 S0
  refine Endw.eq (g' := mkF m 0 #[.val (.ref p0), .val (.int 1), .unset, .unset] []) rfl ?_
  refine C0.aL (Y57 0 rfl) rfl rfl ?_
  refine C0.getF (W56 hw) f_0_1 (Y57 1 rfl) (pc' := 4) rfl ?_
  intro T1 C1
  have f3 := (G.t2.ext C1.old)
  refine C1.len f3 (Y57 2 rfl) (pc' := 5) rfl ?_
  show Endw p e below T1 (mkF m 5 #[.val (.ref p0), .val (.int 1), .unset, .unset] [(.int 0)]) _
  refine C1.iS (Y57 3 rfl) (l' := #[.val (.ref p0), .val (.int 1), .val (.int 0), .unset]) rfl (C1.iL (Y57 4 rfl) rfl (C1.fN (Y57 5 rfl) (XT.i0_gt_f (by decide)) (C1.aL (Y57 6 rfl) rfl rfl ?_)))
  refine C1.getF (W56 hw) f_0_1 (Y57 7 rfl) (pc' := 14) rfl ?_
  intro T4 C4
  refine C4.getS (wd hw 55 rfl) G.s1 (Y57 8 rfl) (pc' := 17) rfl ?_
  intro T5 C5
  refine Endw.st (T' := T5) (g' := (mkF m 45 #[.val (.ref p0), .val (.int 1), .val (.int 0), .unset] [])) (fun _ k_ => XT.acmpYes C5.here C5.hx rfl (pc0 := 17) rfl (C5.dec (Y57 9 rfl)) rfl rfl rfl (XT.aa_eq_t rfl) (by decide) rfl k_) ?_
  refine C5.aL (Y57 10 rfl) rfl rfl (C5.bi (z := 10) (Y57 11 rfl) rfl (C5.iL (Y57 12 rfl) rfl ?_))
  refine C5.static (W := 1) (wd hw 85 rfl) (wd hw 86 rfl) (wd hw 88 rfl) (W87 hw) (by decide) (rm_max l Z a0 EL G (10 : Int32) (1 : Int32) h C5.old) (fun _ => rfl) rfl all0 (by decide) (by decide) (by decide) (by decide) (lenOf pd_2849492949 rfl) rfl (nb rfl) rfl (Y57 13 rfl) (pc' := 52) rfl ?_
  intro vm6 T6 h6 v6 C6 A6 M6 q6
  rw [(show (if (10 : Int32) < (1 : Int32) then (1 : Int32) else (10 : Int32)) = (10 : Int32) from by decide)] at q6
  obtain ⟨rfl, rfl⟩ := q6
  refine C6.newR (K := "java/lang/Object") (ad := "[Ljava/lang/Object;") (z := (10 : Int32)) (cap := 10) (vs := [.null, .null, .null, .null, .null, .null, .null, .null, .null, .null]) (by decide +kernel) (wd hw 89 rfl) (wd hw 90 rfl) (Y57 14 rfl) (pc' := 55) rfl (by decide) (by decide) (by decide) (by decide) (by decide) rfl ?_
  intro T7 h7 a7 kA7 C7 K7 A7 ge7 zg7 V7 S7 E7 O7
  refine Endw.st (T' := T7) (g' := (mkF m 56 #[.val (.ref p0), .val (.int 1), .val (.int 0), .unset] [(.ref a7), (.ref p0), (.ref a7)])) (fun _ k_ => XS.dupX1 C7.here C7.hx rfl (C7.dec (Y57 15 rfl)) rfl rfl rfl k_) ?_
  have f8 := (e_0.keep K7)
  have f9 := (f_0_1.keep K7 nin0)
  have f11 := (f_0_0.keep K7 nin0)
  have f12 := (f_0_2.keep K7 nin0)
  refine C7.putF (v := (.ref a7)) (W56 hw) f9 f8 (Or.inl (W57 hw)) (W35 hw) (ty := (.array (.object "java/lang/Object"))) (by decide) rfl rfl z_0 (Safe.exa C7.warm.alike f8 (by decide) (by decide)) (Y57 16 rfl) (pc' := 59) rfl ?_
  intro T10 h10 C10 K10 A10 Wr10
  have f13 := f9.same Wr10
  have f14 := f11.other Wr10 (Or.inr (slot_ne (Or.inl (W54 hw)) (Or.inl (W57 hw)) (by decide) (t := .int) (t' := (.array (.object "java/lang/Object"))) (by decide) (by decide)))
  have f15 := f12.other Wr10 (Or.inr (slot_ne (Or.inl (W69 hw)) (Or.inl (W57 hw)) (by decide) (t := .int) (t' := (.array (.object "java/lang/Object"))) (by decide) (by decide)))
  have f16 := (E7.keep K10)
  have ne17 : a7 ≠ p0 := (Ne.symm (nL (lL e_0.lt ge7)))
  have f18 := (V7.keep K10 (ninS ne17 nin0))
  have f19 := (f8.keep K10)
  have KK20 := (kT (kT (kR h [p0]) K7 all0) K10 (allS m0 all0))
  exact C10.retA (t := (.array (.object "java/lang/Object"))) rfl rfl rfl rfl (Y57 17 rfl) (by decide) (by decide) ⟨a7, kA7, rfl, KK20, ge7, zg7, f19, f14, f13, f15, f16, f18, O7⟩
theorem rm_au5_grow (G : Glob Z a0 EL) (p0 : Addr) (h : Heap) (O : Ext Z.heap h) (e_0 : Exa Z h p0 "java/util/ArrayList") (f_0_0 : Fld Z h p0 "java/util/AbstractList" "modCount" "I" (.int 1)) (f_0_1 : Fld Z h p0 "java/util/ArrayList" "elementData" "[Ljava/lang/Object;" (.ref (sDE Z))) (f_0_2 : Fld Z h p0 "java/util/ArrayList" "size" "I" (.int 0)) (z_0 : Z.heap.size ≤ p0) :
    Met l Z EL true ⟨"java/util/ArrayList", "grow", "()[Ljava/lang/Object;"⟩ jdk_38_method_7_code 1 (some (.array (.object "java/lang/Object"))) [] ⟨2, 1, 10, 29⟩ #[(.ref p0)] h [] (fun r h' => ∃ (q0 : Addr) (kq0 : ClassId), r = some (.ref q0) ∧ Keep h h' [p0] ∧ h.size ≤ q0 ∧ Z.heap.size ≤ q0 ∧ Exa Z h' p0 "java/util/ArrayList" ∧ Fld Z h' p0 "java/util/AbstractList" "modCount" "I" (.int 1) ∧ Fld Z h' p0 "java/util/ArrayList" "elementData" "[Ljava/lang/Object;" (.ref q0) ∧ Fld Z h' p0 "java/util/ArrayList" "size" "I" (.int 0) ∧ Exa Z h' q0 "[Ljava/lang/Object;" ∧ Arv Z h' q0 kq0 (.object "java/lang/Object") (10 : Int32) [.null, .null, .null, .null, .null, .null, .null, .null, .null, .null] .null ∧ Ovr Z kq0 "java/lang/Object") := by
  have hw := G.hw
  refine Met.of (plainFor_of_name pn_61794c697374_18) G.ew O ?_
  intro p e s m below meth c T0 C0 S0
  refine Endw.eq (g' := mkF m 0 #[.val (.ref p0)] []) rfl ?_
  refine C0.aL (Y56 0 rfl) rfl rfl (C0.aL (Y56 1 rfl) rfl rfl ?_)
  refine C0.getF (W68 hw) f_0_2 (Y56 2 rfl) (pc' := 5) rfl ?_
  intro T1 C1
  refine C1.ic (z := 1) (Y56 3 rfl) rfl (C1.ad (z := 1) (Y56 4 rfl) rfl ?_)
  refine C1.priv (W := 0) (wd hw 80 rfl) (wd hw 81 rfl) (own_plain (y := ⟨"java/util/ArrayList", "add", "(Ljava/lang/Object;)Z"⟩) (W64 hw) (W63 hw)) (wd hw 82 rfl) (wd hw 84 rfl) (W36 hw) (by decide) (rm_au6_grow l Z a0 EL G p0 h C1.old e_0 f_0_0 f_0_1 f_0_2 z_0) (fun _ => rfl) rfl e_0 all0 (by decide) (by decide) (by decide) (by decide) (lenOf pd_22 rfl) rfl (nb rfl) rfl (Y56 5 rfl) (pc' := 10) rfl ?_
  intro vm2 T2 h2 v2 C2 A2 M2 q2
  obtain ⟨q0_2, kq0_2, rfl, K2, ge_q0_2, zg_q0_2, E2_0, F2_0_0, F2_0_1, F2_0_2, E2_1, V2_1, O2_1⟩ := q2
  exact C2.retA (t := (.array (.object "java/lang/Object"))) rfl rfl rfl rfl (Y56 6 rfl) (by decide) (by decide) ⟨q0_2, kq0_2, rfl, K2, ge_q0_2, zg_q0_2, E2_0, F2_0_0, F2_0_1, F2_0_2, E2_1, V2_1, O2_1⟩
theorem rm_au4_add (G : Glob Z a0 EL) (p0 p1 : Addr) (h : Heap) (O : Ext Z.heap h) (e_0 : Exa Z h p0 "java/util/ArrayList") (f_0_0 : Fld Z h p0 "java/util/AbstractList" "modCount" "I" (.int 1)) (f_0_1 : Fld Z h p0 "java/util/ArrayList" "elementData" "[Ljava/lang/Object;" (.ref (sDE Z))) (f_0_2 : Fld Z h p0 "java/util/ArrayList" "size" "I" (.int 0)) (z_0 : Z.heap.size ≤ p0) (e_1 : Exa Z h p1 "java/lang/String") :
    Met l Z EL true ⟨"java/util/ArrayList", "add", "(Ljava/lang/Object;[Ljava/lang/Object;I)V"⟩ jdk_38_method_24_code 4 none [] ⟨3, 1, 10, 41⟩ #[(.ref p0), (.ref p1), (.ref (sDE Z)), (.int 0)] h [] (fun r h' => ∃ (q0 : Addr) (kq0 : ClassId), r = none ∧ Keep h h' [p0] ∧ h.size ≤ q0 ∧ Z.heap.size ≤ q0 ∧ Exa Z h' p0 "java/util/ArrayList" ∧ Fld Z h' p0 "java/util/AbstractList" "modCount" "I" (.int 1) ∧ Fld Z h' p0 "java/util/ArrayList" "elementData" "[Ljava/lang/Object;" (.ref q0) ∧ Fld Z h' p0 "java/util/ArrayList" "size" "I" (.int 1) ∧ Exa Z h' q0 "[Ljava/lang/Object;" ∧ Arv Z h' q0 kq0 (.object "java/lang/Object") (10 : Int32) [(.ref p1), .null, .null, .null, .null, .null, .null, .null, .null, .null] .null ∧ Ovr Z kq0 "java/lang/Object") := by
  have hw := G.hw
  refine Met.of (plainFor_of_name pn_61794c697374_18) G.ew O ?_
  intro p e s m below meth c T0 C0 S0
  refine Endw.eq (g' := mkF m 0 #[.val (.ref p0), .val (.ref p1), .val (.ref (sDE Z)), .val (.int 0)] []) rfl ?_
  refine C0.iL (Y55 0 rfl) rfl (C0.aL (Y55 1 rfl) rfl rfl ?_)
  have f2 := (G.t2.ext C0.old)
  refine C0.len f2 (Y55 2 rfl) (pc' := 3) rfl ?_
  show Endw p e below T0 (mkF m 3 #[.val (.ref p0), .val (.ref p1), .val (.ref (sDE Z)), .val (.int 0)] [(.int 0), (.int 0)]) _
  refine C0.cN (Y55 3 rfl) (XT.ii_ne_f (by decide)) (C0.aL (Y55 4 rfl) rfl rfl ?_)
  refine C0.priv (W := 0) (wd hw 75 rfl) (wd hw 76 rfl) (own_plain (y := ⟨"java/util/ArrayList", "add", "(Ljava/lang/Object;)Z"⟩) (W64 hw) (W63 hw)) (wd hw 77 rfl) (wd hw 79 rfl) (W36 hw) (by decide) (rm_au5_grow l Z a0 EL G p0 h C0.old e_0 f_0_0 f_0_1 f_0_2 z_0) (fun _ => rfl) rfl e_0 all0 (by decide) (by decide) (by decide) (by decide) (lenOf pd_11 rfl) rfl (nb rfl) rfl (Y55 5 rfl) (pc' := 10) rfl ?_
  intro vm3 T3 h3 v3 C3 A3 M3 q3
  obtain ⟨q0_3, kq0_3, rfl, K3, ge_q0_3, zg_q0_3, E3_0, F3_0_0, F3_0_1, F3_0_2, E3_1, V3_1, O3_1⟩ := q3
  refine C3.aS (Y55 6 rfl) rfl (l' := #[.val (.ref p0), .val (.ref p1), .val (.ref q0_3), .val (.int 0)]) rfl (C3.aL (Y55 7 rfl) rfl rfl (C3.iL (Y55 8 rfl) rfl (C3.aL (Y55 9 rfl) rfl rfl ?_)))
  have f5 := (e_1.keep K3)
  refine C3.aastore V3_1 O3_1 (Ins.of_exa f5 (wd hw 91 rfl)) ⟨by decide, by decide⟩ 0 (by decide) (nb rfl) zg_q0_3 (vs' := [(.ref p1), .null, .null, .null, .null, .null, .null, .null, .null, .null]) rfl (Y55 10 rfl) (pc' := 15) rfl ?_
  intro T4 h4 C4 K4 A4 V4
  refine C4.aL (Y55 11 rfl) rfl rfl (C4.iL (Y55 12 rfl) rfl (C4.ic (z := 1) (Y55 13 rfl) rfl (C4.ad (z := 1) (Y55 14 rfl) rfl ?_)))
  have f6 := (E3_0.keep K4)
  have ne7 : p0 ≠ q0_3 := (nL (lL e_0.lt ge_q0_3))
  have f8 := (F3_0_2.keep K4 (ninS ne7 nin0))
  have f10 := (F3_0_0.keep K4 (ninS ne7 nin0))
  have f11 := (F3_0_1.keep K4 (ninS ne7 nin0))
  refine C4.putF (v := (.int 1)) (W68 hw) f8 f6 (Or.inl (W69 hw)) (W35 hw) (ty := .int) (by decide) rfl rfl z_0 (Safe.exa C4.warm.alike f6 (by decide) (by decide)) (Y55 15 rfl) (pc' := 22) rfl ?_
  intro T9 h9 C9 K9 A9 Wr9
  have f12 := f8.same Wr9
  have f13 := f10.other Wr9 (Or.inr (slot_ne (Or.inl (W54 hw)) (Or.inl (W69 hw)) (by decide) (t := .int) (t' := .int) (by decide) (by decide)))
  have f14 := f11.other Wr9 (Or.inr (slot_ne (Or.inl (W57 hw)) (Or.inl (W69 hw)) (by decide) (t := (.array (.object "java/lang/Object"))) (t' := .int) (by decide) (by decide)))
  have f15 := (f6.keep K9)
  have KK16 := (kT (kT (kR h3 [q0_3, p0]) K4 (allS m0 all0)) K9 (allS m1 all0))
  have f17 := (E3_1.keep KK16)
  have f18 := (V4.keep K9 (ninS (Ne.symm ne7) nin0))
  have KK20 := (kT (kT (kT (kR h [p0]) K3 (allS m0 all0)) K4 (allS (Or.inr ge_q0_3) all0)) K9 (allS m0 all0))
  exact C9.retV (Y55 16 rfl) (by decide) (by decide) ⟨q0_3, kq0_3, rfl, KK20, ge_q0_3, zg_q0_3, f15, f13, f14, f12, f17, f18, O3_1⟩
theorem rm_au3_add (G : Glob Z a0 EL) (p0 p1 : Addr) (h : Heap) (O : Ext Z.heap h) (e_0 : Exa Z h p0 "java/util/ArrayList") (f_0_0 : Fld Z h p0 "java/util/AbstractList" "modCount" "I" (.int 0)) (f_0_1 : Fld Z h p0 "java/util/ArrayList" "elementData" "[Ljava/lang/Object;" (.ref (sDE Z))) (f_0_2 : Fld Z h p0 "java/util/ArrayList" "size" "I" (.int 0)) (z_0 : Z.heap.size ≤ p0) (e_1 : Exa Z h p1 "java/lang/String") :
    Met l Z EL true ⟨"java/util/ArrayList", "add", "(Ljava/lang/Object;)Z"⟩ jdk_38_method_25_code 2 (some .boolean) [] ⟨4, 1, 10, 56⟩ #[(.ref p0), (.ref p1)] h [] (fun r h' => ∃ (q0 : Addr) (kq0 : ClassId), r = some (.int 1) ∧ Keep h h' [p0] ∧ h.size ≤ q0 ∧ Z.heap.size ≤ q0 ∧ Exa Z h' p0 "java/util/ArrayList" ∧ Fld Z h' p0 "java/util/AbstractList" "modCount" "I" (.int 1) ∧ Fld Z h' p0 "java/util/ArrayList" "elementData" "[Ljava/lang/Object;" (.ref q0) ∧ Fld Z h' p0 "java/util/ArrayList" "size" "I" (.int 1) ∧ Exa Z h' q0 "[Ljava/lang/Object;" ∧ Arv Z h' q0 kq0 (.object "java/lang/Object") (10 : Int32) [(.ref p1), .null, .null, .null, .null, .null, .null, .null, .null, .null] .null ∧ Ovr Z kq0 "java/lang/Object") := by
  have hw := G.hw
  refine Met.of (plainFor_of_name pn_61794c697374_18) G.ew O ?_
  intro p e s m below meth c T0 C0 S0
  refine Endw.eq (g' := mkF m 0 #[.val (.ref p0), .val (.ref p1)] []) rfl ?_
  refine C0.aL (Y54 0 rfl) rfl rfl (C0.du (Y54 1 rfl) rfl ?_)
  refine C0.getFV (wd hw 66 rfl) (Via.of (wd hw 67 rfl)) f_0_0 (Y54 2 rfl) (pc' := 5) rfl ?_
  intro T1 C1
  refine C1.ic (z := 1) (Y54 3 rfl) rfl (C1.ad (z := 1) (Y54 4 rfl) rfl ?_)
  refine C1.putFV (v := (.int 1)) (wd hw 66 rfl) (Via.of (wd hw 67 rfl)) f_0_0 e_0 (Or.inl (W54 hw)) (W35 hw) (ty := .int) (by decide) rfl rfl z_0 (Safe.exa C1.warm.alike e_0 (by decide) (by decide)) (Y54 5 rfl) (pc' := 10) rfl ?_
  intro T2 h2 C2 K2 A2 Wr2
  have f3 := f_0_0.same Wr2
  have f4 := f_0_1.other Wr2 (Or.inr (slot_ne (Or.inl (W57 hw)) (Or.inl (W54 hw)) (by decide) (t := (.array (.object "java/lang/Object"))) (t' := .int) (by decide) (by decide)))
  have f5 := f_0_2.other Wr2 (Or.inr (slot_ne (Or.inl (W69 hw)) (Or.inl (W54 hw)) (by decide) (t := .int) (t' := .int) (by decide) (by decide)))
  refine C2.aL (Y54 6 rfl) rfl rfl (C2.aL (Y54 7 rfl) rfl rfl (C2.aL (Y54 8 rfl) rfl rfl ?_))
  refine C2.getF (W56 hw) f4 (Y54 9 rfl) (pc' := 16) rfl ?_
  intro T6 C6
  refine C6.aL (Y54 10 rfl) rfl rfl ?_
  refine C6.getF (W68 hw) f5 (Y54 11 rfl) (pc' := 20) rfl ?_
  intro T7 C7
  have f8 := (e_0.keep K2)
  have f9 := (e_1.keep K2)
  refine C7.priv (W := 0) (wd hw 70 rfl) (wd hw 71 rfl) (own_plain (y := ⟨"java/util/ArrayList", "add", "(Ljava/lang/Object;)Z"⟩) (W64 hw) (W63 hw)) (wd hw 72 rfl) (wd hw 74 rfl) (W36 hw) (by decide) (rm_au4_add l Z a0 EL G p0 p1 h2 C7.old f8 f3 f4 f5 z_0 f9) (fun _ => rfl) rfl f8 all0 (by decide) (by decide) (by decide) (by decide) (lenOf pd_41 rfl) rfl (nb rfl) rfl (Y54 12 rfl) (pc' := 23) rfl ?_
  intro vm15 T15 h15 v15 C15 A15 M15 q15
  obtain ⟨q0_15, kq0_15, rfl, K15, ge_q0_15, zg_q0_15, E15_0, F15_0_0, F15_0_1, F15_0_2, E15_1, V15_1, O15_1⟩ := q15
  refine C15.ic (z := 1) (Y54 13 rfl) rfl ?_
  have KK20 := (kT (kT (kR h [p0]) K2 (allS m0 all0)) K15 (allS m0 all0))
  exact C15.retI (t := .boolean) rfl (by simp) rfl (Y54 14 rfl) (by decide) (by decide) ⟨q0_15, kq0_15, rfl, KK20, (lT K2.1 ge_q0_15), zg_q0_15, E15_0, F15_0_0, F15_0_1, F15_0_2, E15_1, V15_1, O15_1⟩
theorem rm_au8_init (G : Glob Z a0 EL) (p0 : Addr) (h : Heap) (O : Ext Z.heap h)  :
    Met l Z EL true ⟨"java/lang/Record", "<init>", "()V"⟩ jdk_30_method_1_code 1 none [] ⟨1, 0, 0, 12⟩ #[(.ref p0)] h [] (fun r h' => r = none ∧ h = h') := by
  have hw := G.hw
  refine Met.of (plainFor_of_name pn_5265636f7264_10) G.ew O ?_
  intro p e s m below meth c T0 C0 S0
  refine Endw.eq (g' := mkF m 0 #[.val (.ref p0)] []) rfl ?_
  refine C0.aL (Y59 0 rfl) rfl rfl ?_
  refine C0.initO (wd hw 104 rfl) (W12 hw) (W13 hw) rfl (Y59 1 rfl) (pc' := 4) rfl (by decide) (W := 0) (nb rfl) (by decide) ?_
  intro T1 C1
  exact C1.retV (Y59 2 rfl) (by decide) (by decide) ⟨rfl, rfl⟩
theorem rm_au13_canEncode (G : Glob Z a0 EL) (h : Heap) (O : Ext Z.heap h)  :
    Met l Z EL true ⟨"java/lang/StringLatin1", "canEncode", "(I)Z"⟩ jdk_43_method_4_code 1 (some .boolean) [] ⟨0, 0, 0, 0⟩ #[(.int 46)] h [] (fun r h' => r = some (.int 1) ∧ h = h') := by
  refine Met.of (plainFor_of_name pn_4c6174696e31_13) G.ew O ?_
  intro p e s m below meth c T0 C0 S0
  refine Endw.eq (g' := mkF m 0 #[.val (.int 46)] []) rfl ?_
  refine C0.iL (Y64 0 rfl) rfl (C0.fN (Y64 1 rfl) (XT.i0_lt_f (by decide)) (C0.iL (Y64 2 rfl) rfl (C0.si (z := 255) (Y64 3 rfl) rfl (C0.cN (Y64 4 rfl) (XT.ii_gt_f (by decide)) (C0.ic (z := 1) (Y64 5 rfl) rfl (C0.go (pc' := 16) (Y64 6 rfl) (by decide) rfl ?_))))))
  exact C0.retI (t := .boolean) rfl (by simp) rfl (Y64 7 rfl) (by decide) (by decide) ⟨rfl, rfl⟩
theorem rm_au14_indexOfChar (G : Glob Z a0 EL) (p0 : Addr) (kp0 : ClassId) (h : Heap) (O : Ext Z.heap h) (w_0 : Arv Z h p0 kp0 .byte (1 : Int32) (bys [(108 : Int32)]) (.int 0)) :
    Met l Z EL true ⟨"java/lang/StringLatin1", "indexOfChar", "([BIII)I"⟩ jdk_43_method_23_code 6 (some .int) [] ⟨0, 0, 0, 0⟩ #[(.ref p0), (.int 46), (.int 0), (.int 1)] h [] (fun r h' => r = some (.int (-1)) ∧ h = h') := by
  refine Met.of (plainFor_of_name pn_4c6174696e31_13) G.ew O ?_
  intro p e s m below meth c T0 C0 S0
  refine Endw.eq (g' := mkF m 0 #[.val (.ref p0), .val (.int 46), .val (.int 0), .val (.int 1), .unset, .unset] []) rfl ?_
  refine C0.iL (Y65 0 rfl) rfl ?_
  refine Endw.st (T' := T0) (g' := (mkF m 2 #[.val (.ref p0), .val (.int 46), .val (.int 0), .val (.int 1), .unset, .unset] [(.int ((46 : Int32).toInt8.toInt32))])) (fun _ k_ => XS.i2b C0.here C0.hx rfl (C0.dec (Y65 1 rfl)) rfl k_) ?_
  rw [show ((46 : Int32).toInt8.toInt32) = (46 : Int32) from by decide]
  refine C0.iSk (Y65 2 rfl) (l' := #[.val (.ref p0), .val (.int 46), .val (.int 0), .val (.int 1), .val (.int 46), .unset]) rfl (C0.iL (Y65 3 rfl) rfl (C0.iSk (Y65 4 rfl) (l' := #[.val (.ref p0), .val (.int 46), .val (.int 0), .val (.int 1), .val (.int 46), .val (.int 0)]) rfl (C0.iLk (Y65 5 rfl) rfl (C0.iL (Y65 6 rfl) rfl (C0.cN (Y65 7 rfl) (XT.ii_ge_f (by decide)) (C0.aL (Y65 8 rfl) rfl rfl (C0.iLk (Y65 9 rfl) rfl ?_)))))))
  refine C0.baload w_0 ⟨by decide, by decide⟩ (v := (.int 108)) rfl (Y65 10 rfl) (pc' := 17) rfl ?_
  refine C0.iLk (Y65 11 rfl) rfl (C0.cY (pc' := 25) (Y65 12 rfl) (XT.ii_ne_t (by decide)) (by decide) rfl ?_)
  refine Endw.st (T' := T0) (g' := (mkF m 28 #[.val (.ref p0), .val (.int 46), .val (.int 0), .val (.int 1), .val (.int 46), .val (.int 1)] [])) (fun _ k_ => XS.iinc C0.here C0.hx rfl (C0.dec (Y65 13 rfl)) rfl (l' := #[.val (.ref p0), .val (.int 46), .val (.int 0), .val (.int 1), .val (.int 46), .val (.int 1)]) rfl k_) ?_
  refine C0.go (pc' := 7) (Y65 14 rfl) (by decide) rfl (C0.iLk (Y65 5 rfl) rfl (C0.iL (Y65 6 rfl) rfl (C0.cY (pc' := 31) (Y65 7 rfl) (XT.ii_ge_t (by decide)) (by decide) rfl (C0.ic (z := (-1)) (Y65 15 rfl) rfl ?_))))
  exact C0.retI (t := .int) rfl (by simp) rfl (Y65 16 rfl) (by decide) (by decide) ⟨rfl, rfl⟩
theorem rm_au12_indexOf (G : Glob Z a0 EL) (p0 : Addr) (kp0 : ClassId) (h : Heap) (O : Ext Z.heap h) (w_0 : Arv Z h p0 kp0 .byte (1 : Int32) (bys [(108 : Int32)]) (.int 0)) :
    Met l Z EL true ⟨"java/lang/StringLatin1", "indexOf", "([BIII)I"⟩ jdk_43_method_22_code 4 (some .int) [] ⟨1, 0, 0, 17⟩ #[(.ref p0), (.int 46), (.int 0), (.int 1)] h [] (fun r h' => r = some (.int (-1)) ∧ h = h') := by
  have hw := G.hw
  refine Met.of (plainFor_of_name pn_4c6174696e31_13) G.ew O ?_
  intro p e s m below meth c T0 C0 S0
  refine Endw.eq (g' := mkF m 0 #[.val (.ref p0), .val (.int 46), .val (.int 0), .val (.int 1)] []) rfl ?_
  refine C0.iL (Y63 0 rfl) rfl ?_
  refine C0.static (W := 0) (wd hw 189 rfl) (wd hw 190 rfl) (wd hw 191 rfl) (W131 hw) (by decide) (rm_au13_canEncode l Z a0 EL G  h C0.old ) (fun _ => rfl) rfl all0 (by decide) (by decide) (by decide) (by decide) (lenOf pd_2849295a rfl) rfl (nb rfl) rfl (Y63 1 rfl) (pc' := 4) rfl ?_
  intro vm1 T1 h1 v1 C1 A1 M1 q1
  obtain ⟨rfl, rfl⟩ := q1
  refine C1.fY (pc' := 9) (Y63 2 rfl) (XT.i0_ne_t (by decide)) (by decide) rfl (C1.iL (Y63 3 rfl) rfl (C1.ic (z := 0) (Y63 4 rfl) rfl ?_))
  refine C1.static (W := 0) (wd hw 192 rfl) (wd hw 86 rfl) (wd hw 88 rfl) (W87 hw) (by decide) (rm_max l Z a0 EL G (0 : Int32) (0 : Int32) h C1.old) (fun _ => rfl) rfl all0 (by decide) (by decide) (by decide) (by decide) (lenOf pd_2849492949 rfl) rfl (nb rfl) rfl (Y63 5 rfl) (pc' := 14) rfl ?_
  intro vm2 T2 h2 v2 C2 A2 M2 q2
  rw [(show (if (0 : Int32) < (0 : Int32) then (0 : Int32) else (0 : Int32)) = (0 : Int32) from by decide)] at q2
  obtain ⟨rfl, rfl⟩ := q2
  refine C2.iS (Y63 6 rfl) (l' := #[.val (.ref p0), .val (.int 46), .val (.int 0), .val (.int 1)]) rfl (C2.iL (Y63 7 rfl) rfl (C2.aL (Y63 8 rfl) rfl rfl ?_))
  refine C2.len w_0 (Y63 9 rfl) (pc' := 18) rfl ?_
  show Endw p e below T2 (mkF m 18 #[.val (.ref p0), .val (.int 46), .val (.int 0), .val (.int 1)] [(.int 1), (.int 1)]) _
  refine C2.static (W := 0) (wd hw 193 rfl) (wd hw 194 rfl) (wd hw 195 rfl) (W87 hw) (by decide) (rm_min l Z a0 EL G (1 : Int32) (1 : Int32) h C2.old) (fun _ => rfl) rfl all0 (by decide) (by decide) (by decide) (by decide) (lenOf pd_2849492949 rfl) rfl (nb rfl) rfl (Y63 10 rfl) (pc' := 21) rfl ?_
  intro vm3 T3 h3 v3 C3 A3 M3 q3
  rw [(show (if (1 : Int32) < (1 : Int32) then (1 : Int32) else (1 : Int32)) = (1 : Int32) from by decide)] at q3
  obtain ⟨rfl, rfl⟩ := q3
  refine C3.iS (Y63 11 rfl) (l' := #[.val (.ref p0), .val (.int 46), .val (.int 0), .val (.int 1)]) rfl (C3.iL (Y63 12 rfl) rfl (C3.iL (Y63 13 rfl) rfl (C3.cY (pc' := 29) (Y63 14 rfl) (XT.ii_lt_t (by decide)) (by decide) rfl (C3.aL (Y63 15 rfl) rfl rfl (C3.iL (Y63 16 rfl) rfl (C3.iL (Y63 17 rfl) rfl (C3.iL (Y63 18 rfl) rfl ?_)))))))
  refine C3.static (W := 0) (wd hw 196 rfl) (wd hw 197 rfl) (wd hw 198 rfl) (W131 hw) (by decide) (rm_au14_indexOfChar l Z a0 EL G p0 kp0 h C3.old w_0) (fun _ => rfl) rfl all0 (by decide) (by decide) (by decide) (by decide) (lenOf pd_285b424949492949 rfl) rfl (nb rfl) rfl (Y63 19 rfl) (pc' := 36) rfl ?_
  intro vm4 T4 h4 v4 C4 A4 M4 q4
  obtain ⟨rfl, rfl⟩ := q4
  exact C4.retI (t := .int) rfl (by simp) rfl (Y63 20 rfl) (by decide) (by decide) ⟨rfl, rfl⟩
theorem rm_au11_indexOf (G : Glob Z a0 EL) (p0 p1 : Addr) (kp1 : ClassId) (h : Heap) (O : Ext Z.heap h) (e_0 : Exa Z h p0 "java/lang/String") (f_0_0 : Fld Z h p0 "java/lang/String" "coder" "B" (.int 0)) (f_0_1 : Fld Z h p0 "java/lang/String" "value" "[B" (.ref p1)) (w_1 : Arv Z h p1 kp1 .byte (1 : Int32) (bys [(108 : Int32)]) (.int 0)) (s_0 : Str Z h p0 p1 kp1 [(108 : Int32)]) :
    Met l Z EL true ⟨"java/lang/String", "indexOf", "(II)I"⟩ jdk_42_method_80_code 3 (some .int) [] ⟨2, 0, 0, 32⟩ #[(.ref p0), (.int 46), (.int 0)] h [] (fun r h' => r = some (.int (-1)) ∧ h = h') := by
  have hw := G.hw
  refine Met.of (plainFor_of_name pn_537472696e67_11) G.ew O ?_
  intro p e s m below meth c T0 C0 S0
  refine Endw.eq (g' := mkF m 0 #[.val (.ref p0), .val (.int 46), .val (.int 0)] []) rfl ?_
  refine C0.aL (Y62 0 rfl) rfl rfl ?_
  refine C0.virtual (W := 0) (wd hw 124 rfl) (wd hw 125 rfl) (fun _ q => notFace_of_selects (args := #[]) (mvT q (W127 hw))) (W127 hw) (wd hw 126 rfl) (wd hw 128 rfl) (W3 hw) (by decide) (rm_isLatin1 l Z a0 EL G p0 h C0.old f_0_0) (fun _ => rfl) rfl e_0 all0 (by decide) (by decide) (by decide) (by decide) (lenOf pd_28295a rfl) rfl (nb rfl) rfl (Y62 1 rfl) (pc' := 4) rfl ?_
  intro vm1 T1 h1 v1 C1 A1 M1 q1
  obtain ⟨rfl, rfl⟩ := q1
  refine C1.fN (Y62 2 rfl) (XT.i0_eq_f (by decide)) (C1.aL (Y62 3 rfl) rfl rfl ?_)
  refine C1.getF (W28 hw) f_0_1 (Y62 4 rfl) (pc' := 11) rfl ?_
  intro T2 C2
  refine C2.iL (Y62 5 rfl) rfl (C2.iL (Y62 6 rfl) rfl (C2.aL (Y62 7 rfl) rfl rfl ?_))
  refine C2.virtual (W := 3) (wd hw 149 rfl) (W150 hw) (fun _ q => notFace_of_selects (args := #[]) (mvT q (W152 hw))) (W152 hw) (W151 hw) (W153 hw) (W3 hw) (by decide) (rm_strLen l Z a0 EL G p0 p1 kp1 [(108 : Int32)] h C2.old s_0) (fun _ => rfl) rfl e_0 all0 (by decide) (by decide) (by decide) (by decide) (lenOf pd_282949 rfl) rfl (nb rfl) rfl (Y62 8 rfl) (pc' := 17) rfl ?_
  intro vm3 T3 h3 v3 C3 A3 M3 q3
  obtain ⟨rfl, rfl⟩ := q3
  show Endw p e below T3 (mkF m 17 #[.val (.ref p0), .val (.int 46), .val (.int 0)] [(.int 1), (.int 0), (.int 46), (.ref p1)]) _
  refine C3.static (W := 0) (wd hw 186 rfl) (wd hw 187 rfl) (wd hw 188 rfl) (W131 hw) (by decide) (rm_au12_indexOf l Z a0 EL G p1 kp1 h C3.old w_1) (fun _ => rfl) rfl all0 (by decide) (by decide) (by decide) (by decide) (lenOf pd_285b424949492949 rfl) rfl (nb rfl) rfl (Y62 9 rfl) (pc' := 20) rfl ?_
  intro vm4 T4 h4 v4 C4 A4 M4 q4
  obtain ⟨rfl, rfl⟩ := q4
  refine C4.go (pc' := 36) (Y62 10 rfl) (by decide) rfl ?_
  exact C4.retI (t := .int) rfl (by simp) rfl (Y62 11 rfl) (by decide) (by decide) ⟨rfl, rfl⟩
theorem rm_au10_indexOf (G : Glob Z a0 EL) (p0 p1 : Addr) (kp1 : ClassId) (h : Heap) (O : Ext Z.heap h) (e_0 : Exa Z h p0 "java/lang/String") (f_0_0 : Fld Z h p0 "java/lang/String" "coder" "B" (.int 0)) (f_0_1 : Fld Z h p0 "java/lang/String" "value" "[B" (.ref p1)) (w_1 : Arv Z h p1 kp1 .byte (1 : Int32) (bys [(108 : Int32)]) (.int 0)) (s_0 : Str Z h p0 p1 kp1 [(108 : Int32)]) :
    Met l Z EL true ⟨"java/lang/String", "indexOf", "(I)I"⟩ jdk_42_method_79_code 2 (some .int) [] ⟨3, 0, 0, 46⟩ #[(.ref p0), (.int 46)] h [] (fun r h' => r = some (.int (-1)) ∧ h = h') := by
  have hw := G.hw
  refine Met.of (plainFor_of_name pn_537472696e67_11) G.ew O ?_
  intro p e s m below meth c T0 C0 S0
  refine Endw.eq (g' := mkF m 0 #[.val (.ref p0), .val (.int 46)] []) rfl ?_
  refine C0.aL (Y61 0 rfl) rfl rfl (C0.iL (Y61 1 rfl) rfl (C0.ic (z := 0) (Y61 2 rfl) rfl ?_))
  refine C0.virtual (W := 0) (wd hw 181 rfl) (wd hw 182 rfl) (fun _ q => notFace_of_selects (args := #[]) (mvT q (wd hw 184 rfl))) (wd hw 184 rfl) (wd hw 183 rfl) (wd hw 185 rfl) (W3 hw) (by decide) (rm_au11_indexOf l Z a0 EL G p0 p1 kp1 h C0.old e_0 f_0_0 f_0_1 w_1 s_0) (fun _ => rfl) rfl e_0 all0 (by decide) (by decide) (by decide) (by decide) (lenOf pd_2849492949 rfl) rfl (nb rfl) rfl (Y61 3 rfl) (pc' := 6) rfl ?_
  intro vm1 T1 h1 v1 C1 A1 M1 q1
  obtain ⟨rfl, rfl⟩ := q1
  exact C1.retI (t := .int) rfl (by simp) rfl (Y61 4 rfl) (by decide) (by decide) ⟨rfl, rfl⟩
theorem rm_au9_requirePart (G : Glob Z a0 EL) (p0 p1 p3 : Addr) (kp3 : ClassId) (h : Heap) (O : Ext Z.heap h) (e_1 : Exa Z h p1 "java/lang/String") (f_1_0 : Fld Z h p1 "java/lang/String" "coder" "B" (.int 0)) (f_1_1 : Fld Z h p1 "java/lang/String" "value" "[B" (.ref p3)) (w_3 : Arv Z h p3 kp3 .byte (1 : Int32) (bys [(108 : Int32)]) (.int 0)) (s_1 : Str Z h p1 p3 kp3 [(108 : Int32)]) :
    Met l Z EL true ⟨"com/example/dique/dique/model/Names", "requirePart", "(Ljava/lang/String;Ljava/lang/String;)V"⟩ prog_17_method_4_code 2 none [] ⟨6, 0, 0, 85⟩ #[(.ref p0), (.ref p1)] h [] (fun r h' => r = none ∧ h = h') := by
  have hw := G.hw
  refine Met.of (plainFor_of_name pn_2f4e616d6573_2) G.ew O ?_
  intro p e s m below meth c T0 C0 S0
  refine Endw.eq (g' := mkF m 0 #[.val (.ref p0), .val (.ref p1)] []) rfl ?_
  refine C0.aL (Y60 0 rfl) rfl rfl (C0.aL (Y60 1 rfl) rfl rfl ?_)
  refine C0.static (W := 0) (wd hw 110 rfl) (wd hw 111 rfl) (wd hw 113 rfl) (W112 hw) (by decide) (rm_require l Z a0 EL G (.ref p0) rfl p1 p3 kp3 [(108 : Int32)] h C0.old s_1 (own_solidOf (by decide) (by decide +kernel) (by decide +kernel))) (fun _ => rfl) rfl all0 (by decide) (by decide) (by decide) (by decide) (lenOf pd_47 rfl) rfl (nb rfl) rfl (Y60 2 rfl) (pc' := 5) rfl ?_
  intro vm1 T1 h1 v1 C1 A1 M1 q1
  obtain ⟨rfl, rfl⟩ := q1
  refine C1.aL (Y60 3 rfl) rfl rfl (C1.bi (z := 46) (Y60 4 rfl) rfl ?_)
  refine C1.virtual (W := 0) (wd hw 176 rfl) (wd hw 177 rfl) (fun _ q => notFace_of_selects (args := #[]) (mvT q (wd hw 179 rfl))) (wd hw 179 rfl) (wd hw 178 rfl) (wd hw 180 rfl) (W3 hw) (by decide) (rm_au10_indexOf l Z a0 EL G p1 p3 kp3 h C1.old e_1 f_1_0 f_1_1 w_3 s_1) (fun _ => rfl) rfl e_1 all0 (by decide) (by decide) (by decide) (by decide) (lenOf pd_28492949 rfl) rfl (nb rfl) rfl (Y60 5 rfl) (pc' := 11) rfl ?_
  intro vm2 T2 h2 v2 C2 A2 M2 q2
  obtain ⟨rfl, rfl⟩ := q2
  refine C2.fY (pc' := 50) (Y60 6 rfl) (XT.i0_lt_t (by decide)) (by decide) rfl ?_
  exact C2.retV (Y60 7 rfl) (by decide) (by decide) ⟨rfl, rfl⟩
theorem rm_au17_isEmpty (G : Glob Z a0 EL) (p0 : Addr) (h : Heap) (O : Ext Z.heap h) (f_0_2 : Fld Z h p0 "java/util/ArrayList" "size" "I" (.int 1)) :
    Met l Z EL true ⟨"java/util/ArrayList", "isEmpty", "()Z"⟩ jdk_38_method_9_code 1 (some .boolean) [] ⟨0, 0, 0, 0⟩ #[(.ref p0)] h [] (fun r h' => r = some (.int 0) ∧ h = h') := by
  have hw := G.hw
  refine Met.of (plainFor_of_name pn_61794c697374_18) G.ew O ?_
  intro p e s m below meth c T0 C0 S0
  refine Endw.eq (g' := mkF m 0 #[.val (.ref p0)] []) rfl ?_
  refine C0.aL (Y68 0 rfl) rfl rfl ?_
  refine C0.getF (W68 hw) f_0_2 (Y68 1 rfl) (pc' := 4) rfl ?_
  intro T1 C1
  refine C1.fY (pc' := 11) (Y68 2 rfl) (XT.i0_ne_t (by decide)) (by decide) rfl (C1.ic (z := 0) (Y68 5 rfl) rfl ?_)
  exact C1.retI (t := .boolean) rfl (by simp) rfl (Y68 6 rfl) (by decide) (by decide) ⟨rfl, rfl⟩
theorem rm_au20_copyOf (G : Glob Z a0 EL) (p0 p1 : Addr) (kp0 : ClassId) (h : Heap) (O : Ext Z.heap h) (w_0 : Arv Z h p0 kp0 (.object "java/lang/Object") (10 : Int32) [(.ref p1), .null, .null, .null, .null, .null, .null, .null, .null, .null] .null) (e_1 : Exa Z h p1 "java/lang/String") :
    Met l Z EL true ⟨"java/util/Arrays", "copyOf", "([Ljava/lang/Object;ILjava/lang/Class;)[Ljava/lang/Object;"⟩ jdk_65_method_120_code 4 (some (.array (.object "java/lang/Object"))) [] ⟨1, 1, 1, 18⟩ #[(.ref p0), (.int 1), (.ref (sMO Z))] h [] (fun r h' => ∃ (q0 : Addr) (kq0 : ClassId), r = some (.ref q0) ∧ Keep h h' [] ∧ h.size ≤ q0 ∧ Z.heap.size ≤ q0 ∧ Exa Z h' q0 "[Ljava/lang/Object;" ∧ Arv Z h' q0 kq0 (.object "java/lang/Object") (1 : Int32) [(.ref p1)] .null ∧ Ovr Z kq0 "java/lang/Object") := by
  have hw := G.hw
  refine Met.of (plainFor_of_name pn_417272617973_19) G.ew O ?_
  intro p e s m below meth c T0 C0 S0
  refine Endw.eq (g' := mkF m 0 #[.val (.ref p0), .val (.int 1), .val (.ref (sMO Z)), .unset] []) rfl ?_
  refine C0.aL (Y71 0 rfl) rfl rfl ?_
  refine C0.ldcMir (wd hw 243 rfl) G.m1 (Y71 1 rfl) (pc' := 3) rfl ?_
  intro T1 C1
  refine Endw.st (T' := T1) (g' := (mkF m 6 #[.val (.ref p0), .val (.int 1), .val (.ref (sMO Z)), .unset] [])) (fun _ k_ => XT.acmpNo C1.here C1.hx rfl (C1.dec (Y71 2 rfl)) rfl rfl rfl (XT.aa_ne_f rfl) k_) ?_
  refine C1.iL (Y71 3 rfl) rfl ?_
  refine C1.newR (K := "java/lang/Object") (ad := "[Ljava/lang/Object;") (z := (1 : Int32)) (cap := 1) (vs := [.null]) (by decide +kernel) (wd hw 244 rfl) (wd hw 90 rfl) (Y71 4 rfl) (pc' := 10) rfl (by decide) (by decide) (by decide) (by decide) (by decide) rfl ?_
  intro T2 h2 a2 kA2 C2 K2 A2 ge2 zg2 V2 S2 E2 O2
  refine C2.go (pc' := 24) (Y71 5 rfl) (by decide) rfl (C2.aS (Y71 6 rfl) rfl (l' := #[.val (.ref p0), .val (.int 1), .val (.ref (sMO Z)), .val (.ref a2)]) rfl (C2.aL (Y71 7 rfl) rfl rfl (C2.ic (z := 0) (Y71 8 rfl) rfl (C2.aL (Y71 9 rfl) rfl rfl (C2.ic (z := 0) (Y71 10 rfl) rfl (C2.aL (Y71 11 rfl) rfl rfl ?_))))))
  have f3 := (w_0.keep K2 nin0)
  refine C2.len f3 (Y71 12 rfl) (pc' := 31) rfl ?_
  show Endw p e below T2 (mkF m 31 #[.val (.ref p0), .val (.int 1), .val (.ref (sMO Z)), .val (.ref a2)] [(.int 10), (.int 0), (.ref a2), (.int 0), (.ref p0)]) _
  refine C2.iL (Y71 13 rfl) rfl ?_
  refine C2.static (W := 4) (wd hw 245 rfl) (wd hw 194 rfl) (wd hw 195 rfl) (W87 hw) (by decide) (rm_min l Z a0 EL G (10 : Int32) (1 : Int32) h2 C2.old) (fun _ => rfl) rfl all0 (by decide) (by decide) (by decide) (by decide) (lenOf pd_2849492949 rfl) rfl (nb rfl) rfl (Y71 14 rfl) (pc' := 35) rfl ?_
  intro vm4 T4 h4 v4 C4 A4 M4 q4
  rw [(show (if (1 : Int32) < (10 : Int32) then (1 : Int32) else (10 : Int32)) = (1 : Int32) from by decide)] at q4
  obtain ⟨rfl, rfl⟩ := q4
  have f6 := (e_1.keep K2)
  refine C4.acopyR (W := 0) (us := [(.ref p1)]) (vr := [(.ref p1)]) (wd hw 246 rfl) (wd hw 249 rfl) (wd hw 247 rfl) (wd hw 248 rfl) f3 V2 ⟨own_sto V2 O2 (Ins.of_exa f6 (wd hw 91 rfl)), trivial⟩ (by decide) (by decide) (by decide) (by decide) (by decide) (nb rfl) rfl rfl zg2 rfl (Y71 15 rfl) (pc' := 38) rfl (by decide) (nb rfl) (by decide) ?_
  intro T5 h5 C5 K5 A5 V5
  refine C5.aL (Y71 16 rfl) rfl rfl ?_
  have f7 := (E2.keep K5)
  have KK9 := (kT (kT (kR h []) K2 all0) K5 (allS (Or.inr ge2) all0))
  exact C5.retA (t := (.array (.object "java/lang/Object"))) rfl rfl rfl rfl (Y71 17 rfl) (by decide) (by decide) ⟨a2, kA2, rfl, KK9, ge2, zg2, f7, V5, O2⟩
theorem rm_au19_copyOf (G : Glob Z a0 EL) (p0 p1 : Addr) (kp0 : ClassId) (h : Heap) (O : Ext Z.heap h) (e_0 : Exa Z h p0 "[Ljava/lang/Object;") (w_0 : Arv Z h p0 kp0 (.object "java/lang/Object") (10 : Int32) [(.ref p1), .null, .null, .null, .null, .null, .null, .null, .null, .null] .null) (e_1 : Exa Z h p1 "java/lang/String") :
    Met l Z EL true ⟨"java/util/Arrays", "copyOf", "([Ljava/lang/Object;I)[Ljava/lang/Object;"⟩ jdk_65_method_119_code 2 (some (.array (.object "java/lang/Object"))) [] ⟨2, 1, 1, 33⟩ #[(.ref p0), (.int 1)] h [] (fun r h' => ∃ (q0 : Addr) (kq0 : ClassId), r = some (.ref q0) ∧ Keep h h' [] ∧ h.size ≤ q0 ∧ Z.heap.size ≤ q0 ∧ Exa Z h' q0 "[Ljava/lang/Object;" ∧ Arv Z h' q0 kq0 (.object "java/lang/Object") (1 : Int32) [(.ref p1)] .null ∧ Ovr Z kq0 "java/lang/Object") := by
  have hw := G.hw
  refine Met.of (plainFor_of_name pn_417272617973_19) G.ew O ?_
  intro p e s m below meth c T0 C0 S0
  refine Endw.eq (g' := mkF m 0 #[.val (.ref p0), .val (.int 1)] []) rfl ?_
  refine C0.aL (Y70 0 rfl) rfl rfl (C0.iL (Y70 1 rfl) rfl (C0.aL (Y70 2 rfl) rfl rfl ?_))
  refine C0.getClass (W := 2) (a := p0) (mr := (sMO Z)) (rest := [(.int 1), (.ref p0)]) (wd hw 234 rfl) (wd hw 235 rfl) (W211 hw) (wd hw 237 rfl) (wd hw 236 rfl) (wd hw 238 rfl) e_0 G.m1 rfl (Y70 3 rfl) (pc' := 6) rfl (by decide) (nb rfl) (by decide) ?_
  intro T1 C1
  refine C1.static (W := 0) (wd hw 240 rfl) (wd hw 241 rfl) (wd hw 242 rfl) (W232 hw) (by decide) (rm_au20_copyOf l Z a0 EL G p0 p1 kp0 h C1.old w_0 e_1) (fun _ => rfl) rfl all0 (by decide) (by decide) (by decide) (by decide) (lenOf pd_69 rfl) rfl (nb rfl) rfl (Y70 4 rfl) (pc' := 9) rfl ?_
  intro vm2 T2 h2 v2 C2 A2 M2 q2
  obtain ⟨q0_2, kq0_2, rfl, K2, ge_q0_2, zg_q0_2, E2_0, V2_0, O2_0⟩ := q2
  exact C2.retA (t := (.array (.object "java/lang/Object"))) rfl rfl rfl rfl (Y70 5 rfl) (by decide) (by decide) ⟨q0_2, kq0_2, rfl, K2, ge_q0_2, zg_q0_2, E2_0, V2_0, O2_0⟩
theorem rm_au18_toArray (G : Glob Z a0 EL) (p0 p1 p2 : Addr) (kp1 : ClassId) (h : Heap) (O : Ext Z.heap h) (f_0_1 : Fld Z h p0 "java/util/ArrayList" "elementData" "[Ljava/lang/Object;" (.ref p1)) (f_0_2 : Fld Z h p0 "java/util/ArrayList" "size" "I" (.int 1)) (e_1 : Exa Z h p1 "[Ljava/lang/Object;") (w_1 : Arv Z h p1 kp1 (.object "java/lang/Object") (10 : Int32) [(.ref p2), .null, .null, .null, .null, .null, .null, .null, .null, .null] .null) (e_2 : Exa Z h p2 "java/lang/String") :
    Met l Z EL true ⟨"java/util/ArrayList", "toArray", "()[Ljava/lang/Object;"⟩ jdk_38_method_16_code 1 (some (.array (.object "java/lang/Object"))) [] ⟨3, 1, 1, 46⟩ #[(.ref p0)] h [] (fun r h' => ∃ (q0 : Addr) (kq0 : ClassId), r = some (.ref q0) ∧ Keep h h' [] ∧ h.size ≤ q0 ∧ Z.heap.size ≤ q0 ∧ Exa Z h' q0 "[Ljava/lang/Object;" ∧ Arv Z h' q0 kq0 (.object "java/lang/Object") (1 : Int32) [(.ref p2)] .null ∧ Ovr Z kq0 "java/lang/Object") := by
  have hw := G.hw
  refine Met.of (plainFor_of_name pn_61794c697374_18) G.ew O ?_
  intro p e s m below meth c T0 C0 S0
  refine Endw.eq (g' := mkF m 0 #[.val (.ref p0)] []) rfl ?_
  refine C0.aL (Y69 0 rfl) rfl rfl ?_
  refine C0.getF (W56 hw) f_0_1 (Y69 1 rfl) (pc' := 4) rfl ?_
  intro T1 C1
  refine C1.aL (Y69 2 rfl) rfl rfl ?_
  refine C1.getF (W68 hw) f_0_2 (Y69 3 rfl) (pc' := 8) rfl ?_
  intro T2 C2
  refine C2.static (W := 0) (wd hw 230 rfl) (wd hw 231 rfl) (wd hw 233 rfl) (W232 hw) (by decide) (rm_au19_copyOf l Z a0 EL G p1 p2 kp1 h C2.old e_1 w_1 e_2) (fun _ => rfl) rfl all0 (by decide) (by decide) (by decide) (by decide) (lenOf pd_68 rfl) rfl (nb rfl) rfl (Y69 4 rfl) (pc' := 11) rfl ?_
  intro vm3 T3 h3 v3 C3 A3 M3 q3
  obtain ⟨q0_3, kq0_3, rfl, K3, ge_q0_3, zg_q0_3, E3_0, V3_0, O3_0⟩ := q3
  exact C3.retA (t := (.array (.object "java/lang/Object"))) rfl rfl rfl rfl (Y69 5 rfl) (by decide) (by decide) ⟨q0_3, kq0_3, rfl, K3, ge_q0_3, zg_q0_3, E3_0, V3_0, O3_0⟩
theorem rm_au24_init (G : Glob Z a0 EL) (p0 : Addr) (h : Heap) (O : Ext Z.heap h)  :
    Met l Z EL true ⟨"java/util/ImmutableCollections$AbstractImmutableCollection", "<init>", "()V"⟩ jdk_47_method_1_code 1 none [] ⟨2, 0, 0, 24⟩ #[(.ref p0)] h [] (fun r h' => r = none ∧ h = h') := by
  have hw := G.hw
  refine Met.of (plainFor_of_name pn_656374696f6e_23) G.ew O ?_
  intro p e s m below meth c T0 C0 S0
  refine Endw.eq (g' := mkF m 0 #[.val (.ref p0)] []) rfl ?_
  refine C0.aL (Y75 0 rfl) rfl rfl ?_
  refine C0.special (y := ⟨"java/util/AbstractCollection", "<init>", "()V"⟩) (W := 0) rfl (wd hw 272 rfl) (wd hw 47 rfl) (wd hw 51 rfl) (wd hw 50 rfl) (by decide) (rm_au2_init l Z a0 EL G p0 h C0.old ) (fun _ => rfl) rfl all0 (by decide) (by decide) (by decide) (by decide) (lenOf pd_282956 rfl) rfl (nb rfl) rfl (Y75 1 rfl) (pc' := 4) rfl ?_
  intro vm1 T1 h1 v1 C1 A1 M1 q1
  obtain ⟨rfl, rfl⟩ := q1
  exact C1.retV (Y75 2 rfl) (by decide) (by decide) ⟨rfl, rfl⟩
theorem rm_au23_init (G : Glob Z a0 EL) (p0 : Addr) (h : Heap) (O : Ext Z.heap h)  :
    Met l Z EL true ⟨"java/util/ImmutableCollections$AbstractImmutableList", "<init>", "()V"⟩ jdk_46_method_1_code 1 none [] ⟨3, 0, 0, 36⟩ #[(.ref p0)] h [] (fun r h' => r = none ∧ h = h') := by
  have hw := G.hw
  refine Met.of (plainFor_of_name pn_6c654c697374_24) G.ew O ?_
  intro p e s m below meth c T0 C0 S0
  refine Endw.eq (g' := mkF m 0 #[.val (.ref p0)] []) rfl ?_
  refine C0.aL (Y74 0 rfl) rfl rfl ?_
  refine C0.special (y := ⟨"java/util/ImmutableCollections$AbstractImmutableCollection", "<init>", "()V"⟩) (W := 0) rfl (wd hw 266 rfl) (wd hw 267 rfl) (wd hw 271 rfl) (wd hw 270 rfl) (by decide) (rm_au24_init l Z a0 EL G p0 h C0.old ) (fun _ => rfl) rfl all0 (by decide) (by decide) (by decide) (by decide) (lenOf pd_282956 rfl) rfl (nb rfl) rfl (Y74 1 rfl) (pc' := 4) rfl ?_
  intro vm1 T1 h1 v1 C1 A1 M1 q1
  obtain ⟨rfl, rfl⟩ := q1
  exact C1.retV (Y74 2 rfl) (by decide) (by decide) ⟨rfl, rfl⟩
theorem rm_au25_requireNonNull (G : Glob Z a0 EL) (p0 : Addr) (h : Heap) (O : Ext Z.heap h)  :
    Met l Z EL true ⟨"java/util/Objects", "requireNonNull", "(Ljava/lang/Object;)Ljava/lang/Object;"⟩ jdk_31_method_10_code 1 (some (.object "java/lang/Object")) [] ⟨0, 0, 0, 0⟩ #[(.ref p0)] h [] (fun r h' => r = some (.ref p0) ∧ h = h') := by
  refine Met.of (plainFor_of_name pn_626a65637473_29) G.ew O ?_
  intro p e s m below meth c T0 C0 S0
  refine Endw.eq (g' := mkF m 0 #[.val (.ref p0)] []) rfl ?_
  refine C0.aL (Y76 0 rfl) rfl rfl ?_
  refine Endw.st (T' := T0) (g' := (mkF m 12 #[.val (.ref p0)] [])) (fun _ k_ => XS.ifnonnullYes C0.here C0.hx rfl (pc0 := 1) rfl (C0.dec (Y76 1 rfl)) rfl (by decide) rfl k_) ?_
  refine C0.aL (Y76 2 rfl) rfl rfl ?_
  exact C0.retA (t := (.object "java/lang/Object")) rfl rfl rfl rfl (Y76 3 rfl) (by decide) (by decide) ⟨rfl, rfl⟩
theorem rm_au22_init (G : Glob Z a0 EL) (p0 p1 : Addr) (h : Heap) (O : Ext Z.heap h) (e_0 : Exa Z h p0 "java/util/ImmutableCollections$List12") (f_0_0 : Fld Z h p0 "java/util/ImmutableCollections$List12" "e0" "Ljava/lang/Object;" .null) (f_0_1 : Fld Z h p0 "java/util/ImmutableCollections$List12" "e1" "Ljava/lang/Object;" .null) (z_0 : Z.heap.size ≤ p0) :
    Met l Z EL true ⟨"java/util/ImmutableCollections$List12", "<init>", "(Ljava/lang/Object;)V"⟩ jdk_44_method_1_code 2 none [] ⟨4, 0, 0, 48⟩ #[(.ref p0), (.ref p1)] h [] (fun r h' => r = none ∧ Keep h h' [p0] ∧ Exa Z h' p0 "java/util/ImmutableCollections$List12" ∧ Fld Z h' p0 "java/util/ImmutableCollections$List12" "e0" "Ljava/lang/Object;" (.ref p1) ∧ Fld Z h' p0 "java/util/ImmutableCollections$List12" "e1" "Ljava/lang/Object;" (.ref (sEM Z))) := by
  have hw := G.hw
  refine Met.of (plainFor_of_name pn_4c6973743132_25) G.ew O ?_
  intro p e s m below meth c T0 C0 S0
  refine Endw.eq (g' := mkF m 0 #[.val (.ref p0), .val (.ref p1)] []) rfl ?_
  refine C0.aL (Y73 0 rfl) rfl rfl ?_
  refine C0.special (y := ⟨"java/util/ImmutableCollections$AbstractImmutableList", "<init>", "()V"⟩) (W := 0) rfl (wd hw 260 rfl) (wd hw 261 rfl) (wd hw 265 rfl) (wd hw 264 rfl) (by decide) (rm_au23_init l Z a0 EL G p0 h C0.old ) (fun _ => rfl) rfl all0 (by decide) (by decide) (by decide) (by decide) (lenOf pd_282956 rfl) rfl (nb rfl) rfl (Y73 1 rfl) (pc' := 4) rfl ?_
  intro vm1 T1 h1 v1 C1 A1 M1 q1
  obtain ⟨rfl, rfl⟩ := q1
  refine C1.aL (Y73 2 rfl) rfl rfl (C1.aL (Y73 3 rfl) rfl rfl ?_)
  refine C1.static (W := 1) (wd hw 274 rfl) (wd hw 275 rfl) (wd hw 277 rfl) (wd hw 276 rfl) (by decide) (rm_au25_requireNonNull l Z a0 EL G p1 h C1.old ) (fun _ => rfl) rfl all0 (by decide) (by decide) (by decide) (by decide) (lenOf pd_34 rfl) rfl (nb rfl) rfl (Y73 4 rfl) (pc' := 9) rfl ?_
  intro vm2 T2 h2 v2 C2 A2 M2 q2
  obtain ⟨rfl, rfl⟩ := q2
  refine C2.putF (v := (.ref p1)) (wd hw 278 rfl) f_0_0 e_0 (Or.inr ⟨(wd hw 279 rfl), rfl, rfl⟩) (W254 hw) (ty := (.object "java/lang/Object")) (by decide) rfl rfl z_0 (Safe.exa C2.warm.alike e_0 (by decide) (by decide)) (Y73 5 rfl) (pc' := 12) rfl ?_
  intro T3 h3 C3 K3 A3 Wr3
  have f4 := f_0_0.same Wr3
  have f5 := f_0_1.other Wr3 (Or.inr (slot_ne (Or.inr (wd hw 282 rfl)) (Or.inr (wd hw 279 rfl)) (by decide) (t := (.object "java/lang/Object")) (t' := (.object "java/lang/Object")) (by decide) (by decide)))
  refine C3.aL (Y73 6 rfl) rfl rfl ?_
  refine C3.getSN (wd hw 280 rfl) G.s4 (Y73 7 rfl) (pc' := 16) rfl ?_
  intro T7 C7
  have f8 := (e_0.keep K3)
  refine C7.putF (v := (.ref (sEM Z))) (wd hw 281 rfl) f5 f8 (Or.inr ⟨(wd hw 282 rfl), rfl, rfl⟩) (W254 hw) (ty := (.object "java/lang/Object")) (by decide) rfl rfl z_0 (Safe.exa C7.warm.alike f8 (by decide) (by decide)) (Y73 8 rfl) (pc' := 19) rfl ?_
  intro T9 h9 C9 K9 A9 Wr9
  have f10 := f5.same Wr9
  have f11 := f4.other Wr9 (Or.inr (slot_ne (Or.inr (wd hw 279 rfl)) (Or.inr (wd hw 282 rfl)) (by decide) (t := (.object "java/lang/Object")) (t' := (.object "java/lang/Object")) (by decide) (by decide)))
  have f12 := (f8.keep K9)
  have KK19 := (kT (kT (kR h [p0]) K3 (allS m0 all0)) K9 (allS m0 all0))
  exact C9.retV (Y73 9 rfl) (by decide) (by decide) ⟨rfl, KK19, f12, f11, f10⟩
theorem rm_au21_of (G : Glob Z a0 EL) (p0 p1 : Addr) (kp0 : ClassId) (h : Heap) (O : Ext Z.heap h) (w_0 : Arv Z h p0 kp0 (.object "java/lang/Object") (1 : Int32) [(.ref p1)] .null) :
    Met l Z EL true ⟨"java/util/List", "of", "([Ljava/lang/Object;)Ljava/util/List;"⟩ jdk_40_method_47_code 2 (some (.object "java/util/List")) [] ⟨5, 1, 2, 62⟩ #[(.ref p0)] h [] (fun r h' => ∃ (q0 : Addr), r = some (.ref q0) ∧ Keep h h' [] ∧ h.size ≤ q0 ∧ Z.heap.size ≤ q0 ∧ Exa Z h' q0 "java/util/ImmutableCollections$List12" ∧ Fld Z h' q0 "java/util/ImmutableCollections$List12" "e0" "Ljava/lang/Object;" (.ref p1) ∧ Fld Z h' q0 "java/util/ImmutableCollections$List12" "e1" "Ljava/lang/Object;" (.ref (sEM Z))) := by
  have hw := G.hw
  refine Met.of (plainFor_of_name pn_6c2f4c697374_28) G.ew O ?_
  intro p e s m below meth c T0 C0 S0
  refine Endw.eq (g' := mkF m 0 #[.val (.ref p0), .unset] []) rfl ?_
  refine C0.aL (Y72 0 rfl) rfl rfl ?_
  refine C0.len w_0 (Y72 1 rfl) (pc' := 2) rfl ?_
  show Endw p e below T0 (mkF m 2 #[.val (.ref p0), .unset] [(.int 1)]) _
  refine C0.tswIn (off := 32) (Y72 2 rfl) (by decide) (by decide) (by decide) (pc' := 34) rfl ?_
  refine C0.new (wd hw 253 rfl) (W254 hw) (W255 hw) (Y72 3 rfl) (pc' := 37) rfl (by decide) (by decide) ?_
  intro T1 h1 a1 C1 K1 A1 ge1 zg1 E1 D1 S1
  refine C1.du (Y72 4 rfl) rfl (C1.aL (Y72 5 rfl) rfl rfl (C1.ic (z := 0) (Y72 6 rfl) rfl ?_))
  have f2 := (w_0.keep K1 nin0)
  refine C1.aaload f2 rfl ⟨by decide, by decide⟩ (v := (.ref p1)) rfl (Y72 7 rfl) (pc' := 41) rfl ?_
  have f3 : Fld Z h1 a1 "java/util/ImmutableCollections$List12" "e0" "Ljava/lang/Object;" .null := D1 (Or.inr (wd hw 279 rfl)) (ty := (.object "java/lang/Object")) (by decide)
  have f4 : Fld Z h1 a1 "java/util/ImmutableCollections$List12" "e1" "Ljava/lang/Object;" .null := D1 (Or.inr (wd hw 282 rfl)) (ty := (.object "java/lang/Object")) (by decide)
  refine C1.special (y := ⟨"java/util/ImmutableCollections$List12", "<init>", "(Ljava/lang/Object;)V"⟩) (W := 1) rfl (wd hw 256 rfl) (wd hw 257 rfl) (wd hw 259 rfl) (W255 hw) (by decide) (rm_au22_init l Z a0 EL G a1 p1 h1 C1.old E1 f3 f4 zg1) (fun _ => rfl) rfl all0 (by decide) (by decide) (by decide) (by decide) (lenOf pd_36 rfl) rfl (nb rfl) rfl (Y72 8 rfl) (pc' := 44) rfl ?_
  intro vm11 T11 h11 v11 C11 A11 M11 q11
  obtain ⟨rfl, K11, E11_0, F11_0_0, F11_0_1⟩ := q11
  have KK17 := (kT (kT (kR h []) K1 all0) K11 (allS (Or.inr ge1) all0))
  exact C11.retA (t := (.object "java/util/List")) rfl rfl rfl rfl (Y72 9 rfl) (by decide) (by decide) ⟨a1, rfl, KK17, ge1, zg1, E11_0, F11_0_0, F11_0_1⟩
theorem rm_au16_listCopy (G : Glob Z a0 EL) (p0 p1 p2 : Addr) (kp1 : ClassId) (h : Heap) (O : Ext Z.heap h) (e_0 : Exa Z h p0 "java/util/ArrayList") (f_0_1 : Fld Z h p0 "java/util/ArrayList" "elementData" "[Ljava/lang/Object;" (.ref p1)) (f_0_2 : Fld Z h p0 "java/util/ArrayList" "size" "I" (.int 1)) (e_1 : Exa Z h p1 "[Ljava/lang/Object;") (w_1 : Arv Z h p1 kp1 (.object "java/lang/Object") (10 : Int32) [(.ref p2), .null, .null, .null, .null, .null, .null, .null, .null, .null] .null) (e_2 : Exa Z h p2 "java/lang/String") :
    Met l Z EL true ⟨"java/util/ImmutableCollections", "listCopy", "(Ljava/util/Collection;)Ljava/util/List;"⟩ jdk_56_method_3_code 2 (some (.object "java/util/List")) [] ⟨6, 2, 3, 75⟩ #[(.ref p0)] h [] (fun r h' => ∃ (q0 : Addr), r = some (.ref q0) ∧ Keep h h' [] ∧ h.size ≤ q0 ∧ Z.heap.size ≤ q0 ∧ Exa Z h' q0 "java/util/ImmutableCollections$List12" ∧ Fld Z h' q0 "java/util/ImmutableCollections$List12" "e0" "Ljava/lang/Object;" (.ref p2) ∧ Fld Z h' q0 "java/util/ImmutableCollections$List12" "e1" "Ljava/lang/Object;" (.ref (sEM Z))) := by
  have hw := G.hw
  refine Met.of (plainFor_of_name pn_6374696f6e73_22) G.ew O ?_
  intro p e s m below meth c T0 C0 S0
  refine Endw.eq (g' := mkF m 0 #[.val (.ref p0), .unset] []) rfl ?_
  refine C0.aL (Y67 0 rfl) rfl rfl ?_
  refine C0.instNo (wd hw 207 rfl) e_0 (own_NSno (W208 hw) (W254 hw) (NS.step (W208 hw) (NS.step (wd hw 209 rfl) (NS.step (wd hw 210 rfl) (own_NSroot (W211 hw) (W254 hw) (by decide)) (by decide)) (by decide)) (by decide)) (by decide)) (Y67 1 rfl) (pc' := 4) rfl ?_
  intro T1 C1
  refine C1.fN (Y67 2 rfl) (XT.i0_ne_f (by decide)) (C1.aL (Y67 3 rfl) rfl rfl ?_)
  refine C1.instNo (wd hw 212 rfl) e_0 (own_NSnoP (W208 hw) (own_plain2 (y := ⟨"java/util/ImmutableCollections$ListN", "size", "()I"⟩) (W667 hw)) (NS.step (W208 hw) (NS.step (wd hw 209 rfl) (NS.step (wd hw 210 rfl) (own_NSrootP (W211 hw) (own_plain2 (y := ⟨"java/util/ImmutableCollections$ListN", "size", "()I"⟩) (W667 hw)) (by decide)) (by decide)) (by decide)) (by decide)) (by decide)) (Y67 4 rfl) (pc' := 11) rfl ?_
  intro T2 C2
  refine C2.fY (pc' := 31) (Y67 5 rfl) (XT.i0_eq_t (by decide)) (by decide) rfl (C2.aL (Y67 6 rfl) rfl rfl ?_)
  refine C2.iface (W := 0) (wd hw 213 rfl) (wd hw 214 rfl) (wd hw 215 rfl) (wd hw 216 rfl) (wd hw 217 rfl) (wd hw 218 rfl) (wd hw 219 rfl) (wd hw 220 rfl) (wd hw 221 rfl) (W36 hw) (by decide) (rm_au17_isEmpty l Z a0 EL G p0 h C2.old f_0_2) (fun _ => rfl) rfl e_0 all0 (by decide) (by decide) (by decide) (by decide) (lenOf pd_28295a rfl) rfl (nb rfl) rfl (Y67 7 rfl) (pc' := 37) rfl ?_
  intro vm3 T3 h3 v3 C3 A3 M3 q3
  obtain ⟨rfl, rfl⟩ := q3
  refine C3.fY (pc' := 44) (Y67 8 rfl) (XT.i0_eq_t (by decide)) (by decide) rfl (C3.aL (Y67 11 rfl) rfl rfl ?_)
  refine C3.iface (W := 0) (wd hw 222 rfl) (wd hw 223 rfl) (wd hw 224 rfl) (wd hw 225 rfl) (wd hw 226 rfl) (wd hw 227 rfl) (wd hw 228 rfl) (wd hw 220 rfl) (wd hw 229 rfl) (W36 hw) (by decide) (rm_au18_toArray l Z a0 EL G p0 p1 p2 kp1 h C3.old f_0_1 f_0_2 e_1 w_1 e_2) (fun _ => rfl) rfl e_0 all0 (by decide) (by decide) (by decide) (by decide) (lenOf pd_11 rfl) rfl (nb rfl) rfl (Y67 12 rfl) (pc' := 50) rfl ?_
  intro vm4 T4 h4 v4 C4 A4 M4 q4
  obtain ⟨q0_4, kq0_4, rfl, K4, ge_q0_4, zg_q0_4, E4_0, V4_0, O4_0⟩ := q4
  refine C4.static (W := 0) (wd hw 250 rfl) (wd hw 251 rfl) (wd hw 252 rfl) (wd hw 201 rfl) (by decide) (rm_au21_of l Z a0 EL G q0_4 p2 kq0_4 h4 C4.old V4_0) (fun _ => rfl) rfl all0 (by decide) (by decide) (by decide) (by decide) (lenOf pd_67 rfl) rfl (nb rfl) rfl (Y67 13 rfl) (pc' := 53) rfl ?_
  intro vm11 T11 h11 v11 C11 A11 M11 q11
  obtain ⟨q0_11, rfl, K11, ge_q0_11, zg_q0_11, E11_0, F11_0_0, F11_0_1⟩ := q11
  have KK16 := (kT (kT (kR h []) K4 all0) K11 all0)
  exact C11.retA (t := (.object "java/util/List")) rfl rfl rfl rfl (Y67 14 rfl) (by decide) (by decide) ⟨q0_11, rfl, KK16, (lT K4.1 ge_q0_11), zg_q0_11, E11_0, F11_0_0, F11_0_1⟩
theorem rm_au15_copyOf (G : Glob Z a0 EL) (p0 p1 p2 : Addr) (kp1 : ClassId) (h : Heap) (O : Ext Z.heap h) (e_0 : Exa Z h p0 "java/util/ArrayList") (f_0_1 : Fld Z h p0 "java/util/ArrayList" "elementData" "[Ljava/lang/Object;" (.ref p1)) (f_0_2 : Fld Z h p0 "java/util/ArrayList" "size" "I" (.int 1)) (e_1 : Exa Z h p1 "[Ljava/lang/Object;") (w_1 : Arv Z h p1 kp1 (.object "java/lang/Object") (10 : Int32) [(.ref p2), .null, .null, .null, .null, .null, .null, .null, .null, .null] .null) (e_2 : Exa Z h p2 "java/lang/String") :
    Met l Z EL true ⟨"java/util/List", "copyOf", "(Ljava/util/Collection;)Ljava/util/List;"⟩ jdk_40_method_48_code 1 (some (.object "java/util/List")) [] ⟨7, 2, 3, 88⟩ #[(.ref p0)] h [] (fun r h' => ∃ (q0 : Addr), r = some (.ref q0) ∧ Keep h h' [] ∧ h.size ≤ q0 ∧ Z.heap.size ≤ q0 ∧ Exa Z h' q0 "java/util/ImmutableCollections$List12" ∧ Fld Z h' q0 "java/util/ImmutableCollections$List12" "e0" "Ljava/lang/Object;" (.ref p2) ∧ Fld Z h' q0 "java/util/ImmutableCollections$List12" "e1" "Ljava/lang/Object;" (.ref (sEM Z))) := by
  have hw := G.hw
  refine Met.of (plainFor_of_name pn_6c2f4c697374_28) G.ew O ?_
  intro p e s m below meth c T0 C0 S0
  refine Endw.eq (g' := mkF m 0 #[.val (.ref p0)] []) rfl ?_
  refine C0.aL (Y66 0 rfl) rfl rfl ?_
  refine C0.static (W := 0) (wd hw 203 rfl) (wd hw 204 rfl) (wd hw 206 rfl) (wd hw 205 rfl) (by decide) (rm_au16_listCopy l Z a0 EL G p0 p1 p2 kp1 h C0.old e_0 f_0_1 f_0_2 e_1 w_1 e_2) (fun _ => rfl) rfl all0 (by decide) (by decide) (by decide) (by decide) (lenOf pd_52 rfl) rfl (nb rfl) rfl (Y66 1 rfl) (pc' := 4) rfl ?_
  intro vm1 T1 h1 v1 C1 A1 M1 q1
  obtain ⟨q0_1, rfl, K1, ge_q0_1, zg_q0_1, E1_0, F1_0_0, F1_0_1⟩ := q1
  exact C1.retA (t := (.object "java/util/List")) rfl rfl rfl rfl (Y66 2 rfl) (by decide) (by decide) ⟨q0_1, rfl, K1, ge_q0_1, zg_q0_1, E1_0, F1_0_0, F1_0_1⟩
theorem rm_au26_isEmpty (G : Glob Z a0 EL) (p0 : Addr) (h : Heap) (O : Ext Z.heap h)  :
    Met l Z EL true ⟨"java/util/ImmutableCollections$List12", "isEmpty", "()Z"⟩ jdk_44_method_4_code 1 (some .boolean) [] ⟨0, 0, 0, 0⟩ #[(.ref p0)] h [] (fun r h' => r = some (.int 0) ∧ h = h') := by
  refine Met.of (plainFor_of_name pn_4c6973743132_25) G.ew O ?_
  intro p e s m below meth c T0 C0 S0
  refine Endw.eq (g' := mkF m 0 #[.val (.ref p0)] []) rfl ?_
  refine C0.ic (z := 0) d77_0 rfl ?_
  exact C0.retI (t := .boolean) rfl (by simp) rfl d77_1 (by decide) (by decide) ⟨rfl, rfl⟩
theorem rm_au28_size (G : Glob Z a0 EL) (p0 : Addr) (h : Heap) (O : Ext Z.heap h) (f_0_1 : Fld Z h p0 "java/util/ImmutableCollections$List12" "e1" "Ljava/lang/Object;" (.ref (sEM Z))) :
    Met l Z EL true ⟨"java/util/ImmutableCollections$List12", "size", "()I"⟩ jdk_44_method_3_code 1 (some .int) [] ⟨0, 0, 0, 0⟩ #[(.ref p0)] h [] (fun r h' => r = some (.int 1) ∧ h = h') := by
  have hw := G.hw
  refine Met.of (plainFor_of_name pn_4c6973743132_25) G.ew O ?_
  intro p e s m below meth c T0 C0 S0
  refine Endw.eq (g' := mkF m 0 #[.val (.ref p0)] []) rfl ?_
  refine C0.aL (Y79 0 rfl) rfl rfl ?_
  refine C0.getF (wd hw 281 rfl) f_0_1 (Y79 1 rfl) (pc' := 4) rfl ?_
  intro T1 C1
  refine C1.getSN (wd hw 280 rfl) G.s4 (Y79 2 rfl) (pc' := 7) rfl ?_
  intro T3 C3
  refine Endw.st (T' := T3) (g' := (mkF m 14 #[.val (.ref p0)] [])) (fun _ k_ => XT.acmpYes C3.here C3.hx rfl (pc0 := 7) rfl (C3.dec (Y79 3 rfl)) rfl rfl rfl (XT.aa_eq_t rfl) (by decide) rfl k_) ?_
  refine C3.ic (z := 1) (Y79 4 rfl) rfl ?_
  exact C3.retI (t := .int) rfl (by simp) rfl (Y79 5 rfl) (by decide) (by decide) ⟨rfl, rfl⟩
theorem rm_au29_init (G : Glob Z a0 EL) (p0 p1 : Addr) (h : Heap) (O : Ext Z.heap h) (e_0 : Exa Z h p0 "java/util/ImmutableCollections$ListItr") (f_0_0 : Fld Z h p0 "java/util/ImmutableCollections$ListItr" "cursor" "I" (.int 0)) (f_0_1 : Fld Z h p0 "java/util/ImmutableCollections$ListItr" "isListIterator" "Z" (.int 0)) (f_0_2 : Fld Z h p0 "java/util/ImmutableCollections$ListItr" "list" "Ljava/util/List;" .null) (f_0_3 : Fld Z h p0 "java/util/ImmutableCollections$ListItr" "size" "I" (.int 0)) (z_0 : Z.heap.size ≤ p0) :
    Met l Z EL true ⟨"java/util/ImmutableCollections$ListItr", "<init>", "(Ljava/util/List;I)V"⟩ jdk_53_method_1_code 3 none [] ⟨1, 0, 0, 12⟩ #[(.ref p0), (.ref p1), (.int 1)] h [] (fun r h' => r = none ∧ Keep h h' [p0] ∧ Exa Z h' p0 "java/util/ImmutableCollections$ListItr" ∧ Fld Z h' p0 "java/util/ImmutableCollections$ListItr" "cursor" "I" (.int 0) ∧ Fld Z h' p0 "java/util/ImmutableCollections$ListItr" "isListIterator" "Z" (.int 0) ∧ Fld Z h' p0 "java/util/ImmutableCollections$ListItr" "list" "Ljava/util/List;" (.ref p1) ∧ Fld Z h' p0 "java/util/ImmutableCollections$ListItr" "size" "I" (.int 1)) := by
  have hw := G.hw
  refine Met.of (plainFor_of_name pn_697374497472_26) G.ew O ?_
  intro p e s m below meth c T0 C0 S0
  refine Endw.eq (g' := mkF m 0 #[.val (.ref p0), .val (.ref p1), .val (.int 1)] []) rfl ?_
  refine C0.aL (Y80 0 rfl) rfl rfl ?_
  refine C0.initO (wd hw 313 rfl) (W12 hw) (W13 hw) rfl (Y80 1 rfl) (pc' := 4) rfl (by decide) (W := 0) (nb rfl) (by decide) ?_
  intro T1 C1
  refine C1.aL (Y80 2 rfl) rfl rfl (C1.aL (Y80 3 rfl) rfl rfl ?_)
  refine C1.putF (v := (.ref p1)) (wd hw 314 rfl) f_0_2 e_0 (Or.inr ⟨(W315 hw), rfl, rfl⟩) (W301 hw) (ty := (.object "java/util/List")) (by decide) rfl rfl z_0 (Safe.exa C1.warm.alike e_0 (by decide) (by decide)) (Y80 4 rfl) (pc' := 9) rfl ?_
  intro T2 h2 C2 K2 A2 Wr2
  have f3 := f_0_2.same Wr2
  have f4 := f_0_0.other Wr2 (Or.inr (slot_ne (Or.inl (W319 hw)) (Or.inr (W315 hw)) (by decide) (t := .int) (t' := (.object "java/util/List")) (by decide) (by decide)))
  have f5 := f_0_1.other Wr2 (Or.inr (slot_ne (Or.inr (W321 hw)) (Or.inr (W315 hw)) (by decide) (t := .boolean) (t' := (.object "java/util/List")) (by decide) (by decide)))
  have f6 := f_0_3.other Wr2 (Or.inr (slot_ne (Or.inr (W317 hw)) (Or.inr (W315 hw)) (by decide) (t := .int) (t' := (.object "java/util/List")) (by decide) (by decide)))
  refine C2.aL (Y80 5 rfl) rfl rfl (C2.iL (Y80 6 rfl) rfl ?_)
  have f7 := (e_0.keep K2)
  refine C2.putF (v := (.int 1)) (wd hw 316 rfl) f6 f7 (Or.inr ⟨(W317 hw), rfl, rfl⟩) (W301 hw) (ty := .int) (by decide) rfl rfl z_0 (Safe.exa C2.warm.alike f7 (by decide) (by decide)) (Y80 7 rfl) (pc' := 14) rfl ?_
  intro T8 h8 C8 K8 A8 Wr8
  have f9 := f6.same Wr8
  have f10 := f4.other Wr8 (Or.inr (slot_ne (Or.inl (W319 hw)) (Or.inr (W317 hw)) (by decide) (t := .int) (t' := .int) (by decide) (by decide)))
  have f11 := f5.other Wr8 (Or.inr (slot_ne (Or.inr (W321 hw)) (Or.inr (W317 hw)) (by decide) (t := .boolean) (t' := .int) (by decide) (by decide)))
  have f12 := f3.other Wr8 (Or.inr (slot_ne (Or.inr (W315 hw)) (Or.inr (W317 hw)) (by decide) (t := (.object "java/util/List")) (t' := .int) (by decide) (by decide)))
  refine C8.aL (Y80 8 rfl) rfl rfl (C8.ic (z := 0) (Y80 9 rfl) rfl ?_)
  have f13 := (f7.keep K8)
  refine C8.putF (v := (.int 0)) (W318 hw) f10 f13 (Or.inl (W319 hw)) (W301 hw) (ty := .int) (by decide) rfl rfl z_0 (Safe.exa C8.warm.alike f13 (by decide) (by decide)) (Y80 10 rfl) (pc' := 19) rfl ?_
  intro T14 h14 C14 K14 A14 Wr14
  have f15 := f10.same Wr14
  have f16 := f11.other Wr14 (Or.inr (slot_ne (Or.inr (W321 hw)) (Or.inl (W319 hw)) (by decide) (t := .boolean) (t' := .int) (by decide) (by decide)))
  have f17 := f12.other Wr14 (Or.inr (slot_ne (Or.inr (W315 hw)) (Or.inl (W319 hw)) (by decide) (t := (.object "java/util/List")) (t' := .int) (by decide) (by decide)))
  have f18 := f9.other Wr14 (Or.inr (slot_ne (Or.inr (W317 hw)) (Or.inl (W319 hw)) (by decide) (t := .int) (t' := .int) (by decide) (by decide)))
  refine C14.aL (Y80 11 rfl) rfl rfl (C14.ic (z := 0) (Y80 12 rfl) rfl ?_)
  have f19 := (f13.keep K14)
  refine C14.putF (v := (.int 0)) (wd hw 320 rfl) f16 f19 (Or.inr ⟨(W321 hw), rfl, rfl⟩) (W301 hw) (ty := .boolean) (by decide) rfl rfl z_0 (Safe.exa C14.warm.alike f19 (by decide) (by decide)) (Y80 13 rfl) (pc' := 24) rfl ?_
  intro T20 h20 C20 K20 A20 Wr20
  have f21 := f16.same Wr20
  have f22 := f15.other Wr20 (Or.inr (slot_ne (Or.inl (W319 hw)) (Or.inr (W321 hw)) (by decide) (t := .int) (t' := .boolean) (by decide) (by decide)))
  have f23 := f17.other Wr20 (Or.inr (slot_ne (Or.inr (W315 hw)) (Or.inr (W321 hw)) (by decide) (t := (.object "java/util/List")) (t' := .boolean) (by decide) (by decide)))
  have f24 := f18.other Wr20 (Or.inr (slot_ne (Or.inr (W317 hw)) (Or.inr (W321 hw)) (by decide) (t := .int) (t' := .boolean) (by decide) (by decide)))
  have f25 := (f19.keep K20)
  have KK26 := (kT (kT (kT (kT (kR h [p0]) K2 (allS m0 all0)) K8 (allS m0 all0)) K14 (allS m0 all0)) K20 (allS m0 all0))
  exact C20.retV (Y80 14 rfl) (by decide) (by decide) ⟨rfl, KK26, f25, f22, f21, f23, f24⟩
theorem rm_au27_iterator (G : Glob Z a0 EL) (p0 : Addr) (h : Heap) (O : Ext Z.heap h) (e_0 : Exa Z h p0 "java/util/ImmutableCollections$List12") (f_0_1 : Fld Z h p0 "java/util/ImmutableCollections$List12" "e1" "Ljava/lang/Object;" (.ref (sEM Z))) :
    Met l Z EL true ⟨"java/util/ImmutableCollections$AbstractImmutableList", "iterator", "()Ljava/util/Iterator;"⟩ jdk_46_method_10_code 1 (some (.object "java/util/Iterator")) [] ⟨2, 1, 4, 27⟩ #[(.ref p0)] h [] (fun r h' => ∃ (q0 : Addr), r = some (.ref q0) ∧ Keep h h' [] ∧ h.size ≤ q0 ∧ Z.heap.size ≤ q0 ∧ Exa Z h' q0 "java/util/ImmutableCollections$ListItr" ∧ Fld Z h' q0 "java/util/ImmutableCollections$ListItr" "cursor" "I" (.int 0) ∧ Fld Z h' q0 "java/util/ImmutableCollections$ListItr" "isListIterator" "Z" (.int 0) ∧ Fld Z h' q0 "java/util/ImmutableCollections$ListItr" "list" "Ljava/util/List;" (.ref p0) ∧ Fld Z h' q0 "java/util/ImmutableCollections$ListItr" "size" "I" (.int 1)) := by
  have hw := G.hw
  refine Met.of (plainFor_of_name pn_6c654c697374_24) G.ew O ?_
  intro p e s m below meth c T0 C0 S0
  refine Endw.eq (g' := mkF m 0 #[.val (.ref p0)] []) rfl ?_
  refine C0.new (wd hw 300 rfl) (W301 hw) (W302 hw) (Y78 0 rfl) (pc' := 3) rfl (by decide) (by decide) ?_
  intro T1 h1 a1 C1 K1 A1 ge1 zg1 E1 D1 S1
  refine C1.du (Y78 1 rfl) rfl (C1.aL (Y78 2 rfl) rfl rfl (C1.aL (Y78 3 rfl) rfl rfl ?_))
  have f2 := (e_0.keep K1)
  have f4 := (f_0_1.keep K1 nin0)
  refine C1.virtualUp (ow := "java/util/AbstractCollection") (W := 3) (wd hw 303 rfl) (wd hw 304 rfl) (wd hw 305 rfl) (by decide) (wd hw 306 rfl) (wd hw 307 rfl) (wd hw 308 rfl) (W255 hw) (rm_au28_size l Z a0 EL G p0 h1 C1.old f4) (fun _ => rfl) rfl f2 all0 (by decide) (by decide) (by decide) (by decide) (lenOf pd_282949 rfl) rfl (nb rfl) rfl (Y78 4 rfl) (pc' := 9) rfl ?_
  intro vm10 T10 h10 v10 C10 A10 M10 q10
  obtain ⟨rfl, rfl⟩ := q10
  have f11 : Fld Z h1 a1 "java/util/ImmutableCollections$ListItr" "list" "Ljava/util/List;" .null := D1 (Or.inr (W315 hw)) (ty := (.object "java/util/List")) (by decide)
  have f12 : Fld Z h1 a1 "java/util/ImmutableCollections$ListItr" "size" "I" (.int 0) := D1 (Or.inr (W317 hw)) (ty := .int) (by decide)
  have f13 : Fld Z h1 a1 "java/util/ImmutableCollections$ListItr" "cursor" "I" (.int 0) := D1 (Or.inl (W319 hw)) (ty := .int) (by decide)
  have f14 : Fld Z h1 a1 "java/util/ImmutableCollections$ListItr" "isListIterator" "Z" (.int 0) := D1 (Or.inr (W321 hw)) (ty := .boolean) (by decide)
  refine C10.special (y := ⟨"java/util/ImmutableCollections$ListItr", "<init>", "(Ljava/util/List;I)V"⟩) (W := 1) rfl (wd hw 309 rfl) (wd hw 310 rfl) (wd hw 312 rfl) (W302 hw) (by decide) (rm_au29_init l Z a0 EL G a1 p0 h1 C10.old E1 f13 f14 f11 f12 zg1) (fun _ => rfl) rfl all0 (by decide) (by decide) (by decide) (by decide) (lenOf pd_53 rfl) rfl (nb rfl) rfl (Y78 5 rfl) (pc' := 12) rfl ?_
  intro vm16 T16 h16 v16 C16 A16 M16 q16
  obtain ⟨rfl, K16, E16_0, F16_0_0, F16_0_1, F16_0_2, F16_0_3⟩ := q16
  have KK26 := (kT (kT (kR h []) K1 all0) K16 (allS (Or.inr ge1) all0))
  exact C16.retA (t := (.object "java/util/Iterator")) rfl rfl rfl rfl (Y78 6 rfl) (by decide) (by decide) ⟨a1, rfl, KK26, ge1, zg1, E16_0, F16_0_0, F16_0_1, F16_0_2, F16_0_3⟩
theorem rm_au30_hasNext (G : Glob Z a0 EL) (p0 : Addr) (h : Heap) (O : Ext Z.heap h) (f_0_0 : Fld Z h p0 "java/util/ImmutableCollections$ListItr" "cursor" "I" (.int 0)) (f_0_3 : Fld Z h p0 "java/util/ImmutableCollections$ListItr" "size" "I" (.int 1)) :
    Met l Z EL true ⟨"java/util/ImmutableCollections$ListItr", "hasNext", "()Z"⟩ jdk_53_method_3_code 1 (some .boolean) [] ⟨0, 0, 0, 0⟩ #[(.ref p0)] h [] (fun r h' => r = some (.int 1) ∧ h = h') := by
  have hw := G.hw
  refine Met.of (plainFor_of_name pn_697374497472_26) G.ew O ?_
  intro p e s m below meth c T0 C0 S0
  refine Endw.eq (g' := mkF m 0 #[.val (.ref p0)] []) rfl ?_
  refine C0.aL (Y81 0 rfl) rfl rfl ?_
  refine C0.getF (W318 hw) f_0_0 (Y81 1 rfl) (pc' := 4) rfl ?_
  intro T1 C1
  refine C1.aL (Y81 2 rfl) rfl rfl ?_
  refine C1.getF (wd hw 316 rfl) f_0_3 (Y81 3 rfl) (pc' := 8) rfl ?_
  intro T2 C2
  refine C2.cN (Y81 4 rfl) (XT.ii_eq_f (by decide)) (C2.ic (z := 1) (Y81 5 rfl) rfl (C2.go (pc' := 16) (Y81 6 rfl) (by decide) rfl ?_))
  exact C2.retI (t := .boolean) rfl (by simp) rfl (Y81 8 rfl) (by decide) (by decide) ⟨rfl, rfl⟩
theorem rm_au32_get (G : Glob Z a0 EL) (p0 p1 : Addr) (h : Heap) (O : Ext Z.heap h) (f_0_0 : Fld Z h p0 "java/util/ImmutableCollections$List12" "e0" "Ljava/lang/Object;" (.ref p1)) :
    Met l Z EL true ⟨"java/util/ImmutableCollections$List12", "get", "(I)Ljava/lang/Object;"⟩ jdk_44_method_5_code 2 (some (.object "java/lang/Object")) [] ⟨0, 0, 0, 0⟩ #[(.ref p0), (.int 0)] h [] (fun r h' => r = some (.ref p1) ∧ h = h') := by
  have hw := G.hw
  refine Met.of (plainFor_of_name pn_4c6973743132_25) G.ew O ?_
  intro p e s m below meth c T0 C0 S0
  refine Endw.eq (g' := mkF m 0 #[.val (.ref p0), .val (.int 0)] []) rfl ?_
  refine C0.iL (Y83 0 rfl) rfl (C0.fN (Y83 1 rfl) (XT.i0_ne_f (by decide)) (C0.aL (Y83 2 rfl) rfl rfl ?_))
  refine C0.getF (wd hw 278 rfl) f_0_0 (Y83 3 rfl) (pc' := 8) rfl ?_
  intro T1 C1
  exact C1.retA (t := (.object "java/lang/Object")) rfl rfl rfl rfl (Y83 4 rfl) (by decide) (by decide) ⟨rfl, rfl⟩
theorem rm_au31_next (G : Glob Z a0 EL) (p0 p1 p2 : Addr) (h : Heap) (O : Ext Z.heap h) (e_0 : Exa Z h p0 "java/util/ImmutableCollections$ListItr") (f_0_0 : Fld Z h p0 "java/util/ImmutableCollections$ListItr" "cursor" "I" (.int 0)) (f_0_1 : Fld Z h p0 "java/util/ImmutableCollections$ListItr" "isListIterator" "Z" (.int 0)) (f_0_2 : Fld Z h p0 "java/util/ImmutableCollections$ListItr" "list" "Ljava/util/List;" (.ref p1)) (f_0_3 : Fld Z h p0 "java/util/ImmutableCollections$ListItr" "size" "I" (.int 1)) (z_0 : Z.heap.size ≤ p0) (e_1 : Exa Z h p1 "java/util/ImmutableCollections$List12") (f_1_0 : Fld Z h p1 "java/util/ImmutableCollections$List12" "e0" "Ljava/lang/Object;" (.ref p2)) :
    MetH l Z EL ⟨"java/util/ImmutableCollections$ListItr", "next", "()Ljava/lang/Object;"⟩ jdk_53_method_4_code 3 (some (.object "java/lang/Object")) [((0 : Nat), (24 : Nat), (25 : Nat), (30 : Nat))] ⟨1, 0, 0, 13⟩ #[(.ref p0)] h [] (fun r h' => r = some (.ref p2) ∧ Keep h h' [p0] ∧ Exa Z h' p0 "java/util/ImmutableCollections$ListItr" ∧ Fld Z h' p0 "java/util/ImmutableCollections$ListItr" "cursor" "I" (.int 1) ∧ Fld Z h' p0 "java/util/ImmutableCollections$ListItr" "isListIterator" "Z" (.int 0) ∧ Fld Z h' p0 "java/util/ImmutableCollections$ListItr" "list" "Ljava/util/List;" (.ref p1) ∧ Fld Z h' p0 "java/util/ImmutableCollections$ListItr" "size" "I" (.int 1)) := by
  have hw := G.hw
  refine MetH.of (plainFor_of_name pn_697374497472_26) G.ew O ?_
  intro p e s m below meth c T0 C0 S0
  refine Endw.eq (g' := mkF m 0 #[.val (.ref p0), .unset, .unset] []) rfl ?_
  refine C0.aL (Y82 0 rfl) rfl rfl ?_
  refine C0.getF (W318 hw) f_0_0 (Y82 1 rfl) (pc' := 4) rfl ?_
  intro T1 C1
  refine C1.iS (Y82 2 rfl) (l' := #[.val (.ref p0), .val (.int 0), .unset]) rfl (C1.aL (Y82 3 rfl) rfl rfl ?_)
  refine C1.getF (wd hw 314 rfl) f_0_2 (Y82 4 rfl) (pc' := 9) rfl ?_
  intro T2 C2
  refine C2.iL (Y82 5 rfl) rfl ?_
  refine C2.iface (W := 0) (wd hw 339 rfl) (wd hw 340 rfl) (wd hw 341 rfl) (wd hw 342 rfl) (wd hw 343 rfl) (wd hw 344 rfl) (wd hw 345 rfl) (W290 hw) (wd hw 346 rfl) (W255 hw) (by decide) (rm_au32_get l Z a0 EL G p1 p2 h C2.old f_1_0) (fun _ => rfl) rfl e_1 all0 (by decide) (by decide) (by decide) (by decide) (lenOf pd_19 rfl) rfl (nb rfl) rfl (Y82 6 rfl) (pc' := 15) rfl ?_
  intro vm3 T3 h3 v3 C3 A3 M3 q3
  obtain ⟨rfl, rfl⟩ := q3
  refine C3.aS (Y82 7 rfl) rfl (l' := #[.val (.ref p0), .val (.int 0), .val (.ref p2)]) rfl (C3.aL (Y82 8 rfl) rfl rfl (C3.iL (Y82 9 rfl) rfl (C3.ic (z := 1) (Y82 10 rfl) rfl (C3.ad (z := 1) (Y82 11 rfl) rfl ?_))))
  refine C3.putF (v := (.int 1)) (W318 hw) f_0_0 e_0 (Or.inl (W319 hw)) (W301 hw) (ty := .int) (by decide) rfl rfl z_0 (Safe.exa C3.warm.alike e_0 (by decide) (by decide)) (Y82 12 rfl) (pc' := 23) rfl ?_
  intro T4 h4 C4 K4 A4 Wr4
  have f5 := f_0_0.same Wr4
  have f6 := f_0_1.other Wr4 (Or.inr (slot_ne (Or.inr (W321 hw)) (Or.inl (W319 hw)) (by decide) (t := .boolean) (t' := .int) (by decide) (by decide)))
  have f7 := f_0_2.other Wr4 (Or.inr (slot_ne (Or.inr (W315 hw)) (Or.inl (W319 hw)) (by decide) (t := (.object "java/util/List")) (t' := .int) (by decide) (by decide)))
  have f8 := f_0_3.other Wr4 (Or.inr (slot_ne (Or.inr (W317 hw)) (Or.inl (W319 hw)) (by decide) (t := .int) (t' := .int) (by decide) (by decide)))
  refine C4.aL (Y82 13 rfl) rfl rfl ?_
  have f13 := (e_0.keep K4)
  exact C4.retA (t := (.object "java/lang/Object")) rfl rfl rfl rfl (Y82 14 rfl) (by decide) (by decide) ⟨rfl, K4, f13, f5, f6, f7, f8⟩
theorem rm_au33_hasNext (G : Glob Z a0 EL) (p0 : Addr) (h : Heap) (O : Ext Z.heap h) (f_0_0 : Fld Z h p0 "java/util/ImmutableCollections$ListItr" "cursor" "I" (.int 1)) (f_0_3 : Fld Z h p0 "java/util/ImmutableCollections$ListItr" "size" "I" (.int 1)) :
    Met l Z EL true ⟨"java/util/ImmutableCollections$ListItr", "hasNext", "()Z"⟩ jdk_53_method_3_code 1 (some .boolean) [] ⟨0, 0, 0, 0⟩ #[(.ref p0)] h [] (fun r h' => r = some (.int 0) ∧ h = h') := by
  have hw := G.hw
  refine Met.of (plainFor_of_name pn_697374497472_26) G.ew O ?_
  intro p e s m below meth c T0 C0 S0
  refine Endw.eq (g' := mkF m 0 #[.val (.ref p0)] []) rfl ?_
  refine C0.aL (Y81 0 rfl) rfl rfl ?_
  refine C0.getF (W318 hw) f_0_0 (Y81 1 rfl) (pc' := 4) rfl ?_
  intro T1 C1
  refine C1.aL (Y81 2 rfl) rfl rfl ?_
  refine C1.getF (wd hw 316 rfl) f_0_3 (Y81 3 rfl) (pc' := 8) rfl ?_
  intro T2 C2
  refine C2.cY (pc' := 15) (Y81 4 rfl) (XT.ii_eq_t (by decide)) (by decide) rfl (C2.ic (z := 0) (Y81 7 rfl) rfl ?_)
  exact C2.retI (t := .boolean) rfl (by simp) rfl (Y81 8 rfl) (by decide) (by decide) ⟨rfl, rfl⟩
theorem rm_au7_init (G : Glob Z a0 EL) (p0 p1 p2 p3 p4 p5 p6 : Addr) (kp3 kp4 kp6 : ClassId) (h : Heap) (O : Ext Z.heap h) (e_0 : Exa Z h p0 "com/example/dique/dique/model/Level") (f_0_0 : Fld Z h p0 "com/example/dique/dique/model/Level" "columns" "Ljava/util/List;" .null) (f_0_1 : Fld Z h p0 "com/example/dique/dique/model/Level" "name" "Ljava/lang/String;" .null) (z_0 : Z.heap.size ≤ p0) (e_1 : Exa Z h p1 "java/lang/String") (f_1_0 : Fld Z h p1 "java/lang/String" "coder" "B" (.int 0)) (f_1_1 : Fld Z h p1 "java/lang/String" "value" "[B" (.ref p3)) (e_2 : Exa Z h p2 "java/util/ArrayList") (f_2_1 : Fld Z h p2 "java/util/ArrayList" "elementData" "[Ljava/lang/Object;" (.ref p4)) (f_2_2 : Fld Z h p2 "java/util/ArrayList" "size" "I" (.int 1)) (w_3 : Arv Z h p3 kp3 .byte (1 : Int32) (bys [(108 : Int32)]) (.int 0)) (e_4 : Exa Z h p4 "[Ljava/lang/Object;") (w_4 : Arv Z h p4 kp4 (.object "java/lang/Object") (10 : Int32) [(.ref p5), .null, .null, .null, .null, .null, .null, .null, .null, .null] .null) (e_5 : Exa Z h p5 "java/lang/String") (w_6 : Arv Z h p6 kp6 .byte (1 : Int32) (bys [(99 : Int32)]) (.int 0)) (s_1 : Str Z h p1 p3 kp3 [(108 : Int32)]) (s_5 : Str Z h p5 p6 kp6 [(99 : Int32)]) :
    Met l Z EL false ⟨"com/example/dique/dique/model/Level", "<init>", "(Ljava/lang/String;Ljava/util/List;)V"⟩ prog_14_method_1_code 5 none [] ⟨8, 12, 231, 100⟩ #[(.ref p0), (.ref p1), (.ref p2)] h [] (fun r h' => ∃ (q0 : Addr), r = none ∧ Keep h h' [p0] ∧ h.size ≤ q0 ∧ Z.heap.size ≤ q0 ∧ Exa Z h' p0 "com/example/dique/dique/model/Level" ∧ Fld Z h' p0 "com/example/dique/dique/model/Level" "columns" "Ljava/util/List;" (.ref q0) ∧ Fld Z h' p0 "com/example/dique/dique/model/Level" "name" "Ljava/lang/String;" (.ref p1) ∧ Exa Z h' q0 "java/util/ImmutableCollections$List12" ∧ Fld Z h' q0 "java/util/ImmutableCollections$List12" "e0" "Ljava/lang/Object;" (.ref p5) ∧ Fld Z h' q0 "java/util/ImmutableCollections$List12" "e1" "Ljava/lang/Object;" (.ref (sEM Z))) := by
  have hw := G.hw
  refine Met.of (plainFor_of_name pn_2f4c6576656c_1) G.ew O ?_
  intro p e s m below meth c T0 C0 S0
  refine Endw.eq (g' := mkF m 0 #[.val (.ref p0), .val (.ref p1), .val (.ref p2), .unset, .unset] []) rfl ?_
  refine C0.aL (Y58 0 rfl) rfl rfl ?_
  refine C0.special (y := ⟨"java/lang/Record", "<init>", "()V"⟩) (W := 0) rfl (wd hw 99 rfl) (wd hw 100 rfl) (wd hw 103 rfl) (wd hw 102 rfl) (by decide) (rm_au8_init l Z a0 EL G p0 h C0.old ) (fun _ => rfl) rfl all0 (by decide) (by decide) (by decide) (by decide) (lenOf pd_282956 rfl) rfl (nb rfl) rfl (Y58 1 rfl) (pc' := 4) rfl ?_
  intro vm1 T1 h1 v1 C1 A1 M1 q1
  obtain ⟨rfl, rfl⟩ := q1
  refine C1.ldcC (N := 40) (vs := (bys [(108 : Int32), (101 : Int32), (118 : Int32), (101 : Int32), (108 : Int32), (32 : Int32), (110 : Int32), (97 : Int32), (109 : Int32), (101 : Int32)])) (z := (10 : Int32)) (W105 hw) G.wS (by rw [G.el]; decide) ⟨by decide, by decide⟩ (by decide) (by decide) (by decide) (by decide) (by decide) (by decide) (Y58 2 rfl) (pc' := 6) rfl rfl ?_
  intro vm2 T2 h2 a2 b2 kA2 C2 K2 A2 E2 F2 f2 V2 r2
  have Z2 : Str Z h2 a2 b2 kA2 [(108 : Int32), (101 : Int32), (118 : Int32), (101 : Int32), (108 : Int32), (32 : Int32), (110 : Int32), (97 : Int32), (109 : Int32), (101 : Int32)] := ⟨E2, F2, f2, V2, (own_cS ⟨by decide, by decide⟩ (own_cS ⟨by decide, by decide⟩ (own_cS ⟨by decide, by decide⟩ (own_cS ⟨by decide, by decide⟩ (own_cS ⟨by decide, by decide⟩ (own_cS ⟨by decide, by decide⟩ (own_cS ⟨by decide, by decide⟩ (own_cS ⟨by decide, by decide⟩ (own_cS ⟨by decide, by decide⟩ (own_cS ⟨by decide, by decide⟩ own_c0)))))))))), by decide⟩
  refine C2.aL (Y58 3 rfl) rfl rfl ?_
  have f3 := (e_1.keep K2)
  have f4 := (f_1_0.keep K2 nin0)
  have f5 := (f_1_1.keep K2 nin0)
  have f6 := (w_3.keep K2 nin0)
  have f7 := (s_1.keep K2 nin0 nin0)
  refine C2.static (W := 0) (wd hw 106 rfl) (wd hw 107 rfl) (wd hw 109 rfl) (W108 hw) (by decide) (rm_au9_requirePart l Z a0 EL G a2 p1 p3 kp3 h2 C2.old f3 f4 f5 f6 f7) (fun _ => rfl) rfl all0 (by decide) (by decide) (by decide) (by decide) (lenOf pd_47 rfl) rfl (nb rfl) rfl (Y58 4 rfl) (pc' := 10) rfl ?_
  intro vm10 T10 h10 v10 C10 A10 M10 q10
  obtain ⟨rfl, rfl⟩ := q10
  refine C10.aL (Y58 5 rfl) rfl rfl ?_
  have f11 := (e_2.keep K2)
  have f13 := (f_2_1.keep K2 nin0)
  have f14 := (f_2_2.keep K2 nin0)
  have f15 := (e_4.keep K2)
  have f16 := (w_4.keep K2 nin0)
  have f17 := (e_5.keep K2)
  have f21 := (s_5.keep K2 nin0 nin0)
  refine C10.static (W := 0) (wd hw 199 rfl) (wd hw 200 rfl) (wd hw 202 rfl) (wd hw 201 rfl) (by decide) (rm_au15_copyOf l Z a0 EL G p2 p4 p5 kp4 h2 C10.old f11 f13 f14 f15 f16 f17) (fun _ => rfl) rfl all0 (by decide) (by decide) (by decide) (by decide) (lenOf pd_52 rfl) rfl (nb rfl) rfl (Y58 6 rfl) (pc' := 14) rfl ?_
  intro vm22 T22 h22 v22 C22 A22 M22 q22
  obtain ⟨q0_22, rfl, K22, ge_q0_22, zg_q0_22, E22_0, F22_0_0, F22_0_1⟩ := q22
  refine C22.aS (Y58 7 rfl) rfl (l' := #[.val (.ref p0), .val (.ref p1), .val (.ref q0_22), .unset, .unset]) rfl (C22.aL (Y58 8 rfl) rfl rfl ?_)
  have f23 := (f17.keep K22)
  have f27 := (f21.keep K22 nin0 nin0)
  refine C22.iface (W := 0) (wd hw 283 rfl) (wd hw 284 rfl) (wd hw 285 rfl) (wd hw 286 rfl) (wd hw 287 rfl) (wd hw 288 rfl) (wd hw 289 rfl) (W290 hw) (wd hw 291 rfl) (W255 hw) (by decide) (rm_au26_isEmpty l Z a0 EL G q0_22 h22 C22.old ) (fun _ => rfl) rfl E22_0 all0 (by decide) (by decide) (by decide) (by decide) (lenOf pd_28295a rfl) rfl (nb rfl) rfl (Y58 9 rfl) (pc' := 21) rfl ?_
  intro vm29 T29 h29 v29 C29 A29 M29 q29
  obtain ⟨rfl, rfl⟩ := q29
  refine C29.fY (pc' := 56) (Y58 10 rfl) (XT.i0_eq_t (by decide)) (by decide) rfl (C29.aL (Y58 11 rfl) rfl rfl ?_)
  refine C29.iface (W := 0) (wd hw 292 rfl) (wd hw 293 rfl) (wd hw 294 rfl) (wd hw 295 rfl) (wd hw 296 rfl) (wd hw 297 rfl) (wd hw 298 rfl) (W290 hw) (wd hw 299 rfl) (wd hw 264 rfl) (by decide) (rm_au27_iterator l Z a0 EL G q0_22 h22 C29.old E22_0 F22_0_1) (fun _ => rfl) rfl E22_0 all0 (by decide) (by decide) (by decide) (by decide) (lenOf pd_6 rfl) rfl (nb rfl) rfl (Y58 12 rfl) (pc' := 62) rfl ?_
  intro vm30 T30 h30 v30 C30 A30 M30 q30
  obtain ⟨q0_30, rfl, K30, ge_q0_30, zg_q0_30, E30_0, F30_0_0, F30_0_1, F30_0_2, F30_0_3⟩ := q30
  refine C30.aS (Y58 13 rfl) rfl (l' := #[.val (.ref p0), .val (.ref p1), .val (.ref q0_22), .val (.ref q0_30), .unset]) rfl (C30.aL (Y58 14 rfl) rfl rfl ?_)
  have f31 := (E22_0.keep K30)
  have f32 := (F22_0_0.keep K30 nin0)
  have f33 := (F22_0_1.keep K30 nin0)
  have f34 := (f23.keep K30)
  have f38 := (f27.keep K30 nin0 nin0)
  have ne39 : q0_30 ≠ p6 := (Ne.symm (nL (lL (lL w_6.lt (lT K2.1 K22.1)) ge_q0_30)))
  refine C30.iface (W := 0) (wd hw 322 rfl) (W323 hw) (W324 hw) (W325 hw) (W326 hw) (W327 hw) (W328 hw) (W329 hw) (W330 hw) (W302 hw) (by decide) (rm_au30_hasNext l Z a0 EL G q0_30 h30 C30.old F30_0_0 F30_0_3) (fun _ => rfl) rfl E30_0 all0 (by decide) (by decide) (by decide) (by decide) (lenOf pd_28295a rfl) rfl (nb rfl) rfl (Y58 15 rfl) (pc' := 69) rfl ?_
  intro vm40 T40 h40 v40 C40 A40 M40 q40
  obtain ⟨rfl, rfl⟩ := q40
  refine C40.fN (Y58 16 rfl) (XT.i0_eq_f (by decide)) (C40.aL (Y58 17 rfl) rfl rfl ?_)
  have f42 := (A40.safe E30_0.lt (own_safe_new (M30 rfl) ge_q0_30))
  refine C40.ifaceH (W := 0) (ws := [q0_30]) (wd hw 331 rfl) (wd hw 332 rfl) (wd hw 333 rfl) (wd hw 334 rfl) (wd hw 335 rfl) (wd hw 336 rfl) (wd hw 337 rfl) (W329 hw) (wd hw 338 rfl) (W302 hw) (by decide) (rm_au31_next l Z a0 EL G q0_30 q0_22 p5 h30 C40.old E30_0 F30_0_0 F30_0_1 F30_0_2 F30_0_3 zg_q0_30 f31 f32) (fun v h' q => q.2.1) (allS zg_q0_30 all0) (sfS f42 sf0) rfl E30_0 all0 (by decide) (by decide) (by decide) (by decide) (lenOf pd_4 rfl) rfl (nb rfl) rfl (Y58 18 rfl) (pc' := 78) rfl ?_
  intro T41 h41 v41 C41 A41 q41
  obtain ⟨rfl, K41, E41_0, F41_0_0, F41_0_1, F41_0_2, F41_0_3⟩ := q41
  have f44 := (f34.keep K41)
  refine C41.castY (wd hw 347 rfl) (Ins.self f44) (Y58 19 rfl) (pc' := 81) rfl ?_
  intro T43 C43
  refine C43.aSk (Y58 20 rfl) rfl (l' := #[.val (.ref p0), .val (.ref p1), .val (.ref q0_22), .val (.ref q0_30), .val (.ref p5)]) rfl ?_
  refine C43.new (wd hw 348 rfl) (W349 hw) (W350 hw) (Y58 21 rfl) (pc' := 86) rfl (by decide) (by decide) ?_
  intro T45 h45 a45 C45 K45 A45 ge45 zg45 E45 D45 S45
  refine C45.du (Y58 22 rfl) rfl ?_
  have f46 : Fld Z h45 a45 "java/lang/AbstractStringBuilder" "value" "[B" .null := D45 (Or.inl (W363 hw)) (ty := (.array .byte)) (by decide)
  have f47 : Fld Z h45 a45 "java/lang/AbstractStringBuilder" "coder" "B" (.int 0) := D45 (Or.inl (W365 hw)) (ty := .byte) (by decide)
  have f48 : Fld Z h45 a45 "java/lang/AbstractStringBuilder" "count" "I" (.int 0) := D45 (Or.inl (W379 hw)) (ty := .int) (by decide)
  refine C45.special (y := ⟨"java/lang/StringBuilder", "<init>", "()V"⟩) (W := 1) rfl (wd hw 351 rfl) (wd hw 352 rfl) (wd hw 353 rfl) (W350 hw) (by decide) (rm_sbInit l Z a0 EL G a45 h45 C45.old E45 f46 f47 f48 zg45) (fun _ => rfl) rfl all0 (by decide) (by decide) (by decide) (by decide) (lenOf pd_282956 rfl) rfl (nb rfl) rfl (Y58 23 rfl) (pc' := 90) rfl ?_
  intro vm49 T49 h49 v49 C49 A49 M49 q49
  obtain ⟨rfl, t49, kb49, K49, ge49, zg49, Z49⟩ := q49
  refine C49.ldcC (N := 72) (vs := (bys [(97 : Int32), (32 : Int32), (99 : Int32), (111 : Int32), (108 : Int32), (117 : Int32), (109 : Int32), (110 : Int32), (32 : Int32), (111 : Int32), (102 : Int32), (32 : Int32), (108 : Int32), (101 : Int32), (118 : Int32), (101 : Int32), (108 : Int32), (32 : Int32)])) (z := (18 : Int32)) (W366 hw) G.wS (by rw [G.el]; decide) ⟨by decide, by decide⟩ (by decide) (by decide) (by decide) (by decide) (by decide) (by decide) (Y58 24 rfl) (pc' := 92) rfl rfl ?_
  intro vm50 T50 h50 a50 b50 kA50 C50 K50 A50 E50 F50 f50 V50 r50
  have Z50 : Str Z h50 a50 b50 kA50 [(97 : Int32), (32 : Int32), (99 : Int32), (111 : Int32), (108 : Int32), (117 : Int32), (109 : Int32), (110 : Int32), (32 : Int32), (111 : Int32), (102 : Int32), (32 : Int32), (108 : Int32), (101 : Int32), (118 : Int32), (101 : Int32), (108 : Int32), (32 : Int32)] := ⟨E50, F50, f50, V50, (own_cS ⟨by decide, by decide⟩ (own_cS ⟨by decide, by decide⟩ (own_cS ⟨by decide, by decide⟩ (own_cS ⟨by decide, by decide⟩ (own_cS ⟨by decide, by decide⟩ (own_cS ⟨by decide, by decide⟩ (own_cS ⟨by decide, by decide⟩ (own_cS ⟨by decide, by decide⟩ (own_cS ⟨by decide, by decide⟩ (own_cS ⟨by decide, by decide⟩ (own_cS ⟨by decide, by decide⟩ (own_cS ⟨by decide, by decide⟩ (own_cS ⟨by decide, by decide⟩ (own_cS ⟨by decide, by decide⟩ (own_cS ⟨by decide, by decide⟩ (own_cS ⟨by decide, by decide⟩ (own_cS ⟨by decide, by decide⟩ (own_cS ⟨by decide, by decide⟩ own_c0)))))))))))))))))), by decide⟩
  have f55 := (Z49.keep K50 nin0 nin0)
  have f57 := (Z49.1.keep K50)
  refine C50.virtual (W := 0) (wd hw 367 rfl) (W368 hw) (fun _ q => notFace_of_selects (args := #[]) (mvT q (W370 hw))) (W370 hw) (W369 hw) (W371 hw) (W350 hw) (by decide) (rm_sbAppendG l Z a0 EL G a45 t49 kb49 [] 16 a50 b50 kA50 [(97 : Int32), (32 : Int32), (99 : Int32), (111 : Int32), (108 : Int32), (117 : Int32), (109 : Int32), (110 : Int32), (32 : Int32), (111 : Int32), (102 : Int32), (32 : Int32), (108 : Int32), (101 : Int32), (118 : Int32), (101 : Int32), (108 : Int32), (32 : Int32)] 34 h50 C50.old f55 Z50 (nb rfl) ⟨Nat.le_of_ble_eq_true rfl, rfl⟩ (by decide) zg45) (fun _ => rfl) rfl f57 all0 (by decide) (by decide) (by decide) (by decide) (lenOf pd_44 rfl) rfl (nb rfl) rfl (Y58 25 rfl) (pc' := 95) rfl ?_
  intro vm56 T56 h56 v56 C56 A56 M56 q56
  obtain ⟨rfl, t56, kb56, K56, ge56, zg56, Z56⟩ := q56
  refine C56.aL (Y58 26 rfl) rfl rfl ?_
  have KK58 := (kT (kT (kT (kT (kT (kT (kT (kR h2 []) K22 all0) K30 all0) K41 (allS (Or.inr (lT K22.1 ge_q0_30)) all0)) K45 all0) K49 (allS (Or.inr (lT (lT K22.1 (lT K30.1 K41.1)) ge45)) all0)) K50 all0) K56 (allS (Or.inr (lT (lT K22.1 (lT K30.1 K41.1)) ge45)) all0))
  have f59 := (f7.keep KK58 nin0 nin0)
  refine C56.virtual (W := 0) (wd hw 367 rfl) (W368 hw) (fun _ q => notFace_of_selects (args := #[]) (mvT q (W370 hw))) (W370 hw) (W369 hw) (W371 hw) (W350 hw) (by decide) (rm_sbAppend l Z a0 EL G a45 t56 kb56 ([] ++ [(97 : Int32), (32 : Int32), (99 : Int32), (111 : Int32), (108 : Int32), (117 : Int32), (109 : Int32), (110 : Int32), (32 : Int32), (111 : Int32), (102 : Int32), (32 : Int32), (108 : Int32), (101 : Int32), (118 : Int32), (101 : Int32), (108 : Int32), (32 : Int32)]) 34 p1 p3 kp3 [(108 : Int32)] h56 C56.old Z56 f59 (nb rfl) zg45 zg56) (fun _ => rfl) rfl Z56.1 (allS ⟨Z56.2.2.2.1.lt, (own_safe_new (M56 rfl) ge56)⟩ all0) (by decide) (by decide) (by decide) (by decide) (lenOf pd_44 rfl) rfl (nb rfl) rfl (Y58 27 rfl) (pc' := 99) rfl ?_
  intro vm60 T60 h60 v60 C60 A60 M60 q60
  obtain ⟨rfl, K60, Z60⟩ := q60
  refine C60.virtual (W := 0) (wd hw 417 rfl) (W418 hw) (fun _ q => notFace_of_selects (args := #[]) (mvT q (W420 hw))) (W420 hw) (W419 hw) (W421 hw) (W350 hw) (by decide) (rm_toString l Z a0 EL G a45 t56 kb56 (([] ++ [(97 : Int32), (32 : Int32), (99 : Int32), (111 : Int32), (108 : Int32), (117 : Int32), (109 : Int32), (110 : Int32), (32 : Int32), (111 : Int32), (102 : Int32), (32 : Int32), (108 : Int32), (101 : Int32), (118 : Int32), (101 : Int32), (108 : Int32), (32 : Int32)]) ++ [(108 : Int32)]) 34 h60 C60.old Z60 (nb rfl) (nb rfl)) (fun _ => rfl) rfl Z60.1 all0 (by decide) (by decide) (by decide) (by decide) (lenOf pd_5 rfl) rfl (nb rfl) rfl (Y58 28 rfl) (pc' := 102) rfl ?_
  intro vm61 T61 h61 v61 C61 A61 M61 q61
  obtain ⟨a61, d61, kd61, rfl, K61, ge61, gd61, zg61, zd61, Z61⟩ := q61
  refine C61.aLk (Y58 29 rfl) rfl rfl ?_
  have KK62 := (kT (kT (kT (kT (kT (kT (kT (kR h30 [q0_30]) K41 (allS m0 all0)) K45 all0) K49 (allS (Or.inr (lT K41.1 ge45)) all0)) K50 all0) K56 (allS (Or.inr (lT K41.1 ge45)) all0)) K60 (allS (Or.inr (lT K41.1 ge45)) (allS (Or.inr (lT (lT K41.1 (lT K45.1 (lT K49.1 K50.1))) ge56)) all0))) K61 all0)
  have ne63 : p5 ≠ q0_30 := (nL (lL (lL e_5.lt (lT K2.1 K22.1)) ge_q0_30))
  have f64 := (f38.keep KK62 (ninS ne63 nin0) (ninS (Ne.symm ne39) nin0))
  refine C61.static (W := 0) (wd hw 456 rfl) (wd hw 111 rfl) (wd hw 113 rfl) (W112 hw) (by decide) (rm_require l Z a0 EL G (.ref a61) rfl p5 p6 kp6 [(99 : Int32)] h61 C61.old f64 (own_solidOf (by decide) (by decide +kernel) (by decide +kernel))) (fun _ => rfl) rfl all0 (by decide) (by decide) (by decide) (by decide) (lenOf pd_47 rfl) rfl (nb rfl) rfl (Y58 30 rfl) (pc' := 107) rfl ?_
  intro vm65 T65 h65 v65 C65 A65 M65 q65
  obtain ⟨rfl, rfl⟩ := q65
  refine C65.go (pc' := 63) (Y58 31 rfl) (by decide) rfl (C65.aL (Y58 14 rfl) rfl rfl ?_)
  have KK66 := (kT (kT (kT (kT (kT (kT (kR h41 []) K45 all0) K49 (allS (Or.inr ge45) all0)) K50 all0) K56 (allS (Or.inr ge45) all0)) K60 (allS (Or.inr ge45) (allS (Or.inr (lT (lT K45.1 (lT K49.1 K50.1)) ge56)) all0))) K61 all0)
  have f67 := (E41_0.keep KK66)
  have f68 := (F41_0_0.keep KK66 nin0)
  have f71 := (F41_0_3.keep KK66 nin0)
  have f72 := (f31.keep KK62)
  have ne73 : q0_22 ≠ q0_30 := (nL (lL E22_0.lt ge_q0_30))
  have f74 := (f32.keep KK62 (ninS ne73 nin0))
  have f75 := (f33.keep KK62 (ninS ne73 nin0))
  refine C65.iface (W := 0) (wd hw 322 rfl) (W323 hw) (W324 hw) (W325 hw) (W326 hw) (W327 hw) (W328 hw) (W329 hw) (W330 hw) (W302 hw) (by decide) (rm_au33_hasNext l Z a0 EL G q0_30 h61 C65.old f68 f71) (fun _ => rfl) rfl f67 all0 (by decide) (by decide) (by decide) (by decide) (lenOf pd_28295a rfl) rfl (nb rfl) rfl (Y58 15 rfl) (pc' := 69) rfl ?_
  intro vm80 T80 h80 v80 C80 A80 M80 q80
  obtain ⟨rfl, rfl⟩ := q80
  refine C80.fY (pc' := 110) (Y58 16 rfl) (XT.i0_eq_t (by decide)) (by decide) rfl (C80.aL (Y58 32 rfl) rfl rfl (C80.aL (Y58 33 rfl) rfl rfl ?_))
  have KK81 := (kT (kT (kT (kT (kT (kT (kT (kT (kT (kT (kR h []) K2 all0) K22 all0) K30 all0) K41 (allS (Or.inr (lT (lT K2.1 K22.1) ge_q0_30)) all0)) K45 all0) K49 (allS (Or.inr (lT (lT K2.1 (lT K22.1 (lT K30.1 K41.1))) ge45)) all0)) K50 all0) K56 (allS (Or.inr (lT (lT K2.1 (lT K22.1 (lT K30.1 K41.1))) ge45)) all0)) K60 (allS (Or.inr (lT (lT K2.1 (lT K22.1 (lT K30.1 K41.1))) ge45)) (allS (Or.inr (lT (lT K2.1 (lT K22.1 (lT K30.1 (lT K41.1 (lT K45.1 (lT K49.1 K50.1)))))) ge56)) all0))) K61 all0)
  have f82 := (e_0.keep KK81)
  have f83 := (f_0_1.keep KK81 nin0)
  have f85 := (f_0_0.keep KK81 nin0)
  refine C80.putF (v := (.ref p1)) (wd hw 457 rfl) f83 f82 (Or.inr ⟨(wd hw 458 rfl), rfl, rfl⟩) (wd hw 93 rfl) (ty := (.object "java/lang/String")) (by decide) rfl rfl z_0 (Safe.exa C80.warm.alike f82 (by decide) (by decide)) (Y58 34 rfl) (pc' := 115) rfl ?_
  intro T84 h84 C84 K84 A84 Wr84
  have f86 := f83.same Wr84
  have f87 := f85.other Wr84 (Or.inr (slot_ne (Or.inr (wd hw 460 rfl)) (Or.inr (wd hw 458 rfl)) (by decide) (t := (.object "java/util/List")) (t' := (.object "java/lang/String")) (by decide) (by decide)))
  refine C84.aL (Y58 35 rfl) rfl rfl (C84.aL (Y58 36 rfl) rfl rfl ?_)
  have f88 := (f82.keep K84)
  refine C84.putF (v := (.ref q0_22)) (wd hw 459 rfl) f87 f88 (Or.inr ⟨(wd hw 460 rfl), rfl, rfl⟩) (wd hw 93 rfl) (ty := (.object "java/util/List")) (by decide) rfl rfl z_0 (Safe.exa C84.warm.alike f88 (by decide) (by decide)) (Y58 37 rfl) (pc' := 120) rfl ?_
  intro T89 h89 C89 K89 A89 Wr89
  have f90 := f87.same Wr89
  have f91 := f86.other Wr89 (Or.inr (slot_ne (Or.inr (wd hw 458 rfl)) (Or.inr (wd hw 460 rfl)) (by decide) (t := (.object "java/lang/String")) (t' := (.object "java/util/List")) (by decide) (by decide)))
  have f92 := (f88.keep K89)
  have KK93 := (kT (kT (kR h61 [p0]) K84 (allS m0 all0)) K89 (allS m0 all0))
  have f94 := (f72.keep KK93)
  have ne95 : q0_22 ≠ p0 := (Ne.symm (nL (lL (lL e_0.lt K2.1) ge_q0_22)))
  have f96 := (f74.keep KK93 (ninS ne95 nin0))
  have f97 := (f75.keep KK93 (ninS ne95 nin0))
  have KK109 := (kT (kT (kT (kR h [p0]) KK81 all0) K84 (allS m0 all0)) K89 (allS m0 all0))
  exact C89.retV (Y58 38 rfl) (by decide) (by decide) ⟨q0_22, rfl, KK109, (lT K2.1 ge_q0_22), zg_q0_22, f92, f90, f91, f94, f96, f97⟩
theorem rm_au35_add (G : Glob Z a0 EL) (p0 p1 : Addr) (h : Heap) (O : Ext Z.heap h) (e_0 : Exa Z h p0 "java/util/ArrayList") (f_0_0 : Fld Z h p0 "java/util/AbstractList" "modCount" "I" (.int 1)) (f_0_1 : Fld Z h p0 "java/util/ArrayList" "elementData" "[Ljava/lang/Object;" (.ref (sDE Z))) (f_0_2 : Fld Z h p0 "java/util/ArrayList" "size" "I" (.int 0)) (z_0 : Z.heap.size ≤ p0) (e_1 : Exa Z h p1 "com/example/dique/dique/model/Level") :
    Met l Z EL true ⟨"java/util/ArrayList", "add", "(Ljava/lang/Object;[Ljava/lang/Object;I)V"⟩ jdk_38_method_24_code 4 none [] ⟨3, 1, 10, 41⟩ #[(.ref p0), (.ref p1), (.ref (sDE Z)), (.int 0)] h [] (fun r h' => ∃ (q0 : Addr) (kq0 : ClassId), r = none ∧ Keep h h' [p0] ∧ h.size ≤ q0 ∧ Z.heap.size ≤ q0 ∧ Exa Z h' p0 "java/util/ArrayList" ∧ Fld Z h' p0 "java/util/AbstractList" "modCount" "I" (.int 1) ∧ Fld Z h' p0 "java/util/ArrayList" "elementData" "[Ljava/lang/Object;" (.ref q0) ∧ Fld Z h' p0 "java/util/ArrayList" "size" "I" (.int 1) ∧ Exa Z h' q0 "[Ljava/lang/Object;" ∧ Arv Z h' q0 kq0 (.object "java/lang/Object") (10 : Int32) [(.ref p1), .null, .null, .null, .null, .null, .null, .null, .null, .null] .null ∧ Ovr Z kq0 "java/lang/Object") := by
  have hw := G.hw
  refine Met.of (plainFor_of_name pn_61794c697374_18) G.ew O ?_
  intro p e s m below meth c T0 C0 S0
  refine Endw.eq (g' := mkF m 0 #[.val (.ref p0), .val (.ref p1), .val (.ref (sDE Z)), .val (.int 0)] []) rfl ?_
  refine C0.iL (Y55 0 rfl) rfl (C0.aL (Y55 1 rfl) rfl rfl ?_)
  have f2 := (G.t2.ext C0.old)
  refine C0.len f2 (Y55 2 rfl) (pc' := 3) rfl ?_
  show Endw p e below T0 (mkF m 3 #[.val (.ref p0), .val (.ref p1), .val (.ref (sDE Z)), .val (.int 0)] [(.int 0), (.int 0)]) _
  refine C0.cN (Y55 3 rfl) (XT.ii_ne_f (by decide)) (C0.aL (Y55 4 rfl) rfl rfl ?_)
  refine C0.priv (W := 0) (wd hw 75 rfl) (wd hw 76 rfl) (own_plain (y := ⟨"java/util/ArrayList", "add", "(Ljava/lang/Object;)Z"⟩) (W64 hw) (W63 hw)) (wd hw 77 rfl) (wd hw 79 rfl) (W36 hw) (by decide) (rm_au5_grow l Z a0 EL G p0 h C0.old e_0 f_0_0 f_0_1 f_0_2 z_0) (fun _ => rfl) rfl e_0 all0 (by decide) (by decide) (by decide) (by decide) (lenOf pd_11 rfl) rfl (nb rfl) rfl (Y55 5 rfl) (pc' := 10) rfl ?_
  intro vm3 T3 h3 v3 C3 A3 M3 q3
  obtain ⟨q0_3, kq0_3, rfl, K3, ge_q0_3, zg_q0_3, E3_0, F3_0_0, F3_0_1, F3_0_2, E3_1, V3_1, O3_1⟩ := q3
  refine C3.aS (Y55 6 rfl) rfl (l' := #[.val (.ref p0), .val (.ref p1), .val (.ref q0_3), .val (.int 0)]) rfl (C3.aL (Y55 7 rfl) rfl rfl (C3.iL (Y55 8 rfl) rfl (C3.aL (Y55 9 rfl) rfl rfl ?_)))
  have f5 := (e_1.keep K3)
  refine C3.aastore V3_1 O3_1 (Ins.of_exa f5 (wd hw 461 rfl)) ⟨by decide, by decide⟩ 0 (by decide) (nb rfl) zg_q0_3 (vs' := [(.ref p1), .null, .null, .null, .null, .null, .null, .null, .null, .null]) rfl (Y55 10 rfl) (pc' := 15) rfl ?_
  intro T4 h4 C4 K4 A4 V4
  refine C4.aL (Y55 11 rfl) rfl rfl (C4.iL (Y55 12 rfl) rfl (C4.ic (z := 1) (Y55 13 rfl) rfl (C4.ad (z := 1) (Y55 14 rfl) rfl ?_)))
  have f6 := (E3_0.keep K4)
  have ne7 : p0 ≠ q0_3 := (nL (lL e_0.lt ge_q0_3))
  have f8 := (F3_0_2.keep K4 (ninS ne7 nin0))
  have f10 := (F3_0_0.keep K4 (ninS ne7 nin0))
  have f11 := (F3_0_1.keep K4 (ninS ne7 nin0))
  refine C4.putF (v := (.int 1)) (W68 hw) f8 f6 (Or.inl (W69 hw)) (W35 hw) (ty := .int) (by decide) rfl rfl z_0 (Safe.exa C4.warm.alike f6 (by decide) (by decide)) (Y55 15 rfl) (pc' := 22) rfl ?_
  intro T9 h9 C9 K9 A9 Wr9
  have f12 := f8.same Wr9
  have f13 := f10.other Wr9 (Or.inr (slot_ne (Or.inl (W54 hw)) (Or.inl (W69 hw)) (by decide) (t := .int) (t' := .int) (by decide) (by decide)))
  have f14 := f11.other Wr9 (Or.inr (slot_ne (Or.inl (W57 hw)) (Or.inl (W69 hw)) (by decide) (t := (.array (.object "java/lang/Object"))) (t' := .int) (by decide) (by decide)))
  have f15 := (f6.keep K9)
  have KK16 := (kT (kT (kR h3 [q0_3, p0]) K4 (allS m0 all0)) K9 (allS m1 all0))
  have f17 := (E3_1.keep KK16)
  have f18 := (V4.keep K9 (ninS (Ne.symm ne7) nin0))
  have KK20 := (kT (kT (kT (kR h [p0]) K3 (allS m0 all0)) K4 (allS (Or.inr ge_q0_3) all0)) K9 (allS m0 all0))
  exact C9.retV (Y55 16 rfl) (by decide) (by decide) ⟨q0_3, kq0_3, rfl, KK20, ge_q0_3, zg_q0_3, f15, f13, f14, f12, f17, f18, O3_1⟩
theorem rm_au34_add (G : Glob Z a0 EL) (p0 p1 : Addr) (h : Heap) (O : Ext Z.heap h) (e_0 : Exa Z h p0 "java/util/ArrayList") (f_0_0 : Fld Z h p0 "java/util/AbstractList" "modCount" "I" (.int 0)) (f_0_1 : Fld Z h p0 "java/util/ArrayList" "elementData" "[Ljava/lang/Object;" (.ref (sDE Z))) (f_0_2 : Fld Z h p0 "java/util/ArrayList" "size" "I" (.int 0)) (z_0 : Z.heap.size ≤ p0) (e_1 : Exa Z h p1 "com/example/dique/dique/model/Level") :
    Met l Z EL true ⟨"java/util/ArrayList", "add", "(Ljava/lang/Object;)Z"⟩ jdk_38_method_25_code 2 (some .boolean) [] ⟨4, 1, 10, 56⟩ #[(.ref p0), (.ref p1)] h [] (fun r h' => ∃ (q0 : Addr) (kq0 : ClassId), r = some (.int 1) ∧ Keep h h' [p0] ∧ h.size ≤ q0 ∧ Z.heap.size ≤ q0 ∧ Exa Z h' p0 "java/util/ArrayList" ∧ Fld Z h' p0 "java/util/AbstractList" "modCount" "I" (.int 1) ∧ Fld Z h' p0 "java/util/ArrayList" "elementData" "[Ljava/lang/Object;" (.ref q0) ∧ Fld Z h' p0 "java/util/ArrayList" "size" "I" (.int 1) ∧ Exa Z h' q0 "[Ljava/lang/Object;" ∧ Arv Z h' q0 kq0 (.object "java/lang/Object") (10 : Int32) [(.ref p1), .null, .null, .null, .null, .null, .null, .null, .null, .null] .null ∧ Ovr Z kq0 "java/lang/Object") := by
  have hw := G.hw
  refine Met.of (plainFor_of_name pn_61794c697374_18) G.ew O ?_
  intro p e s m below meth c T0 C0 S0
  refine Endw.eq (g' := mkF m 0 #[.val (.ref p0), .val (.ref p1)] []) rfl ?_
  refine C0.aL (Y54 0 rfl) rfl rfl (C0.du (Y54 1 rfl) rfl ?_)
  refine C0.getFV (wd hw 66 rfl) (Via.of (wd hw 67 rfl)) f_0_0 (Y54 2 rfl) (pc' := 5) rfl ?_
  intro T1 C1
  refine C1.ic (z := 1) (Y54 3 rfl) rfl (C1.ad (z := 1) (Y54 4 rfl) rfl ?_)
  refine C1.putFV (v := (.int 1)) (wd hw 66 rfl) (Via.of (wd hw 67 rfl)) f_0_0 e_0 (Or.inl (W54 hw)) (W35 hw) (ty := .int) (by decide) rfl rfl z_0 (Safe.exa C1.warm.alike e_0 (by decide) (by decide)) (Y54 5 rfl) (pc' := 10) rfl ?_
  intro T2 h2 C2 K2 A2 Wr2
  have f3 := f_0_0.same Wr2
  have f4 := f_0_1.other Wr2 (Or.inr (slot_ne (Or.inl (W57 hw)) (Or.inl (W54 hw)) (by decide) (t := (.array (.object "java/lang/Object"))) (t' := .int) (by decide) (by decide)))
  have f5 := f_0_2.other Wr2 (Or.inr (slot_ne (Or.inl (W69 hw)) (Or.inl (W54 hw)) (by decide) (t := .int) (t' := .int) (by decide) (by decide)))
  refine C2.aL (Y54 6 rfl) rfl rfl (C2.aL (Y54 7 rfl) rfl rfl (C2.aL (Y54 8 rfl) rfl rfl ?_))
  refine C2.getF (W56 hw) f4 (Y54 9 rfl) (pc' := 16) rfl ?_
  intro T6 C6
  refine C6.aL (Y54 10 rfl) rfl rfl ?_
  refine C6.getF (W68 hw) f5 (Y54 11 rfl) (pc' := 20) rfl ?_
  intro T7 C7
  have f8 := (e_0.keep K2)
  have f9 := (e_1.keep K2)
  refine C7.priv (W := 0) (wd hw 70 rfl) (wd hw 71 rfl) (own_plain (y := ⟨"java/util/ArrayList", "add", "(Ljava/lang/Object;)Z"⟩) (W64 hw) (W63 hw)) (wd hw 72 rfl) (wd hw 74 rfl) (W36 hw) (by decide) (rm_au35_add l Z a0 EL G p0 p1 h2 C7.old f8 f3 f4 f5 z_0 f9) (fun _ => rfl) rfl f8 all0 (by decide) (by decide) (by decide) (by decide) (lenOf pd_41 rfl) rfl (nb rfl) rfl (Y54 12 rfl) (pc' := 23) rfl ?_
  intro vm30 T30 h30 v30 C30 A30 M30 q30
  obtain ⟨q0_30, kq0_30, rfl, K30, ge_q0_30, zg_q0_30, E30_0, F30_0_0, F30_0_1, F30_0_2, E30_1, V30_1, O30_1⟩ := q30
  refine C30.ic (z := 1) (Y54 13 rfl) rfl ?_
  have KK45 := (kT (kT (kR h [p0]) K2 (allS m0 all0)) K30 (allS m0 all0))
  exact C30.retI (t := .boolean) rfl (by simp) rfl (Y54 14 rfl) (by decide) (by decide) ⟨q0_30, kq0_30, rfl, KK45, (lT K2.1 ge_q0_30), zg_q0_30, E30_0, F30_0_0, F30_0_1, F30_0_2, E30_1, V30_1, O30_1⟩
theorem rm_au41_indexOfChar (G : Glob Z a0 EL) (p0 : Addr) (kp0 : ClassId) (h : Heap) (O : Ext Z.heap h) (w_0 : Arv Z h p0 kp0 .byte (1 : Int32) (bys [(100 : Int32)]) (.int 0)) :
    Met l Z EL true ⟨"java/lang/StringLatin1", "indexOfChar", "([BIII)I"⟩ jdk_43_method_23_code 6 (some .int) [] ⟨0, 0, 0, 0⟩ #[(.ref p0), (.int 46), (.int 0), (.int 1)] h [] (fun r h' => r = some (.int (-1)) ∧ h = h') := by
  refine Met.of (plainFor_of_name pn_4c6174696e31_13) G.ew O ?_
  intro p e s m below meth c T0 C0 S0
  refine Endw.eq (g' := mkF m 0 #[.val (.ref p0), .val (.int 46), .val (.int 0), .val (.int 1), .unset, .unset] []) rfl ?_
  refine C0.iL (Y65 0 rfl) rfl ?_
  refine Endw.st (T' := T0) (g' := (mkF m 2 #[.val (.ref p0), .val (.int 46), .val (.int 0), .val (.int 1), .unset, .unset] [(.int ((46 : Int32).toInt8.toInt32))])) (fun _ k_ => XS.i2b C0.here C0.hx rfl (C0.dec (Y65 1 rfl)) rfl k_) ?_
  rw [show ((46 : Int32).toInt8.toInt32) = (46 : Int32) from by decide]
  refine C0.iSk (Y65 2 rfl) (l' := #[.val (.ref p0), .val (.int 46), .val (.int 0), .val (.int 1), .val (.int 46), .unset]) rfl (C0.iL (Y65 3 rfl) rfl (C0.iSk (Y65 4 rfl) (l' := #[.val (.ref p0), .val (.int 46), .val (.int 0), .val (.int 1), .val (.int 46), .val (.int 0)]) rfl (C0.iLk (Y65 5 rfl) rfl (C0.iL (Y65 6 rfl) rfl (C0.cN (Y65 7 rfl) (XT.ii_ge_f (by decide)) (C0.aL (Y65 8 rfl) rfl rfl (C0.iLk (Y65 9 rfl) rfl ?_)))))))
  refine C0.baload w_0 ⟨by decide, by decide⟩ (v := (.int 100)) rfl (Y65 10 rfl) (pc' := 17) rfl ?_
  refine C0.iLk (Y65 11 rfl) rfl (C0.cY (pc' := 25) (Y65 12 rfl) (XT.ii_ne_t (by decide)) (by decide) rfl ?_)
  refine Endw.st (T' := T0) (g' := (mkF m 28 #[.val (.ref p0), .val (.int 46), .val (.int 0), .val (.int 1), .val (.int 46), .val (.int 1)] [])) (fun _ k_ => XS.iinc C0.here C0.hx rfl (C0.dec (Y65 13 rfl)) rfl (l' := #[.val (.ref p0), .val (.int 46), .val (.int 0), .val (.int 1), .val (.int 46), .val (.int 1)]) rfl k_) ?_
  refine C0.go (pc' := 7) (Y65 14 rfl) (by decide) rfl (C0.iLk (Y65 5 rfl) rfl (C0.iL (Y65 6 rfl) rfl (C0.cY (pc' := 31) (Y65 7 rfl) (XT.ii_ge_t (by decide)) (by decide) rfl (C0.ic (z := (-1)) (Y65 15 rfl) rfl ?_))))
  exact C0.retI (t := .int) rfl (by simp) rfl (Y65 16 rfl) (by decide) (by decide) ⟨rfl, rfl⟩
theorem rm_au40_indexOf (G : Glob Z a0 EL) (p0 : Addr) (kp0 : ClassId) (h : Heap) (O : Ext Z.heap h) (w_0 : Arv Z h p0 kp0 .byte (1 : Int32) (bys [(100 : Int32)]) (.int 0)) :
    Met l Z EL true ⟨"java/lang/StringLatin1", "indexOf", "([BIII)I"⟩ jdk_43_method_22_code 4 (some .int) [] ⟨1, 0, 0, 17⟩ #[(.ref p0), (.int 46), (.int 0), (.int 1)] h [] (fun r h' => r = some (.int (-1)) ∧ h = h') := by
  have hw := G.hw
  refine Met.of (plainFor_of_name pn_4c6174696e31_13) G.ew O ?_
  intro p e s m below meth c T0 C0 S0
  refine Endw.eq (g' := mkF m 0 #[.val (.ref p0), .val (.int 46), .val (.int 0), .val (.int 1)] []) rfl ?_
  refine C0.iL (Y63 0 rfl) rfl ?_
  refine C0.static (W := 0) (wd hw 189 rfl) (wd hw 190 rfl) (wd hw 191 rfl) (W131 hw) (by decide) (rm_au13_canEncode l Z a0 EL G  h C0.old ) (fun _ => rfl) rfl all0 (by decide) (by decide) (by decide) (by decide) (lenOf pd_2849295a rfl) rfl (nb rfl) rfl (Y63 1 rfl) (pc' := 4) rfl ?_
  intro vm1 T1 h1 v1 C1 A1 M1 q1
  obtain ⟨rfl, rfl⟩ := q1
  refine C1.fY (pc' := 9) (Y63 2 rfl) (XT.i0_ne_t (by decide)) (by decide) rfl (C1.iL (Y63 3 rfl) rfl (C1.ic (z := 0) (Y63 4 rfl) rfl ?_))
  refine C1.static (W := 0) (wd hw 192 rfl) (wd hw 86 rfl) (wd hw 88 rfl) (W87 hw) (by decide) (rm_max l Z a0 EL G (0 : Int32) (0 : Int32) h C1.old) (fun _ => rfl) rfl all0 (by decide) (by decide) (by decide) (by decide) (lenOf pd_2849492949 rfl) rfl (nb rfl) rfl (Y63 5 rfl) (pc' := 14) rfl ?_
  intro vm2 T2 h2 v2 C2 A2 M2 q2
  rw [(show (if (0 : Int32) < (0 : Int32) then (0 : Int32) else (0 : Int32)) = (0 : Int32) from by decide)] at q2
  obtain ⟨rfl, rfl⟩ := q2
  refine C2.iS (Y63 6 rfl) (l' := #[.val (.ref p0), .val (.int 46), .val (.int 0), .val (.int 1)]) rfl (C2.iL (Y63 7 rfl) rfl (C2.aL (Y63 8 rfl) rfl rfl ?_))
  refine C2.len w_0 (Y63 9 rfl) (pc' := 18) rfl ?_
  show Endw p e below T2 (mkF m 18 #[.val (.ref p0), .val (.int 46), .val (.int 0), .val (.int 1)] [(.int 1), (.int 1)]) _
  refine C2.static (W := 0) (wd hw 193 rfl) (wd hw 194 rfl) (wd hw 195 rfl) (W87 hw) (by decide) (rm_min l Z a0 EL G (1 : Int32) (1 : Int32) h C2.old) (fun _ => rfl) rfl all0 (by decide) (by decide) (by decide) (by decide) (lenOf pd_2849492949 rfl) rfl (nb rfl) rfl (Y63 10 rfl) (pc' := 21) rfl ?_
  intro vm3 T3 h3 v3 C3 A3 M3 q3
  rw [(show (if (1 : Int32) < (1 : Int32) then (1 : Int32) else (1 : Int32)) = (1 : Int32) from by decide)] at q3
  obtain ⟨rfl, rfl⟩ := q3
  refine C3.iS (Y63 11 rfl) (l' := #[.val (.ref p0), .val (.int 46), .val (.int 0), .val (.int 1)]) rfl (C3.iL (Y63 12 rfl) rfl (C3.iL (Y63 13 rfl) rfl (C3.cY (pc' := 29) (Y63 14 rfl) (XT.ii_lt_t (by decide)) (by decide) rfl (C3.aL (Y63 15 rfl) rfl rfl (C3.iL (Y63 16 rfl) rfl (C3.iL (Y63 17 rfl) rfl (C3.iL (Y63 18 rfl) rfl ?_)))))))
  refine C3.static (W := 0) (wd hw 196 rfl) (wd hw 197 rfl) (wd hw 198 rfl) (W131 hw) (by decide) (rm_au41_indexOfChar l Z a0 EL G p0 kp0 h C3.old w_0) (fun _ => rfl) rfl all0 (by decide) (by decide) (by decide) (by decide) (lenOf pd_285b424949492949 rfl) rfl (nb rfl) rfl (Y63 19 rfl) (pc' := 36) rfl ?_
  intro vm4 T4 h4 v4 C4 A4 M4 q4
  obtain ⟨rfl, rfl⟩ := q4
  exact C4.retI (t := .int) rfl (by simp) rfl (Y63 20 rfl) (by decide) (by decide) ⟨rfl, rfl⟩
theorem rm_au39_indexOf (G : Glob Z a0 EL) (p0 p1 : Addr) (kp1 : ClassId) (h : Heap) (O : Ext Z.heap h) (e_0 : Exa Z h p0 "java/lang/String") (f_0_0 : Fld Z h p0 "java/lang/String" "coder" "B" (.int 0)) (f_0_1 : Fld Z h p0 "java/lang/String" "value" "[B" (.ref p1)) (w_1 : Arv Z h p1 kp1 .byte (1 : Int32) (bys [(100 : Int32)]) (.int 0)) (s_0 : Str Z h p0 p1 kp1 [(100 : Int32)]) :
    Met l Z EL true ⟨"java/lang/String", "indexOf", "(II)I"⟩ jdk_42_method_80_code 3 (some .int) [] ⟨2, 0, 0, 32⟩ #[(.ref p0), (.int 46), (.int 0)] h [] (fun r h' => r = some (.int (-1)) ∧ h = h') := by
  have hw := G.hw
  refine Met.of (plainFor_of_name pn_537472696e67_11) G.ew O ?_
  intro p e s m below meth c T0 C0 S0
  refine Endw.eq (g' := mkF m 0 #[.val (.ref p0), .val (.int 46), .val (.int 0)] []) rfl ?_
  refine C0.aL (Y62 0 rfl) rfl rfl ?_
  refine C0.virtual (W := 0) (wd hw 124 rfl) (wd hw 125 rfl) (fun _ q => notFace_of_selects (args := #[]) (mvT q (W127 hw))) (W127 hw) (wd hw 126 rfl) (wd hw 128 rfl) (W3 hw) (by decide) (rm_isLatin1 l Z a0 EL G p0 h C0.old f_0_0) (fun _ => rfl) rfl e_0 all0 (by decide) (by decide) (by decide) (by decide) (lenOf pd_28295a rfl) rfl (nb rfl) rfl (Y62 1 rfl) (pc' := 4) rfl ?_
  intro vm1 T1 h1 v1 C1 A1 M1 q1
  obtain ⟨rfl, rfl⟩ := q1
  refine C1.fN (Y62 2 rfl) (XT.i0_eq_f (by decide)) (C1.aL (Y62 3 rfl) rfl rfl ?_)
  refine C1.getF (W28 hw) f_0_1 (Y62 4 rfl) (pc' := 11) rfl ?_
  intro T2 C2
  refine C2.iL (Y62 5 rfl) rfl (C2.iL (Y62 6 rfl) rfl (C2.aL (Y62 7 rfl) rfl rfl ?_))
  refine C2.virtual (W := 3) (wd hw 149 rfl) (W150 hw) (fun _ q => notFace_of_selects (args := #[]) (mvT q (W152 hw))) (W152 hw) (W151 hw) (W153 hw) (W3 hw) (by decide) (rm_strLen l Z a0 EL G p0 p1 kp1 [(100 : Int32)] h C2.old s_0) (fun _ => rfl) rfl e_0 all0 (by decide) (by decide) (by decide) (by decide) (lenOf pd_282949 rfl) rfl (nb rfl) rfl (Y62 8 rfl) (pc' := 17) rfl ?_
  intro vm3 T3 h3 v3 C3 A3 M3 q3
  obtain ⟨rfl, rfl⟩ := q3
  show Endw p e below T3 (mkF m 17 #[.val (.ref p0), .val (.int 46), .val (.int 0)] [(.int 1), (.int 0), (.int 46), (.ref p1)]) _
  refine C3.static (W := 0) (wd hw 186 rfl) (wd hw 187 rfl) (wd hw 188 rfl) (W131 hw) (by decide) (rm_au40_indexOf l Z a0 EL G p1 kp1 h C3.old w_1) (fun _ => rfl) rfl all0 (by decide) (by decide) (by decide) (by decide) (lenOf pd_285b424949492949 rfl) rfl (nb rfl) rfl (Y62 9 rfl) (pc' := 20) rfl ?_
  intro vm4 T4 h4 v4 C4 A4 M4 q4
  obtain ⟨rfl, rfl⟩ := q4
  refine C4.go (pc' := 36) (Y62 10 rfl) (by decide) rfl ?_
  exact C4.retI (t := .int) rfl (by simp) rfl (Y62 11 rfl) (by decide) (by decide) ⟨rfl, rfl⟩
theorem rm_au38_indexOf (G : Glob Z a0 EL) (p0 p1 : Addr) (kp1 : ClassId) (h : Heap) (O : Ext Z.heap h) (e_0 : Exa Z h p0 "java/lang/String") (f_0_0 : Fld Z h p0 "java/lang/String" "coder" "B" (.int 0)) (f_0_1 : Fld Z h p0 "java/lang/String" "value" "[B" (.ref p1)) (w_1 : Arv Z h p1 kp1 .byte (1 : Int32) (bys [(100 : Int32)]) (.int 0)) (s_0 : Str Z h p0 p1 kp1 [(100 : Int32)]) :
    Met l Z EL true ⟨"java/lang/String", "indexOf", "(I)I"⟩ jdk_42_method_79_code 2 (some .int) [] ⟨3, 0, 0, 46⟩ #[(.ref p0), (.int 46)] h [] (fun r h' => r = some (.int (-1)) ∧ h = h') := by
  have hw := G.hw
  refine Met.of (plainFor_of_name pn_537472696e67_11) G.ew O ?_
  intro p e s m below meth c T0 C0 S0
  refine Endw.eq (g' := mkF m 0 #[.val (.ref p0), .val (.int 46)] []) rfl ?_
  refine C0.aL (Y61 0 rfl) rfl rfl (C0.iL (Y61 1 rfl) rfl (C0.ic (z := 0) (Y61 2 rfl) rfl ?_))
  refine C0.virtual (W := 0) (wd hw 181 rfl) (wd hw 182 rfl) (fun _ q => notFace_of_selects (args := #[]) (mvT q (wd hw 184 rfl))) (wd hw 184 rfl) (wd hw 183 rfl) (wd hw 185 rfl) (W3 hw) (by decide) (rm_au39_indexOf l Z a0 EL G p0 p1 kp1 h C0.old e_0 f_0_0 f_0_1 w_1 s_0) (fun _ => rfl) rfl e_0 all0 (by decide) (by decide) (by decide) (by decide) (lenOf pd_2849492949 rfl) rfl (nb rfl) rfl (Y61 3 rfl) (pc' := 6) rfl ?_
  intro vm1 T1 h1 v1 C1 A1 M1 q1
  obtain ⟨rfl, rfl⟩ := q1
  exact C1.retI (t := .int) rfl (by simp) rfl (Y61 4 rfl) (by decide) (by decide) ⟨rfl, rfl⟩
theorem rm_au37_requirePart (G : Glob Z a0 EL) (p0 p1 p3 : Addr) (kp3 : ClassId) (h : Heap) (O : Ext Z.heap h) (e_1 : Exa Z h p1 "java/lang/String") (f_1_0 : Fld Z h p1 "java/lang/String" "coder" "B" (.int 0)) (f_1_1 : Fld Z h p1 "java/lang/String" "value" "[B" (.ref p3)) (w_3 : Arv Z h p3 kp3 .byte (1 : Int32) (bys [(100 : Int32)]) (.int 0)) (s_1 : Str Z h p1 p3 kp3 [(100 : Int32)]) :
    Met l Z EL true ⟨"com/example/dique/dique/model/Names", "requirePart", "(Ljava/lang/String;Ljava/lang/String;)V"⟩ prog_17_method_4_code 2 none [] ⟨6, 0, 0, 85⟩ #[(.ref p0), (.ref p1)] h [] (fun r h' => r = none ∧ h = h') := by
  have hw := G.hw
  refine Met.of (plainFor_of_name pn_2f4e616d6573_2) G.ew O ?_
  intro p e s m below meth c T0 C0 S0
  refine Endw.eq (g' := mkF m 0 #[.val (.ref p0), .val (.ref p1)] []) rfl ?_
  refine C0.aL (Y60 0 rfl) rfl rfl (C0.aL (Y60 1 rfl) rfl rfl ?_)
  refine C0.static (W := 0) (wd hw 110 rfl) (wd hw 111 rfl) (wd hw 113 rfl) (W112 hw) (by decide) (rm_require l Z a0 EL G (.ref p0) rfl p1 p3 kp3 [(100 : Int32)] h C0.old s_1 (own_solidOf (by decide) (by decide +kernel) (by decide +kernel))) (fun _ => rfl) rfl all0 (by decide) (by decide) (by decide) (by decide) (lenOf pd_47 rfl) rfl (nb rfl) rfl (Y60 2 rfl) (pc' := 5) rfl ?_
  intro vm1 T1 h1 v1 C1 A1 M1 q1
  obtain ⟨rfl, rfl⟩ := q1
  refine C1.aL (Y60 3 rfl) rfl rfl (C1.bi (z := 46) (Y60 4 rfl) rfl ?_)
  refine C1.virtual (W := 0) (wd hw 176 rfl) (wd hw 177 rfl) (fun _ q => notFace_of_selects (args := #[]) (mvT q (wd hw 179 rfl))) (wd hw 179 rfl) (wd hw 178 rfl) (wd hw 180 rfl) (W3 hw) (by decide) (rm_au38_indexOf l Z a0 EL G p1 p3 kp3 h C1.old e_1 f_1_0 f_1_1 w_3 s_1) (fun _ => rfl) rfl e_1 all0 (by decide) (by decide) (by decide) (by decide) (lenOf pd_28492949 rfl) rfl (nb rfl) rfl (Y60 5 rfl) (pc' := 11) rfl ?_
  intro vm2 T2 h2 v2 C2 A2 M2 q2
  obtain ⟨rfl, rfl⟩ := q2
  refine C2.fY (pc' := 50) (Y60 6 rfl) (XT.i0_lt_t (by decide)) (by decide) rfl ?_
  exact C2.retV (Y60 7 rfl) (by decide) (by decide) ⟨rfl, rfl⟩
theorem rm_au46_copyOf (G : Glob Z a0 EL) (p0 p1 : Addr) (kp0 : ClassId) (h : Heap) (O : Ext Z.heap h) (w_0 : Arv Z h p0 kp0 (.object "java/lang/Object") (10 : Int32) [(.ref p1), .null, .null, .null, .null, .null, .null, .null, .null, .null] .null) (e_1 : Exa Z h p1 "com/example/dique/dique/model/Level") :
    Met l Z EL true ⟨"java/util/Arrays", "copyOf", "([Ljava/lang/Object;ILjava/lang/Class;)[Ljava/lang/Object;"⟩ jdk_65_method_120_code 4 (some (.array (.object "java/lang/Object"))) [] ⟨1, 1, 1, 18⟩ #[(.ref p0), (.int 1), (.ref (sMO Z))] h [] (fun r h' => ∃ (q0 : Addr) (kq0 : ClassId), r = some (.ref q0) ∧ Keep h h' [] ∧ h.size ≤ q0 ∧ Z.heap.size ≤ q0 ∧ Exa Z h' q0 "[Ljava/lang/Object;" ∧ Arv Z h' q0 kq0 (.object "java/lang/Object") (1 : Int32) [(.ref p1)] .null ∧ Ovr Z kq0 "java/lang/Object") := by
  have hw := G.hw
  refine Met.of (plainFor_of_name pn_417272617973_19) G.ew O ?_
  intro p e s m below meth c T0 C0 S0
  refine Endw.eq (g' := mkF m 0 #[.val (.ref p0), .val (.int 1), .val (.ref (sMO Z)), .unset] []) rfl ?_
  refine C0.aL (Y71 0 rfl) rfl rfl ?_
  refine C0.ldcMir (wd hw 243 rfl) G.m1 (Y71 1 rfl) (pc' := 3) rfl ?_
  intro T1 C1
  refine Endw.st (T' := T1) (g' := (mkF m 6 #[.val (.ref p0), .val (.int 1), .val (.ref (sMO Z)), .unset] [])) (fun _ k_ => XT.acmpNo C1.here C1.hx rfl (C1.dec (Y71 2 rfl)) rfl rfl rfl (XT.aa_ne_f rfl) k_) ?_
  refine C1.iL (Y71 3 rfl) rfl ?_
  refine C1.newR (K := "java/lang/Object") (ad := "[Ljava/lang/Object;") (z := (1 : Int32)) (cap := 1) (vs := [.null]) (by decide +kernel) (wd hw 244 rfl) (wd hw 90 rfl) (Y71 4 rfl) (pc' := 10) rfl (by decide) (by decide) (by decide) (by decide) (by decide) rfl ?_
  intro T2 h2 a2 kA2 C2 K2 A2 ge2 zg2 V2 S2 E2 O2
  refine C2.go (pc' := 24) (Y71 5 rfl) (by decide) rfl (C2.aS (Y71 6 rfl) rfl (l' := #[.val (.ref p0), .val (.int 1), .val (.ref (sMO Z)), .val (.ref a2)]) rfl (C2.aL (Y71 7 rfl) rfl rfl (C2.ic (z := 0) (Y71 8 rfl) rfl (C2.aL (Y71 9 rfl) rfl rfl (C2.ic (z := 0) (Y71 10 rfl) rfl (C2.aL (Y71 11 rfl) rfl rfl ?_))))))
  have f3 := (w_0.keep K2 nin0)
  refine C2.len f3 (Y71 12 rfl) (pc' := 31) rfl ?_
  show Endw p e below T2 (mkF m 31 #[.val (.ref p0), .val (.int 1), .val (.ref (sMO Z)), .val (.ref a2)] [(.int 10), (.int 0), (.ref a2), (.int 0), (.ref p0)]) _
  refine C2.iL (Y71 13 rfl) rfl ?_
  refine C2.static (W := 4) (wd hw 245 rfl) (wd hw 194 rfl) (wd hw 195 rfl) (W87 hw) (by decide) (rm_min l Z a0 EL G (10 : Int32) (1 : Int32) h2 C2.old) (fun _ => rfl) rfl all0 (by decide) (by decide) (by decide) (by decide) (lenOf pd_2849492949 rfl) rfl (nb rfl) rfl (Y71 14 rfl) (pc' := 35) rfl ?_
  intro vm4 T4 h4 v4 C4 A4 M4 q4
  rw [(show (if (1 : Int32) < (10 : Int32) then (1 : Int32) else (10 : Int32)) = (1 : Int32) from by decide)] at q4
  obtain ⟨rfl, rfl⟩ := q4
  have f6 := (e_1.keep K2)
  refine C4.acopyR (W := 0) (us := [(.ref p1)]) (vr := [(.ref p1)]) (wd hw 246 rfl) (wd hw 249 rfl) (wd hw 247 rfl) (wd hw 248 rfl) f3 V2 ⟨own_sto V2 O2 (Ins.of_exa f6 (wd hw 461 rfl)), trivial⟩ (by decide) (by decide) (by decide) (by decide) (by decide) (nb rfl) rfl rfl zg2 rfl (Y71 15 rfl) (pc' := 38) rfl (by decide) (nb rfl) (by decide) ?_
  intro T5 h5 C5 K5 A5 V5
  refine C5.aL (Y71 16 rfl) rfl rfl ?_
  have f7 := (E2.keep K5)
  have KK9 := (kT (kT (kR h []) K2 all0) K5 (allS (Or.inr ge2) all0))
  exact C5.retA (t := (.array (.object "java/lang/Object"))) rfl rfl rfl rfl (Y71 17 rfl) (by decide) (by decide) ⟨a2, kA2, rfl, KK9, ge2, zg2, f7, V5, O2⟩
theorem rm_au45_copyOf (G : Glob Z a0 EL) (p0 p1 : Addr) (kp0 : ClassId) (h : Heap) (O : Ext Z.heap h) (e_0 : Exa Z h p0 "[Ljava/lang/Object;") (w_0 : Arv Z h p0 kp0 (.object "java/lang/Object") (10 : Int32) [(.ref p1), .null, .null, .null, .null, .null, .null, .null, .null, .null] .null) (e_1 : Exa Z h p1 "com/example/dique/dique/model/Level") :
    Met l Z EL true ⟨"java/util/Arrays", "copyOf", "([Ljava/lang/Object;I)[Ljava/lang/Object;"⟩ jdk_65_method_119_code 2 (some (.array (.object "java/lang/Object"))) [] ⟨2, 1, 1, 33⟩ #[(.ref p0), (.int 1)] h [] (fun r h' => ∃ (q0 : Addr) (kq0 : ClassId), r = some (.ref q0) ∧ Keep h h' [] ∧ h.size ≤ q0 ∧ Z.heap.size ≤ q0 ∧ Exa Z h' q0 "[Ljava/lang/Object;" ∧ Arv Z h' q0 kq0 (.object "java/lang/Object") (1 : Int32) [(.ref p1)] .null ∧ Ovr Z kq0 "java/lang/Object") := by
  have hw := G.hw
  refine Met.of (plainFor_of_name pn_417272617973_19) G.ew O ?_
  intro p e s m below meth c T0 C0 S0
  refine Endw.eq (g' := mkF m 0 #[.val (.ref p0), .val (.int 1)] []) rfl ?_
  refine C0.aL (Y70 0 rfl) rfl rfl (C0.iL (Y70 1 rfl) rfl (C0.aL (Y70 2 rfl) rfl rfl ?_))
  refine C0.getClass (W := 2) (a := p0) (mr := (sMO Z)) (rest := [(.int 1), (.ref p0)]) (wd hw 234 rfl) (wd hw 235 rfl) (W211 hw) (wd hw 237 rfl) (wd hw 236 rfl) (wd hw 238 rfl) e_0 G.m1 rfl (Y70 3 rfl) (pc' := 6) rfl (by decide) (nb rfl) (by decide) ?_
  intro T1 C1
  refine C1.static (W := 0) (wd hw 240 rfl) (wd hw 241 rfl) (wd hw 242 rfl) (W232 hw) (by decide) (rm_au46_copyOf l Z a0 EL G p0 p1 kp0 h C1.old w_0 e_1) (fun _ => rfl) rfl all0 (by decide) (by decide) (by decide) (by decide) (lenOf pd_69 rfl) rfl (nb rfl) rfl (Y70 4 rfl) (pc' := 9) rfl ?_
  intro vm2 T2 h2 v2 C2 A2 M2 q2
  obtain ⟨q0_2, kq0_2, rfl, K2, ge_q0_2, zg_q0_2, E2_0, V2_0, O2_0⟩ := q2
  exact C2.retA (t := (.array (.object "java/lang/Object"))) rfl rfl rfl rfl (Y70 5 rfl) (by decide) (by decide) ⟨q0_2, kq0_2, rfl, K2, ge_q0_2, zg_q0_2, E2_0, V2_0, O2_0⟩
theorem rm_au44_toArray (G : Glob Z a0 EL) (p0 p1 p2 : Addr) (kp1 : ClassId) (h : Heap) (O : Ext Z.heap h) (f_0_1 : Fld Z h p0 "java/util/ArrayList" "elementData" "[Ljava/lang/Object;" (.ref p1)) (f_0_2 : Fld Z h p0 "java/util/ArrayList" "size" "I" (.int 1)) (e_1 : Exa Z h p1 "[Ljava/lang/Object;") (w_1 : Arv Z h p1 kp1 (.object "java/lang/Object") (10 : Int32) [(.ref p2), .null, .null, .null, .null, .null, .null, .null, .null, .null] .null) (e_2 : Exa Z h p2 "com/example/dique/dique/model/Level") :
    Met l Z EL true ⟨"java/util/ArrayList", "toArray", "()[Ljava/lang/Object;"⟩ jdk_38_method_16_code 1 (some (.array (.object "java/lang/Object"))) [] ⟨3, 1, 1, 46⟩ #[(.ref p0)] h [] (fun r h' => ∃ (q0 : Addr) (kq0 : ClassId), r = some (.ref q0) ∧ Keep h h' [] ∧ h.size ≤ q0 ∧ Z.heap.size ≤ q0 ∧ Exa Z h' q0 "[Ljava/lang/Object;" ∧ Arv Z h' q0 kq0 (.object "java/lang/Object") (1 : Int32) [(.ref p2)] .null ∧ Ovr Z kq0 "java/lang/Object") := by
  have hw := G.hw
  refine Met.of (plainFor_of_name pn_61794c697374_18) G.ew O ?_
  intro p e s m below meth c T0 C0 S0
  refine Endw.eq (g' := mkF m 0 #[.val (.ref p0)] []) rfl ?_
  refine C0.aL (Y69 0 rfl) rfl rfl ?_
  refine C0.getF (W56 hw) f_0_1 (Y69 1 rfl) (pc' := 4) rfl ?_
  intro T1 C1
  refine C1.aL (Y69 2 rfl) rfl rfl ?_
  refine C1.getF (W68 hw) f_0_2 (Y69 3 rfl) (pc' := 8) rfl ?_
  intro T2 C2
  refine C2.static (W := 0) (wd hw 230 rfl) (wd hw 231 rfl) (wd hw 233 rfl) (W232 hw) (by decide) (rm_au45_copyOf l Z a0 EL G p1 p2 kp1 h C2.old e_1 w_1 e_2) (fun _ => rfl) rfl all0 (by decide) (by decide) (by decide) (by decide) (lenOf pd_68 rfl) rfl (nb rfl) rfl (Y69 4 rfl) (pc' := 11) rfl ?_
  intro vm3 T3 h3 v3 C3 A3 M3 q3
  obtain ⟨q0_3, kq0_3, rfl, K3, ge_q0_3, zg_q0_3, E3_0, V3_0, O3_0⟩ := q3
  exact C3.retA (t := (.array (.object "java/lang/Object"))) rfl rfl rfl rfl (Y69 5 rfl) (by decide) (by decide) ⟨q0_3, kq0_3, rfl, K3, ge_q0_3, zg_q0_3, E3_0, V3_0, O3_0⟩
theorem rm_au43_listCopy (G : Glob Z a0 EL) (p0 p1 p2 : Addr) (kp1 : ClassId) (h : Heap) (O : Ext Z.heap h) (e_0 : Exa Z h p0 "java/util/ArrayList") (f_0_1 : Fld Z h p0 "java/util/ArrayList" "elementData" "[Ljava/lang/Object;" (.ref p1)) (f_0_2 : Fld Z h p0 "java/util/ArrayList" "size" "I" (.int 1)) (e_1 : Exa Z h p1 "[Ljava/lang/Object;") (w_1 : Arv Z h p1 kp1 (.object "java/lang/Object") (10 : Int32) [(.ref p2), .null, .null, .null, .null, .null, .null, .null, .null, .null] .null) (e_2 : Exa Z h p2 "com/example/dique/dique/model/Level") :
    Met l Z EL true ⟨"java/util/ImmutableCollections", "listCopy", "(Ljava/util/Collection;)Ljava/util/List;"⟩ jdk_56_method_3_code 2 (some (.object "java/util/List")) [] ⟨6, 2, 3, 75⟩ #[(.ref p0)] h [] (fun r h' => ∃ (q0 : Addr), r = some (.ref q0) ∧ Keep h h' [] ∧ h.size ≤ q0 ∧ Z.heap.size ≤ q0 ∧ Exa Z h' q0 "java/util/ImmutableCollections$List12" ∧ Fld Z h' q0 "java/util/ImmutableCollections$List12" "e0" "Ljava/lang/Object;" (.ref p2) ∧ Fld Z h' q0 "java/util/ImmutableCollections$List12" "e1" "Ljava/lang/Object;" (.ref (sEM Z))) := by
  have hw := G.hw
  refine Met.of (plainFor_of_name pn_6374696f6e73_22) G.ew O ?_
  intro p e s m below meth c T0 C0 S0
  refine Endw.eq (g' := mkF m 0 #[.val (.ref p0), .unset] []) rfl ?_
  refine C0.aL (Y67 0 rfl) rfl rfl ?_
  refine C0.instNo (wd hw 207 rfl) e_0 (own_NSno (W208 hw) (W254 hw) (NS.step (W208 hw) (NS.step (wd hw 209 rfl) (NS.step (wd hw 210 rfl) (own_NSroot (W211 hw) (W254 hw) (by decide)) (by decide)) (by decide)) (by decide)) (by decide)) (Y67 1 rfl) (pc' := 4) rfl ?_
  intro T1 C1
  refine C1.fN (Y67 2 rfl) (XT.i0_ne_f (by decide)) (C1.aL (Y67 3 rfl) rfl rfl ?_)
  refine C1.instNo (wd hw 212 rfl) e_0 (own_NSnoP (W208 hw) (own_plain2 (y := ⟨"java/util/ImmutableCollections$ListN", "size", "()I"⟩) (W667 hw)) (NS.step (W208 hw) (NS.step (wd hw 209 rfl) (NS.step (wd hw 210 rfl) (own_NSrootP (W211 hw) (own_plain2 (y := ⟨"java/util/ImmutableCollections$ListN", "size", "()I"⟩) (W667 hw)) (by decide)) (by decide)) (by decide)) (by decide)) (by decide)) (Y67 4 rfl) (pc' := 11) rfl ?_
  intro T2 C2
  refine C2.fY (pc' := 31) (Y67 5 rfl) (XT.i0_eq_t (by decide)) (by decide) rfl (C2.aL (Y67 6 rfl) rfl rfl ?_)
  refine C2.iface (W := 0) (wd hw 213 rfl) (wd hw 214 rfl) (wd hw 215 rfl) (wd hw 216 rfl) (wd hw 217 rfl) (wd hw 218 rfl) (wd hw 219 rfl) (wd hw 220 rfl) (wd hw 221 rfl) (W36 hw) (by decide) (rm_au17_isEmpty l Z a0 EL G p0 h C2.old f_0_2) (fun _ => rfl) rfl e_0 all0 (by decide) (by decide) (by decide) (by decide) (lenOf pd_28295a rfl) rfl (nb rfl) rfl (Y67 7 rfl) (pc' := 37) rfl ?_
  intro vm3 T3 h3 v3 C3 A3 M3 q3
  obtain ⟨rfl, rfl⟩ := q3
  refine C3.fY (pc' := 44) (Y67 8 rfl) (XT.i0_eq_t (by decide)) (by decide) rfl (C3.aL (Y67 11 rfl) rfl rfl ?_)
  refine C3.iface (W := 0) (wd hw 222 rfl) (wd hw 223 rfl) (wd hw 224 rfl) (wd hw 225 rfl) (wd hw 226 rfl) (wd hw 227 rfl) (wd hw 228 rfl) (wd hw 220 rfl) (wd hw 229 rfl) (W36 hw) (by decide) (rm_au44_toArray l Z a0 EL G p0 p1 p2 kp1 h C3.old f_0_1 f_0_2 e_1 w_1 e_2) (fun _ => rfl) rfl e_0 all0 (by decide) (by decide) (by decide) (by decide) (lenOf pd_11 rfl) rfl (nb rfl) rfl (Y67 12 rfl) (pc' := 50) rfl ?_
  intro vm4 T4 h4 v4 C4 A4 M4 q4
  obtain ⟨q0_4, kq0_4, rfl, K4, ge_q0_4, zg_q0_4, E4_0, V4_0, O4_0⟩ := q4
  refine C4.static (W := 0) (wd hw 250 rfl) (wd hw 251 rfl) (wd hw 252 rfl) (wd hw 201 rfl) (by decide) (rm_au21_of l Z a0 EL G q0_4 p2 kq0_4 h4 C4.old V4_0) (fun _ => rfl) rfl all0 (by decide) (by decide) (by decide) (by decide) (lenOf pd_67 rfl) rfl (nb rfl) rfl (Y67 13 rfl) (pc' := 53) rfl ?_
  intro vm5 T5 h5 v5 C5 A5 M5 q5
  obtain ⟨q0_5, rfl, K5, ge_q0_5, zg_q0_5, E5_0, F5_0_0, F5_0_1⟩ := q5
  have KK21 := (kT (kT (kR h []) K4 all0) K5 all0)
  exact C5.retA (t := (.object "java/util/List")) rfl rfl rfl rfl (Y67 14 rfl) (by decide) (by decide) ⟨q0_5, rfl, KK21, (lT K4.1 ge_q0_5), zg_q0_5, E5_0, F5_0_0, F5_0_1⟩
theorem rm_au42_copyOf (G : Glob Z a0 EL) (p0 p1 p2 : Addr) (kp1 : ClassId) (h : Heap) (O : Ext Z.heap h) (e_0 : Exa Z h p0 "java/util/ArrayList") (f_0_1 : Fld Z h p0 "java/util/ArrayList" "elementData" "[Ljava/lang/Object;" (.ref p1)) (f_0_2 : Fld Z h p0 "java/util/ArrayList" "size" "I" (.int 1)) (e_1 : Exa Z h p1 "[Ljava/lang/Object;") (w_1 : Arv Z h p1 kp1 (.object "java/lang/Object") (10 : Int32) [(.ref p2), .null, .null, .null, .null, .null, .null, .null, .null, .null] .null) (e_2 : Exa Z h p2 "com/example/dique/dique/model/Level") :
    Met l Z EL true ⟨"java/util/List", "copyOf", "(Ljava/util/Collection;)Ljava/util/List;"⟩ jdk_40_method_48_code 1 (some (.object "java/util/List")) [] ⟨7, 2, 3, 88⟩ #[(.ref p0)] h [] (fun r h' => ∃ (q0 : Addr), r = some (.ref q0) ∧ Keep h h' [] ∧ h.size ≤ q0 ∧ Z.heap.size ≤ q0 ∧ Exa Z h' q0 "java/util/ImmutableCollections$List12" ∧ Fld Z h' q0 "java/util/ImmutableCollections$List12" "e0" "Ljava/lang/Object;" (.ref p2) ∧ Fld Z h' q0 "java/util/ImmutableCollections$List12" "e1" "Ljava/lang/Object;" (.ref (sEM Z))) := by
  have hw := G.hw
  refine Met.of (plainFor_of_name pn_6c2f4c697374_28) G.ew O ?_
  intro p e s m below meth c T0 C0 S0
  refine Endw.eq (g' := mkF m 0 #[.val (.ref p0)] []) rfl ?_
  refine C0.aL (Y66 0 rfl) rfl rfl ?_
  refine C0.static (W := 0) (wd hw 203 rfl) (wd hw 204 rfl) (wd hw 206 rfl) (wd hw 205 rfl) (by decide) (rm_au43_listCopy l Z a0 EL G p0 p1 p2 kp1 h C0.old e_0 f_0_1 f_0_2 e_1 w_1 e_2) (fun _ => rfl) rfl all0 (by decide) (by decide) (by decide) (by decide) (lenOf pd_52 rfl) rfl (nb rfl) rfl (Y66 1 rfl) (pc' := 4) rfl ?_
  intro vm1 T1 h1 v1 C1 A1 M1 q1
  obtain ⟨q0_1, rfl, K1, ge_q0_1, zg_q0_1, E1_0, F1_0_0, F1_0_1⟩ := q1
  exact C1.retA (t := (.object "java/util/List")) rfl rfl rfl rfl (Y66 2 rfl) (by decide) (by decide) ⟨q0_1, rfl, K1, ge_q0_1, zg_q0_1, E1_0, F1_0_0, F1_0_1⟩
theorem rm_au49_isEmpty (G : Glob Z a0 EL) (p0 : Addr) (h : Heap) (O : Ext Z.heap h) (f_0_2 : Fld Z h p0 "java/util/ArrayList" "size" "I" (.int 0)) :
    Met l Z EL true ⟨"java/util/ArrayList", "isEmpty", "()Z"⟩ jdk_38_method_9_code 1 (some .boolean) [] ⟨0, 0, 0, 0⟩ #[(.ref p0)] h [] (fun r h' => r = some (.int 1) ∧ h = h') := by
  have hw := G.hw
  refine Met.of (plainFor_of_name pn_61794c697374_18) G.ew O ?_
  intro p e s m below meth c T0 C0 S0
  refine Endw.eq (g' := mkF m 0 #[.val (.ref p0)] []) rfl ?_
  refine C0.aL (Y68 0 rfl) rfl rfl ?_
  refine C0.getF (W68 hw) f_0_2 (Y68 1 rfl) (pc' := 4) rfl ?_
  intro T1 C1
  refine C1.fN (Y68 2 rfl) (XT.i0_ne_f (by decide)) (C1.ic (z := 1) (Y68 3 rfl) rfl (C1.go (pc' := 12) (Y68 4 rfl) (by decide) rfl ?_))
  exact C1.retI (t := .boolean) rfl (by simp) rfl (Y68 6 rfl) (by decide) (by decide) ⟨rfl, rfl⟩
theorem rm_au50_of (G : Glob Z a0 EL) (h : Heap) (O : Ext Z.heap h)  :
    Met l Z EL true ⟨"java/util/List", "of", "()Ljava/util/List;"⟩ jdk_40_method_36_code 0 (some (.object "java/util/List")) [] ⟨0, 0, 0, 0⟩ #[] h [] (fun r h' => r = some (.ref (sEL Z)) ∧ h = h') := by
  have hw := G.hw
  refine Met.of (plainFor_of_name pn_6c2f4c697374_28) G.ew O ?_
  intro p e s m below meth c T0 C0 S0
  refine Endw.eq (g' := mkF m 0 #[] []) rfl ?_
  refine C0.getS (wd hw 487 rfl) G.s5 d85_0 (pc' := 3) rfl ?_
  intro T6 C6
  exact C6.retA (t := (.object "java/util/List")) rfl rfl rfl rfl d85_3 (by decide) (by decide) ⟨rfl, rfl⟩
theorem rm_au48_listCopy (G : Glob Z a0 EL) (p0 : Addr) (h : Heap) (O : Ext Z.heap h) (e_0 : Exa Z h p0 "java/util/ArrayList") (f_0_2 : Fld Z h p0 "java/util/ArrayList" "size" "I" (.int 0)) :
    Met l Z EL true ⟨"java/util/ImmutableCollections", "listCopy", "(Ljava/util/Collection;)Ljava/util/List;"⟩ jdk_56_method_3_code 2 (some (.object "java/util/List")) [] ⟨1, 0, 0, 12⟩ #[(.ref p0)] h [] (fun r h' => r = some (.ref (sEL Z)) ∧ h = h') := by
  have hw := G.hw
  refine Met.of (plainFor_of_name pn_6374696f6e73_22) G.ew O ?_
  intro p e s m below meth c T0 C0 S0
  refine Endw.eq (g' := mkF m 0 #[.val (.ref p0), .unset] []) rfl ?_
  refine C0.aL (Y67 0 rfl) rfl rfl ?_
  refine C0.instNo (wd hw 207 rfl) e_0 (own_NSno (W208 hw) (W254 hw) (NS.step (W208 hw) (NS.step (wd hw 209 rfl) (NS.step (wd hw 210 rfl) (own_NSroot (W211 hw) (W254 hw) (by decide)) (by decide)) (by decide)) (by decide)) (by decide)) (Y67 1 rfl) (pc' := 4) rfl ?_
  intro T1 C1
  refine C1.fN (Y67 2 rfl) (XT.i0_ne_f (by decide)) (C1.aL (Y67 3 rfl) rfl rfl ?_)
  refine C1.instNo (wd hw 212 rfl) e_0 (own_NSnoP (W208 hw) (own_plain2 (y := ⟨"java/util/ImmutableCollections$ListN", "size", "()I"⟩) (W667 hw)) (NS.step (W208 hw) (NS.step (wd hw 209 rfl) (NS.step (wd hw 210 rfl) (own_NSrootP (W211 hw) (own_plain2 (y := ⟨"java/util/ImmutableCollections$ListN", "size", "()I"⟩) (W667 hw)) (by decide)) (by decide)) (by decide)) (by decide)) (by decide)) (Y67 4 rfl) (pc' := 11) rfl ?_
  intro T2 C2
  refine C2.fY (pc' := 31) (Y67 5 rfl) (XT.i0_eq_t (by decide)) (by decide) rfl (C2.aL (Y67 6 rfl) rfl rfl ?_)
  refine C2.iface (W := 0) (wd hw 213 rfl) (wd hw 214 rfl) (wd hw 215 rfl) (wd hw 216 rfl) (wd hw 217 rfl) (wd hw 218 rfl) (wd hw 219 rfl) (wd hw 220 rfl) (wd hw 221 rfl) (W36 hw) (by decide) (rm_au49_isEmpty l Z a0 EL G p0 h C2.old f_0_2) (fun _ => rfl) rfl e_0 all0 (by decide) (by decide) (by decide) (by decide) (lenOf pd_28295a rfl) rfl (nb rfl) rfl (Y67 7 rfl) (pc' := 37) rfl ?_
  intro vm3 T3 h3 v3 C3 A3 M3 q3
  obtain ⟨rfl, rfl⟩ := q3
  refine C3.fN (Y67 8 rfl) (XT.i0_eq_f (by decide)) ?_
  refine C3.static (W := 0) (wd hw 484 rfl) (wd hw 485 rfl) (wd hw 486 rfl) (wd hw 201 rfl) (by decide) (rm_au50_of l Z a0 EL G  h C3.old ) (fun _ => rfl) rfl all0 (by decide) (by decide) (by decide) (by decide) (lenOf pd_7 rfl) rfl (nb rfl) rfl (Y67 9 rfl) (pc' := 43) rfl ?_
  intro vm4 T4 h4 v4 C4 A4 M4 q4
  obtain ⟨rfl, rfl⟩ := q4
  exact C4.retA (t := (.object "java/util/List")) rfl rfl rfl rfl (Y67 10 rfl) (by decide) (by decide) ⟨rfl, rfl⟩
theorem rm_au47_copyOf (G : Glob Z a0 EL) (p0 : Addr) (h : Heap) (O : Ext Z.heap h) (e_0 : Exa Z h p0 "java/util/ArrayList") (f_0_2 : Fld Z h p0 "java/util/ArrayList" "size" "I" (.int 0)) :
    Met l Z EL true ⟨"java/util/List", "copyOf", "(Ljava/util/Collection;)Ljava/util/List;"⟩ jdk_40_method_48_code 1 (some (.object "java/util/List")) [] ⟨2, 0, 0, 25⟩ #[(.ref p0)] h [] (fun r h' => r = some (.ref (sEL Z)) ∧ h = h') := by
  have hw := G.hw
  refine Met.of (plainFor_of_name pn_6c2f4c697374_28) G.ew O ?_
  intro p e s m below meth c T0 C0 S0
  refine Endw.eq (g' := mkF m 0 #[.val (.ref p0)] []) rfl ?_
  refine C0.aL (Y66 0 rfl) rfl rfl ?_
  refine C0.static (W := 0) (wd hw 203 rfl) (wd hw 204 rfl) (wd hw 206 rfl) (wd hw 205 rfl) (by decide) (rm_au48_listCopy l Z a0 EL G p0 h C0.old e_0 f_0_2) (fun _ => rfl) rfl all0 (by decide) (by decide) (by decide) (by decide) (lenOf pd_52 rfl) rfl (nb rfl) rfl (Y66 1 rfl) (pc' := 4) rfl ?_
  intro vm1 T1 h1 v1 C1 A1 M1 q1
  obtain ⟨rfl, rfl⟩ := q1
  exact C1.retA (t := (.object "java/util/List")) rfl rfl rfl rfl (Y66 2 rfl) (by decide) (by decide) ⟨rfl, rfl⟩
theorem rm_au53_init (G : Glob Z a0 EL) (p0 : Addr) (h : Heap) (O : Ext Z.heap h)  :
    Met l Z EL true ⟨"java/util/AbstractMap", "<init>", "()V"⟩ jdk_71_method_1_code 1 none [] ⟨1, 0, 0, 12⟩ #[(.ref p0)] h [] (fun r h' => r = none ∧ h = h') := by
  have hw := G.hw
  refine Met.of (plainFor_of_name pn_6163744d6170_17) G.ew O ?_
  intro p e s m below meth c T0 C0 S0
  refine Endw.eq (g' := mkF m 0 #[.val (.ref p0)] []) rfl ?_
  refine C0.aL (Y88 0 rfl) rfl rfl ?_
  refine C0.initO (wd hw 508 rfl) (W12 hw) (W13 hw) rfl (Y88 1 rfl) (pc' := 4) rfl (by decide) (W := 0) (nb rfl) (by decide) ?_
  intro T1 C1
  exact C1.retV (Y88 2 rfl) (by decide) (by decide) ⟨rfl, rfl⟩
theorem rm_au52_init (G : Glob Z a0 EL) (p0 : Addr) (h : Heap) (O : Ext Z.heap h) (e_0 : Exa Z h p0 "java/util/HashMap") (f_0_0 : Fld Z h p0 "java/util/HashMap" "loadFactor" "F" (.float (0 : UInt32))) (f_0_1 : Fld Z h p0 "java/util/HashMap" "modCount" "I" (.int 0)) (f_0_2 : Fld Z h p0 "java/util/HashMap" "size" "I" (.int 0)) (f_0_3 : Fld Z h p0 "java/util/HashMap" "table" "[Ljava/util/HashMap$Node;" .null) (f_0_4 : Fld Z h p0 "java/util/HashMap" "threshold" "I" (.int 0)) (z_0 : Z.heap.size ≤ p0) :
    Met l Z EL true ⟨"java/util/HashMap", "<init>", "()V"⟩ jdk_69_method_7_code 1 none [] ⟨2, 0, 0, 24⟩ #[(.ref p0)] h [] (fun r h' => r = none ∧ Keep h h' [p0] ∧ Exa Z h' p0 "java/util/HashMap" ∧ Fld Z h' p0 "java/util/HashMap" "loadFactor" "F" (.float (1061158912 : UInt32)) ∧ Fld Z h' p0 "java/util/HashMap" "modCount" "I" (.int 0) ∧ Fld Z h' p0 "java/util/HashMap" "size" "I" (.int 0) ∧ Fld Z h' p0 "java/util/HashMap" "table" "[Ljava/util/HashMap$Node;" .null ∧ Fld Z h' p0 "java/util/HashMap" "threshold" "I" (.int 0)) := by
  have hw := G.hw
  refine Met.of (plainFor_of_name pn_6173684d6170_20) G.ew O ?_
  intro p e s m below meth c T0 C0 S0
  refine Endw.eq (g' := mkF m 0 #[.val (.ref p0)] []) rfl ?_
  refine C0.aL (Y87 0 rfl) rfl rfl ?_
  refine C0.special (y := ⟨"java/util/AbstractMap", "<init>", "()V"⟩) (W := 0) rfl (wd hw 502 rfl) (wd hw 503 rfl) (wd hw 507 rfl) (wd hw 506 rfl) (by decide) (rm_au53_init l Z a0 EL G p0 h C0.old ) (fun _ => rfl) rfl all0 (by decide) (by decide) (by decide) (by decide) (lenOf pd_282956 rfl) rfl (nb rfl) rfl (Y87 1 rfl) (pc' := 4) rfl ?_
  intro vm1 T1 h1 v1 C1 A1 M1 q1
  obtain ⟨rfl, rfl⟩ := q1
  refine C1.aL (Y87 2 rfl) rfl rfl ?_
  refine Endw.st (T' := T1) (g' := (mkF m 7 #[.val (.ref p0)] [(.float (1061158912 : UInt32)), (.ref p0)])) (fun _ k_ => own_ldcF C1 (wd hw 509 rfl) rfl (Y87 3 rfl) k_) ?_
  refine C1.putF (v := (.float (1061158912 : UInt32))) (wd hw 510 rfl) f_0_0 e_0 (Or.inr ⟨(W511 hw), rfl, rfl⟩) (W497 hw) (ty := .float) (by decide) rfl rfl z_0 (Safe.exa C1.warm.alike e_0 (by decide) (by decide)) (Y87 4 rfl) (pc' := 10) rfl ?_
  intro T2 h2 C2 K2 A2 Wr2
  have f3 := f_0_0.same Wr2
  have f4 := f_0_1.other Wr2 (Or.inr (slot_ne (Or.inl (W645 hw)) (Or.inr (W511 hw)) (by decide) (t := .int) (t' := .float) (by decide) (by decide)))
  have f5 := f_0_2.other Wr2 (Or.inr (slot_ne (Or.inl (W647 hw)) (Or.inr (W511 hw)) (by decide) (t := .int) (t' := .float) (by decide) (by decide)))
  have f6 := f_0_3.other Wr2 (Or.inr (slot_ne (Or.inl (W614 hw)) (Or.inr (W511 hw)) (by decide) (t := (.array (.object "java/util/HashMap$Node"))) (t' := .float) (by decide) (by decide)))
  have f7 := f_0_4.other Wr2 (Or.inr (slot_ne (Or.inl (W621 hw)) (Or.inr (W511 hw)) (by decide) (t := .int) (t' := .float) (by decide) (by decide)))
  have f8 := (e_0.keep K2)
  exact C2.retV (Y87 5 rfl) (by decide) (by decide) ⟨rfl, K2, f8, f3, f4, f5, f6, f7⟩
theorem rm_au51_init (G : Glob Z a0 EL) (p0 p1 : Addr) (h : Heap) (O : Ext Z.heap h) (e_0 : Exa Z h p0 "com/example/dique/dique/model/Names") (f_0_0 : Fld Z h p0 "com/example/dique/dique/model/Names" "kind" "Ljava/lang/String;" .null) (f_0_1 : Fld Z h p0 "com/example/dique/dique/model/Names" "owners" "Ljava/util/Map;" .null) (z_0 : Z.heap.size ≤ p0) :
    Met l Z EL true ⟨"com/example/dique/dique/model/Names", "<init>", "(Ljava/lang/String;)V"⟩ prog_17_method_1_code 2 none [] ⟨3, 1, 8, 38⟩ #[(.ref p0), (.ref p1)] h [] (fun r h' => ∃ (q0 : Addr), r = none ∧ Keep h h' [p0] ∧ h.size ≤ q0 ∧ Z.heap.size ≤ q0 ∧ Exa Z h' p0 "com/example/dique/dique/model/Names" ∧ Fld Z h' p0 "com/example/dique/dique/model/Names" "kind" "Ljava/lang/String;" (.ref p1) ∧ Fld Z h' p0 "com/example/dique/dique/model/Names" "owners" "Ljava/util/Map;" (.ref q0) ∧ Exa Z h' q0 "java/util/HashMap" ∧ Fld Z h' q0 "java/util/HashMap" "loadFactor" "F" (.float (1061158912 : UInt32)) ∧ Fld Z h' q0 "java/util/HashMap" "modCount" "I" (.int 0) ∧ Fld Z h' q0 "java/util/HashMap" "size" "I" (.int 0) ∧ Fld Z h' q0 "java/util/HashMap" "table" "[Ljava/util/HashMap$Node;" .null ∧ Fld Z h' q0 "java/util/HashMap" "threshold" "I" (.int 0)) := by
  have hw := G.hw
  refine Met.of (plainFor_of_name pn_2f4e616d6573_2) G.ew O ?_
  intro p e s m below meth c T0 C0 S0
  refine Endw.eq (g' := mkF m 0 #[.val (.ref p0), .val (.ref p1)] []) rfl ?_
  refine C0.aL (Y86 0 rfl) rfl rfl ?_
  refine C0.initO (wd hw 495 rfl) (W12 hw) (W13 hw) rfl (Y86 1 rfl) (pc' := 4) rfl (by decide) (W := 0) (nb rfl) (by decide) ?_
  intro T1 C1
  refine C1.aL (Y86 2 rfl) rfl rfl ?_
  refine C1.new (wd hw 496 rfl) (W497 hw) (W498 hw) (Y86 3 rfl) (pc' := 8) rfl (by decide) (by decide) ?_
  intro T2 h2 a2 C2 K2 A2 ge2 zg2 E2 D2 S2
  refine C2.du (Y86 4 rfl) rfl ?_
  have f3 : Fld Z h2 a2 "java/util/HashMap" "loadFactor" "F" (.float (0 : UInt32)) := D2 (Or.inr (W511 hw)) (ty := .float) (by decide)
  have f4 : Fld Z h2 a2 "java/util/HashMap" "table" "[Ljava/util/HashMap$Node;" .null := D2 (Or.inl (W614 hw)) (ty := (.array (.object "java/util/HashMap$Node"))) (by decide)
  have f5 : Fld Z h2 a2 "java/util/HashMap" "threshold" "I" (.int 0) := D2 (Or.inl (W621 hw)) (ty := .int) (by decide)
  have f6 : Fld Z h2 a2 "java/util/HashMap" "modCount" "I" (.int 0) := D2 (Or.inl (W645 hw)) (ty := .int) (by decide)
  have f7 : Fld Z h2 a2 "java/util/HashMap" "size" "I" (.int 0) := D2 (Or.inl (W647 hw)) (ty := .int) (by decide)
  refine C2.special (y := ⟨"java/util/HashMap", "<init>", "()V"⟩) (W := 2) rfl (wd hw 499 rfl) (wd hw 500 rfl) (wd hw 501 rfl) (W498 hw) (by decide) (rm_au52_init l Z a0 EL G a2 h2 C2.old E2 f3 f6 f7 f4 f5 zg2) (fun _ => rfl) rfl all0 (by decide) (by decide) (by decide) (by decide) (lenOf pd_282956 rfl) rfl (nb rfl) rfl (Y86 5 rfl) (pc' := 12) rfl ?_
  intro vm8 T8 h8 v8 C8 A8 M8 q8
  obtain ⟨rfl, K8, E8_0, F8_0_0, F8_0_1, F8_0_2, F8_0_3, F8_0_4⟩ := q8
  have KK9 := (kT (kT (kR h []) K2 all0) K8 (allS (Or.inr ge2) all0))
  have f10 := (e_0.keep KK9)
  have f11 := (f_0_1.keep KK9 nin0)
  have f13 := (f_0_0.keep KK9 nin0)
  refine C8.putF (v := (.ref a2)) (wd hw 512 rfl) f11 f10 (Or.inr ⟨(wd hw 513 rfl), rfl, rfl⟩) (wd hw 490 rfl) (ty := (.object "java/util/Map")) (by decide) rfl rfl z_0 (Safe.exa C8.warm.alike f10 (by decide) (by decide)) (Y86 6 rfl) (pc' := 15) rfl ?_
  intro T12 h12 C12 K12 A12 Wr12
  have f14 := f11.same Wr12
  have f15 := f13.other Wr12 (Or.inr (slot_ne (Or.inr (wd hw 515 rfl)) (Or.inr (wd hw 513 rfl)) (by decide) (t := (.object "java/lang/String")) (t' := (.object "java/util/Map")) (by decide) (by decide)))
  refine C12.aL (Y86 7 rfl) rfl rfl (C12.aL (Y86 8 rfl) rfl rfl ?_)
  have f16 := (f10.keep K12)
  refine C12.putF (v := (.ref p1)) (wd hw 514 rfl) f15 f16 (Or.inr ⟨(wd hw 515 rfl), rfl, rfl⟩) (wd hw 490 rfl) (ty := (.object "java/lang/String")) (by decide) rfl rfl z_0 (Safe.exa C12.warm.alike f16 (by decide) (by decide)) (Y86 9 rfl) (pc' := 20) rfl ?_
  intro T17 h17 C17 K17 A17 Wr17
  have f18 := f15.same Wr17
  have f19 := f14.other Wr17 (Or.inr (slot_ne (Or.inr (wd hw 513 rfl)) (Or.inr (wd hw 515 rfl)) (by decide) (t := (.object "java/util/Map")) (t' := (.object "java/lang/String")) (by decide) (by decide)))
  have f20 := (f16.keep K17)
  have KK21 := (kT (kT (kT (kR h [p0]) KK9 all0) K12 (allS m0 all0)) K17 (allS m0 all0))
  have KK26 := (kT (kT (kR h8 [p0]) K12 (allS m0 all0)) K17 (allS m0 all0))
  have f27 := (E8_0.keep KK26)
  have ne28 : a2 ≠ p0 := (Ne.symm (nL (lL e_0.lt ge2)))
  have f29 := (F8_0_0.keep KK26 (ninS ne28 nin0))
  have f30 := (F8_0_1.keep KK26 (ninS ne28 nin0))
  have f31 := (F8_0_2.keep KK26 (ninS ne28 nin0))
  have f32 := (F8_0_3.keep KK26 (ninS ne28 nin0))
  have f33 := (F8_0_4.keep KK26 (ninS ne28 nin0))
  exact C17.retV (Y86 10 rfl) (by decide) (by decide) ⟨a2, rfl, KK21, ge2, zg2, f20, f18, f19, f27, f29, f30, f31, f32, f33⟩
theorem rm_au54_name (G : Glob Z a0 EL) (p0 p2 : Addr) (h : Heap) (O : Ext Z.heap h) (f_0_1 : Fld Z h p0 "com/example/dique/dique/model/Level" "name" "Ljava/lang/String;" (.ref p2)) :
    Met l Z EL true ⟨"com/example/dique/dique/model/Level", "name", "()Ljava/lang/String;"⟩ prog_14_method_5_code 1 (some (.object "java/lang/String")) [] ⟨0, 0, 0, 0⟩ #[(.ref p0)] h [] (fun r h' => r = some (.ref p2) ∧ h = h') := by
  have hw := G.hw
  refine Met.of (plainFor_of_name pn_2f4c6576656c_1) G.ew O ?_
  intro p e s m below meth c T0 C0 S0
  refine Endw.eq (g' := mkF m 0 #[.val (.ref p0)] []) rfl ?_
  refine C0.aL (Y89 0 rfl) rfl rfl ?_
  refine C0.getF (wd hw 457 rfl) f_0_1 (Y89 1 rfl) (pc' := 4) rfl ?_
  intro T1 C1
  exact C1.retA (t := (.object "java/lang/String")) rfl rfl rfl rfl (Y89 2 rfl) (by decide) (by decide) ⟨rfl, rfl⟩
theorem rm_au58_resize (G : Glob Z a0 EL) (p0 : Addr) (h : Heap) (O : Ext Z.heap h) (e_0 : Exa Z h p0 "java/util/HashMap") (f_0_0 : Fld Z h p0 "java/util/HashMap" "loadFactor" "F" (.float (1061158912 : UInt32))) (f_0_1 : Fld Z h p0 "java/util/HashMap" "modCount" "I" (.int 0)) (f_0_2 : Fld Z h p0 "java/util/HashMap" "size" "I" (.int 0)) (f_0_3 : Fld Z h p0 "java/util/HashMap" "table" "[Ljava/util/HashMap$Node;" .null) (f_0_4 : Fld Z h p0 "java/util/HashMap" "threshold" "I" (.int 0)) (z_0 : Z.heap.size ≤ p0) :
    Met l Z EL true ⟨"java/util/HashMap", "resize", "()[Ljava/util/HashMap$Node;"⟩ jdk_69_method_17_code 14 (some (.array (.object "java/util/HashMap$Node"))) [] ⟨0, 1, 16, 0⟩ #[(.ref p0)] h [] (fun r h' => ∃ (q0 : Addr) (kq0 : ClassId), r = some (.ref q0) ∧ Keep h h' [p0] ∧ h.size ≤ q0 ∧ Z.heap.size ≤ q0 ∧ Exa Z h' p0 "java/util/HashMap" ∧ Fld Z h' p0 "java/util/HashMap" "loadFactor" "F" (.float (1061158912 : UInt32)) ∧ Fld Z h' p0 "java/util/HashMap" "modCount" "I" (.int 0) ∧ Fld Z h' p0 "java/util/HashMap" "size" "I" (.int 0) ∧ Fld Z h' p0 "java/util/HashMap" "table" "[Ljava/util/HashMap$Node;" (.ref q0) ∧ Fld Z h' p0 "java/util/HashMap" "threshold" "I" (.int 12) ∧ Exa Z h' q0 "[Ljava/util/HashMap$Node;" ∧ Arv Z h' q0 kq0 (.object "java/util/HashMap$Node") (16 : Int32) [.null, .null, .null, .null, .null, .null, .null, .null, .null, .null, .null, .null, .null, .null, .null, .null] .null ∧ Ovr Z kq0 "java/util/HashMap$Node") := by
  have hw := G.hw
  refine Met.of (plainFor_of_name pn_6173684d6170_20) G.ew O ?_
  intro p e s m below meth c T0 C0 S0
  refine Endw.eq (g' := mkF m 0 #[.val (.ref p0), .unset, .unset, .unset, .unset, .unset, .unset, .unset, .unset, .unset, .unset, .unset, .unset, .unset] []) rfl ?_
  refine C0.aL (Y93 0 rfl) rfl rfl ?_
  refine C0.getF (wd hw 613 rfl) f_0_3 (Y93 1 rfl) (pc' := 4) rfl ?_
  intro T1 C1
  refine C1.aS (Y93 2 rfl) rfl (l' := #[.val (.ref p0), .val .null, .unset, .unset, .unset, .unset, .unset, .unset, .unset, .unset, .unset, .unset, .unset, .unset]) rfl (C1.aL (Y93 3 rfl) rfl rfl ?_)
  refine Endw.st (T' := T1) (g' := (mkF m 9 #[.val (.ref p0), .val .null, .unset, .unset, .unset, .unset, .unset, .unset, .unset, .unset, .unset, .unset, .unset, .unset] [])) (fun _ k_ => XS.ifnonnullNo C1.here C1.hx rfl (C1.dec (Y93 4 rfl)) rfl k_) ?_
  refine C1.ic (z := 0) (Y93 5 rfl) rfl (C1.go (pc' := 15) (Y93 6 rfl) (by decide) rfl (C1.iS (Y93 7 rfl) (l' := #[.val (.ref p0), .val .null, .val (.int 0), .unset, .unset, .unset, .unset, .unset, .unset, .unset, .unset, .unset, .unset, .unset]) rfl (C1.aL (Y93 8 rfl) rfl rfl ?_)))
  refine C1.getF (wd hw 620 rfl) f_0_4 (Y93 9 rfl) (pc' := 20) rfl ?_
  intro T2 C2
  refine C2.iS (Y93 10 rfl) (l' := #[.val (.ref p0), .val .null, .val (.int 0), .val (.int 0), .unset, .unset, .unset, .unset, .unset, .unset, .unset, .unset, .unset, .unset]) rfl (C2.ic (z := 0) (Y93 11 rfl) rfl (C2.iSk (Y93 12 rfl) (l' := #[.val (.ref p0), .val .null, .val (.int 0), .val (.int 0), .unset, .val (.int 0), .unset, .unset, .unset, .unset, .unset, .unset, .unset, .unset]) rfl (C2.iL (Y93 13 rfl) rfl (C2.fY (pc' := 67) (Y93 14 rfl) (XT.i0_le_t (by decide)) (by decide) rfl (C2.iL (Y93 15 rfl) rfl (C2.fY (pc' := 77) (Y93 16 rfl) (XT.i0_le_t (by decide)) (by decide) rfl (C2.bi (z := 16) (Y93 17 rfl) rfl (C2.iSk (Y93 18 rfl) (l' := #[.val (.ref p0), .val .null, .val (.int 0), .val (.int 0), .val (.int 16), .val (.int 0), .unset, .unset, .unset, .unset, .unset, .unset, .unset, .unset]) rfl (C2.bi (z := 12) (Y93 19 rfl) rfl ?_)))))))))
  refine C2.iSk (Y93 20 rfl) (l' := #[.val (.ref p0), .val .null, .val (.int 0), .val (.int 0), .val (.int 16), .val (.int 12), .unset, .unset, .unset, .unset, .unset, .unset, .unset, .unset]) rfl (C2.iLk (Y93 21 rfl) rfl (C2.fY (pc' := 125) (Y93 22 rfl) (XT.i0_ne_t (by decide)) (by decide) rfl (C2.aL (Y93 23 rfl) rfl rfl (C2.iLk (Y93 24 rfl) rfl ?_))))
  refine C2.putF (v := (.int 12)) (wd hw 620 rfl) f_0_4 e_0 (Or.inl (W621 hw)) (W497 hw) (ty := .int) (by decide) rfl rfl z_0 (Safe.exa C2.warm.alike e_0 (by decide) (by decide)) (Y93 25 rfl) (pc' := 131) rfl ?_
  intro T3 h3 C3 K3 A3 Wr3
  have f4 := f_0_4.same Wr3
  have f5 := f_0_0.other Wr3 (Or.inr (slot_ne (Or.inr (W511 hw)) (Or.inl (W621 hw)) (by decide) (t := .float) (t' := .int) (by decide) (by decide)))
  have f6 := f_0_1.other Wr3 (Or.inr (slot_ne (Or.inl (W645 hw)) (Or.inl (W621 hw)) (by decide) (t := .int) (t' := .int) (by decide) (by decide)))
  have f7 := f_0_2.other Wr3 (Or.inr (slot_ne (Or.inl (W647 hw)) (Or.inl (W621 hw)) (by decide) (t := .int) (t' := .int) (by decide) (by decide)))
  have f8 := f_0_3.other Wr3 (Or.inr (slot_ne (Or.inl (W614 hw)) (Or.inl (W621 hw)) (by decide) (t := (.array (.object "java/util/HashMap$Node"))) (t' := .int) (by decide) (by decide)))
  refine C3.iLk (Y93 26 rfl) rfl ?_
  refine C3.newR (K := "java/util/HashMap$Node") (ad := "[Ljava/util/HashMap$Node;") (z := (16 : Int32)) (cap := 16) (vs := [.null, .null, .null, .null, .null, .null, .null, .null, .null, .null, .null, .null, .null, .null, .null, .null]) (by decide +kernel) (wd hw 622 rfl) (wd hw 623 rfl) (Y93 27 rfl) (pc' := 136) rfl (by decide) (by decide) (by decide) (by decide) (by decide) rfl ?_
  intro T9 h9 a9 kA9 C9 K9 A9 ge9 zg9 V9 S9 E9 O9
  refine C9.aSk (Y93 28 rfl) rfl (l' := #[.val (.ref p0), .val .null, .val (.int 0), .val (.int 0), .val (.int 16), .val (.int 12), .val (.ref a9), .unset, .unset, .unset, .unset, .unset, .unset, .unset]) rfl (C9.aL (Y93 29 rfl) rfl rfl (C9.aLk (Y93 30 rfl) rfl rfl ?_))
  have KK10 := (kT (kT (kR h [p0]) K3 (allS m0 all0)) K9 all0)
  have f11 := (e_0.keep KK10)
  have f12 := (f8.keep K9 nin0)
  have f14 := (f5.keep K9 nin0)
  have f15 := (f6.keep K9 nin0)
  have f16 := (f7.keep K9 nin0)
  have f17 := (f4.keep K9 nin0)
  refine C9.putF (v := (.ref a9)) (wd hw 613 rfl) f12 f11 (Or.inl (W614 hw)) (W497 hw) (ty := (.array (.object "java/util/HashMap$Node"))) (by decide) rfl rfl z_0 (Safe.exa C9.warm.alike f11 (by decide) (by decide)) (Y93 31 rfl) (pc' := 144) rfl ?_
  intro T13 h13 C13 K13 A13 Wr13
  have f18 := f12.same Wr13
  have f19 := f14.other Wr13 (Or.inr (slot_ne (Or.inr (W511 hw)) (Or.inl (W614 hw)) (by decide) (t := .float) (t' := (.array (.object "java/util/HashMap$Node"))) (by decide) (by decide)))
  have f20 := f15.other Wr13 (Or.inr (slot_ne (Or.inl (W645 hw)) (Or.inl (W614 hw)) (by decide) (t := .int) (t' := (.array (.object "java/util/HashMap$Node"))) (by decide) (by decide)))
  have f21 := f16.other Wr13 (Or.inr (slot_ne (Or.inl (W647 hw)) (Or.inl (W614 hw)) (by decide) (t := .int) (t' := (.array (.object "java/util/HashMap$Node"))) (by decide) (by decide)))
  have f22 := f17.other Wr13 (Or.inr (slot_ne (Or.inl (W621 hw)) (Or.inl (W614 hw)) (by decide) (t := .int) (t' := (.array (.object "java/util/HashMap$Node"))) (by decide) (by decide)))
  refine C13.aL (Y93 32 rfl) rfl rfl ?_
  refine Endw.st (T' := T13) (g' := (mkF m 353 #[.val (.ref p0), .val .null, .val (.int 0), .val (.int 0), .val (.int 16), .val (.int 12), .val (.ref a9), .unset, .unset, .unset, .unset, .unset, .unset, .unset] [])) (fun _ k_ => XS.ifnullYes C13.here C13.hx rfl (pc0 := 145) rfl (C13.dec (Y93 33 rfl)) rfl (by decide) rfl k_) ?_
  refine C13.aLk (Y93 34 rfl) rfl rfl ?_
  have f23 := (E9.keep K13)
  have ne24 : a9 ≠ p0 := (Ne.symm (nL (lL (lL e_0.lt K3.1) ge9)))
  have f25 := (V9.keep K13 (ninS ne24 nin0))
  have f26 := (f11.keep K13)
  have KK27 := (kT KK10 K13 (allS m0 all0))
  exact C13.retA (t := (.array (.object "java/util/HashMap$Node"))) rfl rfl rfl rfl (Y93 35 rfl) (by decide) (by decide) ⟨a9, kA9, rfl, KK27, (lT K3.1 ge9), zg9, f26, f19, f20, f21, f18, f22, f23, f25, O9⟩
theorem rm_au60_init (G : Glob Z a0 EL) (p0 p1 p2 : Addr) (h : Heap) (O : Ext Z.heap h) (e_0 : Exa Z h p0 "java/util/HashMap$Node") (f_0_0 : Fld Z h p0 "java/util/HashMap$Node" "hash" "I" (.int 0)) (f_0_1 : Fld Z h p0 "java/util/HashMap$Node" "key" "Ljava/lang/Object;" .null) (f_0_2 : Fld Z h p0 "java/util/HashMap$Node" "next" "Ljava/util/HashMap$Node;" .null) (f_0_3 : Fld Z h p0 "java/util/HashMap$Node" "value" "Ljava/lang/Object;" .null) (z_0 : Z.heap.size ≤ p0) :
    Met l Z EL true ⟨"java/util/HashMap$Node", "<init>", "(ILjava/lang/Object;Ljava/lang/Object;Ljava/util/HashMap$Node;)V"⟩ jdk_70_method_1_code 5 none [] ⟨1, 0, 0, 12⟩ #[(.ref p0), (.int 108), (.ref p1), (.ref p2), .null] h [] (fun r h' => r = none ∧ Keep h h' [p0] ∧ Exa Z h' p0 "java/util/HashMap$Node" ∧ Fld Z h' p0 "java/util/HashMap$Node" "hash" "I" (.int 108) ∧ Fld Z h' p0 "java/util/HashMap$Node" "key" "Ljava/lang/Object;" (.ref p1) ∧ Fld Z h' p0 "java/util/HashMap$Node" "next" "Ljava/util/HashMap$Node;" .null ∧ Fld Z h' p0 "java/util/HashMap$Node" "value" "Ljava/lang/Object;" (.ref p2)) := by
  have hw := G.hw
  refine Met.of (plainFor_of_name pn_70244e6f6465_21) G.ew O ?_
  intro p e s m below meth c T0 C0 S0
  refine Endw.eq (g' := mkF m 0 #[.val (.ref p0), .val (.int 108), .val (.ref p1), .val (.ref p2), .val .null] []) rfl ?_
  refine C0.aL (Y95 0 rfl) rfl rfl ?_
  refine C0.initO (wd hw 635 rfl) (W12 hw) (W13 hw) rfl (Y95 1 rfl) (pc' := 4) rfl (by decide) (W := 0) (nb rfl) (by decide) ?_
  intro T1 C1
  refine C1.aL (Y95 2 rfl) rfl rfl (C1.iL (Y95 3 rfl) rfl ?_)
  refine C1.putF (v := (.int 108)) (wd hw 636 rfl) f_0_0 e_0 (Or.inr ⟨(W637 hw), rfl, rfl⟩) (W629 hw) (ty := .int) (by decide) rfl rfl z_0 (Safe.exa C1.warm.alike e_0 (by decide) (by decide)) (Y95 4 rfl) (pc' := 9) rfl ?_
  intro T2 h2 C2 K2 A2 Wr2
  have f3 := f_0_0.same Wr2
  have f4 := f_0_1.other Wr2 (Or.inr (slot_ne (Or.inr (W639 hw)) (Or.inr (W637 hw)) (by decide) (t := (.object "java/lang/Object")) (t' := .int) (by decide) (by decide)))
  have f5 := f_0_2.other Wr2 (Or.inr (slot_ne (Or.inl (W643 hw)) (Or.inr (W637 hw)) (by decide) (t := (.object "java/util/HashMap$Node")) (t' := .int) (by decide) (by decide)))
  have f6 := f_0_3.other Wr2 (Or.inr (slot_ne (Or.inl (W641 hw)) (Or.inr (W637 hw)) (by decide) (t := (.object "java/lang/Object")) (t' := .int) (by decide) (by decide)))
  refine C2.aL (Y95 5 rfl) rfl rfl (C2.aL (Y95 6 rfl) rfl rfl ?_)
  have f7 := (e_0.keep K2)
  refine C2.putF (v := (.ref p1)) (wd hw 638 rfl) f4 f7 (Or.inr ⟨(W639 hw), rfl, rfl⟩) (W629 hw) (ty := (.object "java/lang/Object")) (by decide) rfl rfl z_0 (Safe.exa C2.warm.alike f7 (by decide) (by decide)) (Y95 7 rfl) (pc' := 14) rfl ?_
  intro T8 h8 C8 K8 A8 Wr8
  have f9 := f4.same Wr8
  have f10 := f3.other Wr8 (Or.inr (slot_ne (Or.inr (W637 hw)) (Or.inr (W639 hw)) (by decide) (t := .int) (t' := (.object "java/lang/Object")) (by decide) (by decide)))
  have f11 := f5.other Wr8 (Or.inr (slot_ne (Or.inl (W643 hw)) (Or.inr (W639 hw)) (by decide) (t := (.object "java/util/HashMap$Node")) (t' := (.object "java/lang/Object")) (by decide) (by decide)))
  have f12 := f6.other Wr8 (Or.inr (slot_ne (Or.inl (W641 hw)) (Or.inr (W639 hw)) (by decide) (t := (.object "java/lang/Object")) (t' := (.object "java/lang/Object")) (by decide) (by decide)))
  refine C8.aL (Y95 8 rfl) rfl rfl (C8.aL (Y95 9 rfl) rfl rfl ?_)
  have f13 := (f7.keep K8)
  refine C8.putF (v := (.ref p2)) (wd hw 640 rfl) f12 f13 (Or.inl (W641 hw)) (W629 hw) (ty := (.object "java/lang/Object")) (by decide) rfl rfl z_0 (Safe.exa C8.warm.alike f13 (by decide) (by decide)) (Y95 10 rfl) (pc' := 19) rfl ?_
  intro T14 h14 C14 K14 A14 Wr14
  have f15 := f12.same Wr14
  have f16 := f10.other Wr14 (Or.inr (slot_ne (Or.inr (W637 hw)) (Or.inl (W641 hw)) (by decide) (t := .int) (t' := (.object "java/lang/Object")) (by decide) (by decide)))
  have f17 := f9.other Wr14 (Or.inr (slot_ne (Or.inr (W639 hw)) (Or.inl (W641 hw)) (by decide) (t := (.object "java/lang/Object")) (t' := (.object "java/lang/Object")) (by decide) (by decide)))
  have f18 := f11.other Wr14 (Or.inr (slot_ne (Or.inl (W643 hw)) (Or.inl (W641 hw)) (by decide) (t := (.object "java/util/HashMap$Node")) (t' := (.object "java/lang/Object")) (by decide) (by decide)))
  refine C14.aL (Y95 11 rfl) rfl rfl (C14.aLk (Y95 12 rfl) rfl rfl ?_)
  have f19 := (f13.keep K14)
  refine C14.putF (v := .null) (wd hw 642 rfl) f18 f19 (Or.inl (W643 hw)) (W629 hw) (ty := (.object "java/util/HashMap$Node")) (by decide) rfl rfl z_0 (Safe.exa C14.warm.alike f19 (by decide) (by decide)) (Y95 13 rfl) (pc' := 25) rfl ?_
  intro T20 h20 C20 K20 A20 Wr20
  have f21 := f18.same Wr20
  have f22 := f16.other Wr20 (Or.inr (slot_ne (Or.inr (W637 hw)) (Or.inl (W643 hw)) (by decide) (t := .int) (t' := (.object "java/util/HashMap$Node")) (by decide) (by decide)))
  have f23 := f17.other Wr20 (Or.inr (slot_ne (Or.inr (W639 hw)) (Or.inl (W643 hw)) (by decide) (t := (.object "java/lang/Object")) (t' := (.object "java/util/HashMap$Node")) (by decide) (by decide)))
  have f24 := f15.other Wr20 (Or.inr (slot_ne (Or.inl (W641 hw)) (Or.inl (W643 hw)) (by decide) (t := (.object "java/lang/Object")) (t' := (.object "java/util/HashMap$Node")) (by decide) (by decide)))
  have f25 := (f19.keep K20)
  have KK26 := (kT (kT (kT (kT (kR h [p0]) K2 (allS m0 all0)) K8 (allS m0 all0)) K14 (allS m0 all0)) K20 (allS m0 all0))
  exact C20.retV (Y95 14 rfl) (by decide) (by decide) ⟨rfl, KK26, f25, f22, f23, f21, f24⟩
theorem rm_au59_newNode (G : Glob Z a0 EL) (p0 p1 p2 : Addr) (h : Heap) (O : Ext Z.heap h)  :
    Met l Z EL true ⟨"java/util/HashMap", "newNode", "(ILjava/lang/Object;Ljava/lang/Object;Ljava/util/HashMap$Node;)Ljava/util/HashMap$Node;"⟩ jdk_69_method_46_code 5 (some (.object "java/util/HashMap$Node")) [] ⟨2, 1, 4, 29⟩ #[(.ref p0), (.int 108), (.ref p1), (.ref p2), .null] h [] (fun r h' => ∃ (q0 : Addr), r = some (.ref q0) ∧ Keep h h' [] ∧ h.size ≤ q0 ∧ Z.heap.size ≤ q0 ∧ Exa Z h' q0 "java/util/HashMap$Node" ∧ Fld Z h' q0 "java/util/HashMap$Node" "hash" "I" (.int 108) ∧ Fld Z h' q0 "java/util/HashMap$Node" "key" "Ljava/lang/Object;" (.ref p1) ∧ Fld Z h' q0 "java/util/HashMap$Node" "next" "Ljava/util/HashMap$Node;" .null ∧ Fld Z h' q0 "java/util/HashMap$Node" "value" "Ljava/lang/Object;" (.ref p2)) := by
  have hw := G.hw
  refine Met.of (plainFor_of_name pn_6173684d6170_20) G.ew O ?_
  intro p e s m below meth c T0 C0 S0
  refine Endw.eq (g' := mkF m 0 #[.val (.ref p0), .val (.int 108), .val (.ref p1), .val (.ref p2), .val .null] []) rfl ?_
  refine C0.new (wd hw 622 rfl) (W629 hw) (wd hw 630 rfl) (Y94 0 rfl) (pc' := 3) rfl (by decide) (by decide) ?_
  intro T1 h1 a1 C1 K1 A1 ge1 zg1 E1 D1 S1
  refine C1.du (Y94 1 rfl) rfl (C1.iL (Y94 2 rfl) rfl (C1.aL (Y94 3 rfl) rfl rfl (C1.aL (Y94 4 rfl) rfl rfl (C1.aLk (Y94 5 rfl) rfl rfl ?_))))
  have f2 : Fld Z h1 a1 "java/util/HashMap$Node" "hash" "I" (.int 0) := D1 (Or.inr (W637 hw)) (ty := .int) (by decide)
  have f3 : Fld Z h1 a1 "java/util/HashMap$Node" "key" "Ljava/lang/Object;" .null := D1 (Or.inr (W639 hw)) (ty := (.object "java/lang/Object")) (by decide)
  have f4 : Fld Z h1 a1 "java/util/HashMap$Node" "value" "Ljava/lang/Object;" .null := D1 (Or.inl (W641 hw)) (ty := (.object "java/lang/Object")) (by decide)
  have f5 : Fld Z h1 a1 "java/util/HashMap$Node" "next" "Ljava/util/HashMap$Node;" .null := D1 (Or.inl (W643 hw)) (ty := (.object "java/util/HashMap$Node")) (by decide)
  refine C1.special (y := ⟨"java/util/HashMap$Node", "<init>", "(ILjava/lang/Object;Ljava/lang/Object;Ljava/util/HashMap$Node;)V"⟩) (W := 1) rfl (wd hw 631 rfl) (wd hw 632 rfl) (wd hw 634 rfl) (wd hw 630 rfl) (by decide) (rm_au60_init l Z a0 EL G a1 p1 p2 h1 C1.old E1 f2 f3 f5 f4 zg1) (fun _ => rfl) rfl all0 (by decide) (by decide) (by decide) (by decide) (lenOf pd_29 rfl) rfl (nb rfl) rfl (Y94 6 rfl) (pc' := 12) rfl ?_
  intro vm15 T15 h15 v15 C15 A15 M15 q15
  obtain ⟨rfl, K15, E15_0, F15_0_0, F15_0_1, F15_0_2, F15_0_3⟩ := q15
  have KK24 := (kT (kT (kR h []) K1 all0) K15 (allS (Or.inr ge1) all0))
  exact C15.retA (t := (.object "java/util/HashMap$Node")) rfl rfl rfl rfl (Y94 7 rfl) (by decide) (by decide) ⟨a1, rfl, KK24, ge1, zg1, E15_0, F15_0_0, F15_0_1, F15_0_2, F15_0_3⟩
theorem rm_au61_afterNodeInsertion (G : Glob Z a0 EL) (p0 : Addr) (h : Heap) (O : Ext Z.heap h)  :
    Met l Z EL true ⟨"java/util/HashMap", "afterNodeInsertion", "(Z)V"⟩ jdk_69_method_52_code 2 none [] ⟨0, 0, 0, 0⟩ #[(.ref p0), (.int 1)] h [] (fun r h' => r = none ∧ h = h') := by
  refine Met.of (plainFor_of_name pn_6173684d6170_20) G.ew O ?_
  intro p e s m below meth c T0 C0 S0
  refine Endw.eq (g' := mkF m 0 #[.val (.ref p0), .val (.int 1)] []) rfl ?_
  exact C0.retV d96_0 (by decide) (by decide) ⟨rfl, rfl⟩
theorem rm_au57_putVal (G : Glob Z a0 EL) (p0 p1 p2 : Addr) (h : Heap) (O : Ext Z.heap h) (e_0 : Exa Z h p0 "java/util/HashMap") (f_0_0 : Fld Z h p0 "java/util/HashMap" "loadFactor" "F" (.float (1061158912 : UInt32))) (f_0_1 : Fld Z h p0 "java/util/HashMap" "modCount" "I" (.int 0)) (f_0_2 : Fld Z h p0 "java/util/HashMap" "size" "I" (.int 0)) (f_0_3 : Fld Z h p0 "java/util/HashMap" "table" "[Ljava/util/HashMap$Node;" .null) (f_0_4 : Fld Z h p0 "java/util/HashMap" "threshold" "I" (.int 0)) (z_0 : Z.heap.size ≤ p0) :
    Met l Z EL true ⟨"java/util/HashMap", "putVal", "(ILjava/lang/Object;Ljava/lang/Object;ZZ)Ljava/lang/Object;"⟩ jdk_69_method_16_code 13 (some (.object "java/lang/Object")) [] ⟨3, 2, 20, 47⟩ #[(.ref p0), (.int 108), (.ref p1), (.ref p2), (.int 1), (.int 1)] h [] (fun r h' => ∃ (q0 : Addr) (q1 : Addr) (kq0 : ClassId), r = some .null ∧ Keep h h' [p0] ∧ h.size ≤ q0 ∧ Z.heap.size ≤ q0 ∧ h.size ≤ q1 ∧ Z.heap.size ≤ q1 ∧ Exa Z h' p0 "java/util/HashMap" ∧ Fld Z h' p0 "java/util/HashMap" "loadFactor" "F" (.float (1061158912 : UInt32)) ∧ Fld Z h' p0 "java/util/HashMap" "modCount" "I" (.int 1) ∧ Fld Z h' p0 "java/util/HashMap" "size" "I" (.int 1) ∧ Fld Z h' p0 "java/util/HashMap" "table" "[Ljava/util/HashMap$Node;" (.ref q0) ∧ Fld Z h' p0 "java/util/HashMap" "threshold" "I" (.int 12) ∧ Exa Z h' q0 "[Ljava/util/HashMap$Node;" ∧ Arv Z h' q0 kq0 (.object "java/util/HashMap$Node") (16 : Int32) [.null, .null, .null, .null, .null, .null, .null, .null, .null, .null, .null, .null, (.ref q1), .null, .null, .null] .null ∧ Ovr Z kq0 "java/util/HashMap$Node" ∧ Exa Z h' q1 "java/util/HashMap$Node" ∧ Fld Z h' q1 "java/util/HashMap$Node" "hash" "I" (.int 108) ∧ Fld Z h' q1 "java/util/HashMap$Node" "key" "Ljava/lang/Object;" (.ref p1) ∧ Fld Z h' q1 "java/util/HashMap$Node" "next" "Ljava/util/HashMap$Node;" .null ∧ Fld Z h' q1 "java/util/HashMap$Node" "value" "Ljava/lang/Object;" (.ref p2)) := by
  have hw := G.hw
  refine Met.of (plainFor_of_name pn_6173684d6170_20) G.ew O ?_
  intro p e s m below meth c T0 C0 S0
  refine Endw.eq (g' := mkF m 0 #[.val (.ref p0), .val (.int 108), .val (.ref p1), .val (.ref p2), .val (.int 1), .val (.int 1), .unset, .unset, .unset, .unset, .unset, .unset, .unset] []) (by simp [entryFrame, mkF, argsToLocals, own_cI, own_cR, own_cN, own_cJ, own_cD, maxLocals]) ?_
  refine C0.aL (Y92 0 rfl) rfl rfl ?_
  refine C0.getF (wd hw 613 rfl) f_0_3 (Y92 1 rfl) (pc' := 4) rfl ?_
  intro T1 C1
  refine C1.du (Y92 2 rfl) rfl (C1.aSk (Y92 3 rfl) rfl (l' := #[.val (.ref p0), .val (.int 108), .val (.ref p1), .val (.ref p2), .val (.int 1), .val (.int 1), .val .null, .unset, .unset, .unset, .unset, .unset, .unset]) rfl ?_)
  refine Endw.st (T' := T1) (g' := (mkF m 19 #[.val (.ref p0), .val (.int 108), .val (.ref p1), .val (.ref p2), .val (.int 1), .val (.int 1), .val .null, .unset, .unset, .unset, .unset, .unset, .unset] [])) (fun _ k_ => XS.ifnullYes C1.here C1.hx rfl (pc0 := 7) rfl (C1.dec (Y92 4 rfl)) rfl (by decide) rfl k_) ?_
  refine C1.aL (Y92 5 rfl) rfl rfl ?_
  refine C1.virtual (W := 0) (wd hw 615 rfl) (wd hw 616 rfl) (fun _ q => notFace_of_selects (args := #[]) (mvT q (wd hw 618 rfl))) (wd hw 618 rfl) (wd hw 617 rfl) (wd hw 619 rfl) (W498 hw) (by decide) (rm_au58_resize l Z a0 EL G p0 h C1.old e_0 f_0_0 f_0_1 f_0_2 f_0_3 f_0_4 z_0) (fun _ => rfl) rfl e_0 all0 (by decide) (by decide) (by decide) (by decide) (lenOf pd_12 rfl) rfl (nb rfl) rfl (Y92 6 rfl) (pc' := 23) rfl ?_
  intro vm2 T2 h2 v2 C2 A2 M2 q2
  obtain ⟨q0_2, kq0_2, rfl, K2, ge_q0_2, zg_q0_2, E2_0, F2_0_0, F2_0_1, F2_0_2, F2_0_3, F2_0_4, E2_1, V2_1, O2_1⟩ := q2
  refine C2.du (Y92 7 rfl) rfl (C2.aSk (Y92 8 rfl) rfl (l' := #[.val (.ref p0), .val (.int 108), .val (.ref p1), .val (.ref p2), .val (.int 1), .val (.int 1), .val (.ref q0_2), .unset, .unset, .unset, .unset, .unset, .unset]) rfl ?_)
  refine C2.len V2_1 (Y92 9 rfl) (pc' := 27) rfl ?_
  show Endw p e below T2 (mkF m 27 #[.val (.ref p0), .val (.int 108), .val (.ref p1), .val (.ref p2), .val (.int 1), .val (.int 1), .val (.ref q0_2), .unset, .unset, .unset, .unset, .unset, .unset] [(.int 16)]) _
  refine C2.iSk (Y92 10 rfl) (l' := #[.val (.ref p0), .val (.int 108), .val (.ref p1), .val (.ref p2), .val (.int 1), .val (.int 1), .val (.ref q0_2), .unset, .val (.int 16), .unset, .unset, .unset, .unset]) rfl (C2.aLk (Y92 11 rfl) rfl rfl (C2.iLk (Y92 12 rfl) rfl (C2.ic (z := 1) (Y92 13 rfl) rfl (C2.sb (z := 15) (Y92 14 rfl) rfl (C2.iL (Y92 15 rfl) rfl (C2.an (z := 12) (Y92 16 rfl) rfl (C2.du (Y92 17 rfl) rfl (C2.iSk (Y92 18 rfl) (l' := #[.val (.ref p0), .val (.int 108), .val (.ref p1), .val (.ref p2), .val (.int 1), .val (.int 1), .val (.ref q0_2), .unset, .val (.int 16), .val (.int 12), .unset, .unset, .unset]) rfl ?_))))))))
  refine C2.aaload V2_1 rfl ⟨by decide, by decide⟩ (v := .null) rfl (Y92 19 rfl) (pc' := 41) rfl ?_
  refine C2.du (Y92 20 rfl) rfl (C2.aSk (Y92 21 rfl) rfl (l' := #[.val (.ref p0), .val (.int 108), .val (.ref p1), .val (.ref p2), .val (.int 1), .val (.int 1), .val (.ref q0_2), .val .null, .val (.int 16), .val (.int 12), .unset, .unset, .unset]) rfl ?_)
  refine Endw.st (T' := T2) (g' := (mkF m 47 #[.val (.ref p0), .val (.int 108), .val (.ref p1), .val (.ref p2), .val (.int 1), .val (.int 1), .val (.ref q0_2), .val .null, .val (.int 16), .val (.int 12), .unset, .unset, .unset] [])) (fun _ k_ => XS.ifnonnullNo C2.here C2.hx rfl (C2.dec (Y92 22 rfl)) rfl k_) ?_
  refine C2.aLk (Y92 23 rfl) rfl rfl (C2.iLk (Y92 24 rfl) rfl (C2.aL (Y92 25 rfl) rfl rfl (C2.iL (Y92 26 rfl) rfl (C2.aL (Y92 27 rfl) rfl rfl (C2.aL (Y92 28 rfl) rfl rfl (C2.nu (Y92 29 rfl) ?_))))))
  refine C2.virtual (W := 2) (wd hw 624 rfl) (wd hw 625 rfl) (fun _ q => notFace_of_selects (args := #[]) (mvT q (wd hw 627 rfl))) (wd hw 627 rfl) (wd hw 626 rfl) (wd hw 628 rfl) (W498 hw) (by decide) (rm_au59_newNode l Z a0 EL G p0 p1 p2 h2 C2.old ) (fun _ => rfl) rfl E2_0 all0 (by decide) (by decide) (by decide) (by decide) (lenOf pd_28 rfl) rfl (nb rfl) rfl (Y92 30 rfl) (pc' := 59) rfl ?_
  intro vm13 T13 h13 v13 C13 A13 M13 q13
  obtain ⟨q0_13, rfl, K13, ge_q0_13, zg_q0_13, E13_0, F13_0_0, F13_0_1, F13_0_2, F13_0_3⟩ := q13
  have f14 := (V2_1.keep K13 nin0)
  refine C13.aastore f14 O2_1 (Ins.self E13_0) ⟨by decide, by decide⟩ 12 (by decide) (nb rfl) zg_q0_2 (vs' := [.null, .null, .null, .null, .null, .null, .null, .null, .null, .null, .null, .null, (.ref q0_13), .null, .null, .null]) rfl (Y92 31 rfl) (pc' := 60) rfl ?_
  intro T15 h15 C15 K15 A15 V15
  refine C15.go (pc' := 259) (Y92 32 rfl) (by decide) rfl (C15.aL (Y92 33 rfl) rfl rfl (C15.du (Y92 34 rfl) rfl ?_))
  have KK16 := (kT (kT (kR h2 [q0_2]) K13 all0) K15 (allS m0 all0))
  have ne17 : p0 ≠ q0_2 := (nL (lL e_0.lt ge_q0_2))
  have f18 := (F2_0_1.keep KK16 (ninS ne17 nin0))
  refine C15.getF (wd hw 644 rfl) f18 (Y92 35 rfl) (pc' := 264) rfl ?_
  intro T19 C19
  refine C19.ic (z := 1) (Y92 36 rfl) rfl (C19.ad (z := 1) (Y92 37 rfl) rfl ?_)
  have f20 := (E2_0.keep KK16)
  have f22 := (F2_0_0.keep KK16 (ninS ne17 nin0))
  have f23 := (F2_0_2.keep KK16 (ninS ne17 nin0))
  have f24 := (F2_0_3.keep KK16 (ninS ne17 nin0))
  have f25 := (F2_0_4.keep KK16 (ninS ne17 nin0))
  refine C19.putF (v := (.int 1)) (wd hw 644 rfl) f18 f20 (Or.inl (W645 hw)) (W497 hw) (ty := .int) (by decide) rfl rfl z_0 (Safe.exa C19.warm.alike f20 (by decide) (by decide)) (Y92 38 rfl) (pc' := 269) rfl ?_
  intro T21 h21 C21 K21 A21 Wr21
  have f26 := f18.same Wr21
  have f27 := f22.other Wr21 (Or.inr (slot_ne (Or.inr (W511 hw)) (Or.inl (W645 hw)) (by decide) (t := .float) (t' := .int) (by decide) (by decide)))
  have f28 := f23.other Wr21 (Or.inr (slot_ne (Or.inl (W647 hw)) (Or.inl (W645 hw)) (by decide) (t := .int) (t' := .int) (by decide) (by decide)))
  have f29 := f24.other Wr21 (Or.inr (slot_ne (Or.inl (W614 hw)) (Or.inl (W645 hw)) (by decide) (t := (.array (.object "java/util/HashMap$Node"))) (t' := .int) (by decide) (by decide)))
  have f30 := f25.other Wr21 (Or.inr (slot_ne (Or.inl (W621 hw)) (Or.inl (W645 hw)) (by decide) (t := .int) (t' := .int) (by decide) (by decide)))
  refine C21.aL (Y92 39 rfl) rfl rfl (C21.du (Y92 40 rfl) rfl ?_)
  refine C21.getF (wd hw 646 rfl) f28 (Y92 41 rfl) (pc' := 274) rfl ?_
  intro T31 C31
  refine C31.ic (z := 1) (Y92 42 rfl) rfl (C31.ad (z := 1) (Y92 43 rfl) rfl ?_)
  refine Endw.st (T' := T31) (g' := (mkF m 277 #[.val (.ref p0), .val (.int 108), .val (.ref p1), .val (.ref p2), .val (.int 1), .val (.int 1), .val (.ref q0_2), .val .null, .val (.int 16), .val (.int 12), .unset, .unset, .unset] [(.int 1), (.ref p0), (.int 1)])) (fun _ k_ => XS.dupX1 C31.here C31.hx rfl (C31.dec (Y92 44 rfl)) rfl rfl rfl k_) ?_
  have f32 := (f20.keep K21)
  refine C31.putF (v := (.int 1)) (wd hw 646 rfl) f28 f32 (Or.inl (W647 hw)) (W497 hw) (ty := .int) (by decide) rfl rfl z_0 (Safe.exa C31.warm.alike f32 (by decide) (by decide)) (Y92 45 rfl) (pc' := 280) rfl ?_
  intro T33 h33 C33 K33 A33 Wr33
  have f34 := f28.same Wr33
  have f35 := f27.other Wr33 (Or.inr (slot_ne (Or.inr (W511 hw)) (Or.inl (W647 hw)) (by decide) (t := .float) (t' := .int) (by decide) (by decide)))
  have f36 := f26.other Wr33 (Or.inr (slot_ne (Or.inl (W645 hw)) (Or.inl (W647 hw)) (by decide) (t := .int) (t' := .int) (by decide) (by decide)))
  have f37 := f29.other Wr33 (Or.inr (slot_ne (Or.inl (W614 hw)) (Or.inl (W647 hw)) (by decide) (t := (.array (.object "java/util/HashMap$Node"))) (t' := .int) (by decide) (by decide)))
  have f38 := f30.other Wr33 (Or.inr (slot_ne (Or.inl (W621 hw)) (Or.inl (W647 hw)) (by decide) (t := .int) (t' := .int) (by decide) (by decide)))
  refine C33.aL (Y92 46 rfl) rfl rfl ?_
  refine C33.getF (wd hw 620 rfl) f38 (Y92 47 rfl) (pc' := 284) rfl ?_
  intro T39 C39
  refine C39.cY (pc' := 292) (Y92 48 rfl) (XT.ii_le_t (by decide)) (by decide) rfl (C39.aL (Y92 49 rfl) rfl rfl (C39.iLk (Y92 50 rfl) rfl ?_))
  have f40 := (f32.keep K33)
  have KK41 := (kT (kT (kT (kR h2 [q0_2, p0]) KK16 (allS m0 all0)) K21 (allS m1 all0)) K33 (allS m1 all0))
  have f42 := (E2_1.keep KK41)
  have KK43 := (kT (kT (kR h15 [p0]) K21 (allS m0 all0)) K33 (allS m0 all0))
  have f44 := (V15.keep KK43 (ninS (Ne.symm ne17) nin0))
  have KK45 := (kT (kT (kT (kR h13 [q0_2, p0]) K15 (allS m0 all0)) K21 (allS m1 all0)) K33 (allS m1 all0))
  have f46 := (E13_0.keep KK45)
  have ne47 : q0_13 ≠ p0 := (Ne.symm (nL (lL (lL e_0.lt K2.1) ge_q0_13)))
  have ne48 : q0_13 ≠ q0_2 := (Ne.symm (nL (lL E2_1.lt ge_q0_13)))
  have f49 := (F13_0_0.keep KK45 (ninS ne48 (ninS ne47 nin0)))
  have f50 := (F13_0_1.keep KK45 (ninS ne48 (ninS ne47 nin0)))
  have f51 := (F13_0_2.keep KK45 (ninS ne48 (ninS ne47 nin0)))
  have f52 := (F13_0_3.keep KK45 (ninS ne48 (ninS ne47 nin0)))
  refine C39.virtual (W := 0) (wd hw 648 rfl) (wd hw 649 rfl) (fun _ q => notFace_of_selects (args := #[]) (mvT q (wd hw 651 rfl))) (wd hw 651 rfl) (wd hw 650 rfl) (wd hw 652 rfl) (W498 hw) (by decide) (rm_au61_afterNodeInsertion l Z a0 EL G p0 h33 C39.old ) (fun _ => rfl) rfl f40 all0 (by decide) (by decide) (by decide) (by decide) (lenOf pd_285a2956 rfl) rfl (nb rfl) rfl (Y92 51 rfl) (pc' := 298) rfl ?_
  intro vm63 T63 h63 v63 C63 A63 M63 q63
  obtain ⟨rfl, rfl⟩ := q63
  refine C63.nu (Y92 52 rfl) ?_
  have KK64 := (kT (kT (kT (kT (kT (kR h [p0]) K2 (allS m0 all0)) K13 all0) K15 (allS (Or.inr ge_q0_2) all0)) K21 (allS m0 all0)) K33 (allS m0 all0))
  exact C63.retA (t := (.object "java/lang/Object")) rfl rfl rfl rfl (Y92 53 rfl) (by decide) (by decide) ⟨q0_2, q0_13, kq0_2, rfl, KK64, ge_q0_2, zg_q0_2, (lT K2.1 ge_q0_13), zg_q0_13, f40, f35, f36, f34, f37, f38, f42, f44, O2_1, f46, f49, f50, f51, f52⟩
theorem rm_au56_putIfAbsent (G : Glob Z a0 EL) (p0 p1 p2 p3 : Addr) (kp3 : ClassId) (h : Heap) (O : Ext Z.heap h) (e_0 : Exa Z h p0 "java/util/HashMap") (f_0_0 : Fld Z h p0 "java/util/HashMap" "loadFactor" "F" (.float (1061158912 : UInt32))) (f_0_1 : Fld Z h p0 "java/util/HashMap" "modCount" "I" (.int 0)) (f_0_2 : Fld Z h p0 "java/util/HashMap" "size" "I" (.int 0)) (f_0_3 : Fld Z h p0 "java/util/HashMap" "table" "[Ljava/util/HashMap$Node;" .null) (f_0_4 : Fld Z h p0 "java/util/HashMap" "threshold" "I" (.int 0)) (z_0 : Z.heap.size ≤ p0) (e_1 : Exa Z h p1 "java/lang/String") (f_1_1 : Fld Z h p1 "java/lang/String" "hash" "I" (.int 0)) (f_1_2 : Fld Z h p1 "java/lang/String" "hashIsZero" "Z" (.int 0)) (z_1 : Z.heap.size ≤ p1) (s_1 : Str Z h p1 p3 kp3 [(108 : Int32)]) :
    Met l Z EL true ⟨"java/util/HashMap", "putIfAbsent", "(Ljava/lang/Object;Ljava/lang/Object;)Ljava/lang/Object;"⟩ jdk_69_method_31_code 3 (some (.object "java/lang/Object")) [] ⟨4, 2, 20, 71⟩ #[(.ref p0), (.ref p1), (.ref p2)] h [p1] (fun r h' => ∃ (q0 : Addr) (q1 : Addr) (kq0 : ClassId), r = some .null ∧ Keep h h' [p0, p1] ∧ h.size ≤ q0 ∧ Z.heap.size ≤ q0 ∧ h.size ≤ q1 ∧ Z.heap.size ≤ q1 ∧ Exa Z h' p0 "java/util/HashMap" ∧ Fld Z h' p0 "java/util/HashMap" "loadFactor" "F" (.float (1061158912 : UInt32)) ∧ Fld Z h' p0 "java/util/HashMap" "modCount" "I" (.int 1) ∧ Fld Z h' p0 "java/util/HashMap" "size" "I" (.int 1) ∧ Fld Z h' p0 "java/util/HashMap" "table" "[Ljava/util/HashMap$Node;" (.ref q0) ∧ Fld Z h' p0 "java/util/HashMap" "threshold" "I" (.int 12) ∧ Exa Z h' p1 "java/lang/String" ∧ Fld Z h' p1 "java/lang/String" "coder" "B" (.int 0) ∧ Fld Z h' p1 "java/lang/String" "hash" "I" (.int 108) ∧ Fld Z h' p1 "java/lang/String" "hashIsZero" "Z" (.int 0) ∧ Fld Z h' p1 "java/lang/String" "value" "[B" (.ref p3) ∧ Exa Z h' q0 "[Ljava/util/HashMap$Node;" ∧ Arv Z h' q0 kq0 (.object "java/util/HashMap$Node") (16 : Int32) [.null, .null, .null, .null, .null, .null, .null, .null, .null, .null, .null, .null, (.ref q1), .null, .null, .null] .null ∧ Ovr Z kq0 "java/util/HashMap$Node" ∧ Exa Z h' q1 "java/util/HashMap$Node" ∧ Fld Z h' q1 "java/util/HashMap$Node" "hash" "I" (.int 108) ∧ Fld Z h' q1 "java/util/HashMap$Node" "key" "Ljava/lang/Object;" (.ref p1) ∧ Fld Z h' q1 "java/util/HashMap$Node" "next" "Ljava/util/HashMap$Node;" .null ∧ Fld Z h' q1 "java/util/HashMap$Node" "value" "Ljava/lang/Object;" (.ref p2)) := by
  have hw := G.hw
  refine Met.of (plainFor_of_name pn_6173684d6170_20) G.ew O ?_
  intro p e s m below meth c T0 C0 S0
  refine Endw.eq (g' := mkF m 0 #[.val (.ref p0), .val (.ref p1), .val (.ref p2)] []) rfl ?_
  refine C0.aL (Y91 0 rfl) rfl rfl (C0.aL (Y91 1 rfl) rfl rfl ?_)
  refine C0.static (W := 1) (wd hw 592 rfl) (wd hw 593 rfl) (wd hw 594 rfl) (W498 hw) (by decide) (rm_hash l Z a0 EL G p1 p3 kp3 (108 : Int32) h C0.old s_1 f_1_1 f_1_2 ⟨⟨by decide, by decide⟩, by decide, by decide⟩ z_1 (by decide)) (fun _ => rfl) rfl (allS ⟨e_1.lt, (S0 p1 (by simp))⟩ all0) (by decide) (by decide) (by decide) (by decide) (lenOf pd_33 rfl) rfl (nb rfl) rfl (Y91 2 rfl) (pc' := 5) rfl ?_
  intro vm1 T1 h1 v1 C1 A1 M1 q1
  obtain ⟨rfl, K1, Z1, H1, I1⟩ := q1
  refine C1.aL (Y91 3 rfl) rfl rfl (C1.aL (Y91 4 rfl) rfl rfl (C1.ic (z := 1) (Y91 5 rfl) rfl (C1.ic (z := 1) (Y91 6 rfl) rfl ?_)))
  have f2 := (e_0.keep K1)
  have ne3 : p0 ≠ p1 := (RoadKit.Exa.ne e_0 e_1 (by decide))
  have f4 := (f_0_0.keep K1 (ninS ne3 nin0))
  have f5 := (f_0_1.keep K1 (ninS ne3 nin0))
  have f6 := (f_0_2.keep K1 (ninS ne3 nin0))
  have f7 := (f_0_3.keep K1 (ninS ne3 nin0))
  have f8 := (f_0_4.keep K1 (ninS ne3 nin0))
  refine C1.virtual (W := 0) (wd hw 608 rfl) (wd hw 609 rfl) (fun _ q => notFace_of_selects (args := #[]) (mvT q (wd hw 611 rfl))) (wd hw 611 rfl) (wd hw 610 rfl) (wd hw 612 rfl) (W498 hw) (by decide) (rm_au57_putVal l Z a0 EL G p0 p1 p2 h1 C1.old f2 f4 f5 f6 f7 f8 z_0) (fun _ => rfl) rfl f2 all0 (by decide) (by decide) (by decide) (by decide) (lenOf pd_30 rfl) rfl (nb rfl) rfl (Y91 7 rfl) (pc' := 12) rfl ?_
  intro vm10 T10 h10 v10 C10 A10 M10 q10
  obtain ⟨q0_10, q1_10, kq0_10, rfl, K10, ge_q0_10, zg_q0_10, ge_q1_10, zg_q1_10, E10_0, F10_0_0, F10_0_1, F10_0_2, F10_0_3, F10_0_4, E10_1, V10_1, O10_1, E10_2, F10_2_0, F10_2_1, F10_2_2, F10_2_3⟩ := q10
  have f11 := (Z1.1.keep K10)
  have f12 := (Z1.2.1.keep K10 (ninS (Ne.symm ne3) nin0))
  have f13 := (H1.keep K10 (ninS (Ne.symm ne3) nin0))
  have f14 := (I1.keep K10 (ninS (Ne.symm ne3) nin0))
  have f15 := (Z1.2.2.1.keep K10 (ninS (Ne.symm ne3) nin0))
  have KK18 := (kT (kT (kR h [p1, p0]) K1 (allS m0 all0)) K10 (allS m1 all0))
  exact C10.retA (t := (.object "java/lang/Object")) rfl rfl rfl rfl (Y91 8 rfl) (by decide) (by decide) ⟨q0_10, q1_10, kq0_10, rfl, (kT (kR h [p0, p1]) KK18 (allS m1 (allS m0 all0))), (lT K1.1 ge_q0_10), zg_q0_10, (lT K1.1 ge_q1_10), zg_q1_10, E10_0, F10_0_0, F10_0_1, F10_0_2, F10_0_3, F10_0_4, f11, f12, f13, f14, f15, E10_1, V10_1, O10_1, E10_2, F10_2_0, F10_2_1, F10_2_2, F10_2_3⟩
theorem rm_au55_claim (G : Glob Z a0 EL) (p0 p1 p2 p4 p5 : Addr) (kp5 : ClassId) (h : Heap) (O : Ext Z.heap h) (f_0_1 : Fld Z h p0 "com/example/dique/dique/model/Names" "owners" "Ljava/util/Map;" (.ref p4)) (e_4 : Exa Z h p4 "java/util/HashMap") (f_4_0 : Fld Z h p4 "java/util/HashMap" "loadFactor" "F" (.float (1061158912 : UInt32))) (f_4_1 : Fld Z h p4 "java/util/HashMap" "modCount" "I" (.int 0)) (f_4_2 : Fld Z h p4 "java/util/HashMap" "size" "I" (.int 0)) (f_4_3 : Fld Z h p4 "java/util/HashMap" "table" "[Ljava/util/HashMap$Node;" .null) (f_4_4 : Fld Z h p4 "java/util/HashMap" "threshold" "I" (.int 0)) (z_4 : Z.heap.size ≤ p4) (s_1 : Str Z h p1 p5 kp5 [(108 : Int32)]) :
    Met l Z EL true ⟨"com/example/dique/dique/model/Names", "claim", "(Ljava/lang/String;Ljava/lang/String;)V"⟩ prog_17_method_2_code 5 none [] ⟨6, 6, 33, 86⟩ #[(.ref p0), (.ref p1), (.ref p2)] h [] (fun r h' => ∃ (q0 : Addr) (q1 : Addr) (q2 : Addr) (q3 : Addr) (kq0 : ClassId) (kq3 : ClassId), r = none ∧ Keep h h' [p4] ∧ h.size ≤ q0 ∧ Z.heap.size ≤ q0 ∧ h.size ≤ q1 ∧ Z.heap.size ≤ q1 ∧ h.size ≤ q2 ∧ Z.heap.size ≤ q2 ∧ h.size ≤ q3 ∧ Z.heap.size ≤ q3 ∧ Exa Z h' p4 "java/util/HashMap" ∧ Fld Z h' p4 "java/util/HashMap" "loadFactor" "F" (.float (1061158912 : UInt32)) ∧ Fld Z h' p4 "java/util/HashMap" "modCount" "I" (.int 1) ∧ Fld Z h' p4 "java/util/HashMap" "size" "I" (.int 1) ∧ Fld Z h' p4 "java/util/HashMap" "table" "[Ljava/util/HashMap$Node;" (.ref q0) ∧ Fld Z h' p4 "java/util/HashMap" "threshold" "I" (.int 12) ∧ Exa Z h' q0 "[Ljava/util/HashMap$Node;" ∧ Arv Z h' q0 kq0 (.object "java/util/HashMap$Node") (16 : Int32) [.null, .null, .null, .null, .null, .null, .null, .null, .null, .null, .null, .null, (.ref q1), .null, .null, .null] .null ∧ Ovr Z kq0 "java/util/HashMap$Node" ∧ Exa Z h' q1 "java/util/HashMap$Node" ∧ Fld Z h' q1 "java/util/HashMap$Node" "hash" "I" (.int 108) ∧ Fld Z h' q1 "java/util/HashMap$Node" "key" "Ljava/lang/Object;" (.ref q2) ∧ Fld Z h' q1 "java/util/HashMap$Node" "next" "Ljava/util/HashMap$Node;" .null ∧ Fld Z h' q1 "java/util/HashMap$Node" "value" "Ljava/lang/Object;" (.ref p2) ∧ Exa Z h' q2 "java/lang/String" ∧ Fld Z h' q2 "java/lang/String" "coder" "B" (.int 0) ∧ Fld Z h' q2 "java/lang/String" "hash" "I" (.int 108) ∧ Fld Z h' q2 "java/lang/String" "hashIsZero" "Z" (.int 0) ∧ Fld Z h' q2 "java/lang/String" "value" "[B" (.ref q3) ∧ Arv Z h' q3 kq3 .byte (Int32.ofNat [(108 : Int32)].length) (bys [(108 : Int32)]) (.int 0)) := by
  have hw := G.hw
  refine Met.of (plainFor_of_name pn_2f4e616d6573_2) G.ew O ?_
  intro p e s m below meth c T0 C0 S0
  refine Endw.eq (g' := mkF m 0 #[.val (.ref p0), .val (.ref p1), .val (.ref p2), .unset, .unset] []) rfl ?_
  refine C0.aL (Y90 0 rfl) rfl rfl ?_
  refine C0.getF (wd hw 512 rfl) f_0_1 (Y90 1 rfl) (pc' := 4) rfl ?_
  intro T1 C1
  refine C1.aL (Y90 2 rfl) rfl rfl ?_
  refine C1.static (W := 1) (wd hw 533 rfl) (wd hw 534 rfl) (wd hw 535 rfl) (W112 hw) (by decide) (rm_fold l Z a0 EL G p1 p5 kp5 (108 : Int32) h C1.old s_1 ⟨⟨by decide, by decide⟩, by decide, by decide⟩) (fun _ => rfl) rfl all0 (by decide) (by decide) (by decide) (by decide) (lenOf pd_43 rfl) rfl (nb rfl) rfl (Y90 3 rfl) (pc' := 8) rfl ?_
  intro vm2 T2 h2 v2 C2 A2 M2 q2
  obtain ⟨a2, d2, kd2, rfl, K2, ge2, gd2, zg2, zd2, Z2, H2, I2⟩ := q2
  refine C2.aL (Y90 4 rfl) rfl rfl ?_
  have f3 := (e_4.keep K2)
  have f4 := (f_4_0.keep K2 nin0)
  have f5 := (f_4_1.keep K2 nin0)
  have f6 := (f_4_2.keep K2 nin0)
  have f7 := (f_4_3.keep K2 nin0)
  have f8 := (f_4_4.keep K2 nin0)
  have ne10 : p4 ≠ d2 := (nL (lL e_4.lt gd2))
  have ne12 : a2 ≠ d2 := (RoadKit.Exa.neArv Z2.1 Z2.2.2.2.1 (W2 hw))
  refine C2.iface (W := 0) (wd hw 583 rfl) (wd hw 584 rfl) (wd hw 585 rfl) (wd hw 586 rfl) (wd hw 587 rfl) (wd hw 588 rfl) (wd hw 589 rfl) (wd hw 590 rfl) (wd hw 591 rfl) (W498 hw) (by decide) (rm_au56_putIfAbsent l Z a0 EL G p4 a2 p2 d2 kd2 h2 C2.old f3 f4 f5 f6 f7 f8 z_4 Z2.1 H2 I2 zg2 Z2) (fun _ => rfl) rfl f3 (allS ⟨Z2.1.lt, (own_safe_new (M2 rfl) ge2)⟩ all0) (by decide) (by decide) (by decide) (by decide) (lenOf pd_39 rfl) rfl (nb rfl) rfl (Y90 5 rfl) (pc' := 14) rfl ?_
  intro vm14 T14 h14 v14 C14 A14 M14 q14
  obtain ⟨q0_14, q1_14, kq0_14, rfl, K14, ge_q0_14, zg_q0_14, ge_q1_14, zg_q1_14, E14_0, F14_0_0, F14_0_1, F14_0_2, F14_0_3, F14_0_4, E14_1, F14_1_0, F14_1_1, F14_1_2, F14_1_3, E14_2, V14_2, O14_2, E14_3, F14_3_0, F14_3_1, F14_3_2, F14_3_3⟩ := q14
  refine Endw.st (T' := T14) (g' := (mkF m 17 #[.val (.ref p0), .val (.ref p1), .val (.ref p2), .unset, .unset] [.null])) (fun _ k_ => own_checkcastNull C14 rfl rfl (Y90 6 rfl) k_) ?_
  refine C14.aS (Y90 7 rfl) rfl (l' := #[.val (.ref p0), .val (.ref p1), .val (.ref p2), .val .null, .unset]) rfl (C14.aL (Y90 8 rfl) rfl rfl ?_)
  refine Endw.st (T' := T14) (g' := (mkF m 126 #[.val (.ref p0), .val (.ref p1), .val (.ref p2), .val .null, .unset] [])) (fun _ k_ => XS.ifnullYes C14.here C14.hx rfl (pc0 := 19) rfl (C14.dec (Y90 9 rfl)) rfl (by decide) rfl k_) ?_
  have f17 := (Z2.2.2.2.1.keep K14 (ninS (Ne.symm ne10) (ninS (Ne.symm ne12) nin0)))
  have KK18 := (kT (kT (kR h [p4]) K2 all0) K14 (allS m0 (allS (Or.inr ge2) all0)))
  exact C14.retV (Y90 10 rfl) (by decide) (by decide) ⟨q0_14, q1_14, a2, d2, kq0_14, kd2, rfl, KK18, (lT K2.1 ge_q0_14), zg_q0_14, (lT K2.1 ge_q1_14), zg_q1_14, ge2, zg2, gd2, zd2, E14_0, F14_0_0, F14_0_1, F14_0_2, F14_0_3, F14_0_4, E14_2, V14_2, O14_2, E14_3, F14_3_0, F14_3_1, F14_3_2, F14_3_3, E14_1, F14_1_0, F14_1_1, F14_1_2, F14_1_3, f17⟩
theorem rm_au62_columns (G : Glob Z a0 EL) (p0 p1 : Addr) (h : Heap) (O : Ext Z.heap h) (f_0_0 : Fld Z h p0 "com/example/dique/dique/model/Level" "columns" "Ljava/util/List;" (.ref p1)) :
    Met l Z EL true ⟨"com/example/dique/dique/model/Level", "columns", "()Ljava/util/List;"⟩ prog_14_method_6_code 1 (some (.object "java/util/List")) [] ⟨0, 0, 0, 0⟩ #[(.ref p0)] h [] (fun r h' => r = some (.ref p1) ∧ h = h') := by
  have hw := G.hw
  refine Met.of (plainFor_of_name pn_2f4c6576656c_1) G.ew O ?_
  intro p e s m below meth c T0 C0 S0
  refine Endw.eq (g' := mkF m 0 #[.val (.ref p0)] []) rfl ?_
  refine C0.aL (Y97 0 rfl) rfl rfl ?_
  refine C0.getF (wd hw 459 rfl) f_0_0 (Y97 1 rfl) (pc' := 4) rfl ?_
  intro T1 C1
  exact C1.retA (t := (.object "java/util/List")) rfl rfl rfl rfl (Y97 2 rfl) (by decide) (by decide) ⟨rfl, rfl⟩
theorem rm_au63_owner (G : Glob Z a0 EL) (p0 p1 p2 p4 p6 : Addr) (kp2 kp6 : ClassId) (h : Heap) (O : Ext Z.heap h) (e_1 : Exa Z h p1 "com/example/dique/dique/model/Level") (f_1_1 : Fld Z h p1 "com/example/dique/dique/model/Level" "name" "Ljava/lang/String;" (.ref p4)) (s_0 : Str Z h p0 p2 kp2 [(100 : Int32)]) (s_4 : Str Z h p4 p6 kp6 [(108 : Int32)]) :
    Met l Z EL false ⟨"com/example/dique/dique/model/Dimension", "owner", "(Ljava/lang/String;Lcom/example/dique/dique/model/Level;)Ljava/lang/String;"⟩ prog_12_method_7_code 2 (some (.object "java/lang/String")) [] ⟨6, 8, 100, 91⟩ #[(.ref p0), (.ref p1)] h [] (fun r h' => ∃ (q0 : Addr), r = some (.ref q0) ∧ Keep h h' [] ∧ h.size ≤ q0 ∧ Z.heap.size ≤ q0 ∧ Exa Z h' q0 "java/lang/String") := by
  have hw := G.hw
  refine Met.of (plainFor_of_name pn_656e73696f6e_0) G.ew O ?_
  intro p e s m below meth c T0 C0 S0
  refine Endw.eq (g' := mkF m 0 #[.val (.ref p0), .val (.ref p1)] []) rfl ?_
  refine C0.new (wd hw 475 rfl) (W349 hw) (W350 hw) (Y98 0 rfl) (pc' := 3) rfl (by decide) (by decide) ?_
  intro T1 h1 a1 C1 K1 A1 ge1 zg1 E1 D1 S1
  refine C1.du (Y98 1 rfl) rfl ?_
  have f2 : Fld Z h1 a1 "java/lang/AbstractStringBuilder" "value" "[B" .null := D1 (Or.inl (W363 hw)) (ty := (.array .byte)) (by decide)
  have f3 : Fld Z h1 a1 "java/lang/AbstractStringBuilder" "coder" "B" (.int 0) := D1 (Or.inl (W365 hw)) (ty := .byte) (by decide)
  have f4 : Fld Z h1 a1 "java/lang/AbstractStringBuilder" "count" "I" (.int 0) := D1 (Or.inl (W379 hw)) (ty := .int) (by decide)
  refine C1.special (y := ⟨"java/lang/StringBuilder", "<init>", "()V"⟩) (W := 1) rfl (wd hw 476 rfl) (wd hw 352 rfl) (wd hw 353 rfl) (W350 hw) (by decide) (rm_sbInit l Z a0 EL G a1 h1 C1.old E1 f2 f3 f4 zg1) (fun _ => rfl) rfl all0 (by decide) (by decide) (by decide) (by decide) (lenOf pd_282956 rfl) rfl (nb rfl) rfl (Y98 2 rfl) (pc' := 7) rfl ?_
  intro vm5 T5 h5 v5 C5 A5 M5 q5
  obtain ⟨rfl, t5, kb5, K5, ge5, zg5, Z5⟩ := q5
  refine C5.ldcC (N := 24) (vs := (bys [(108 : Int32), (101 : Int32), (118 : Int32), (101 : Int32), (108 : Int32), (32 : Int32)])) (z := (6 : Int32)) (W662 hw) G.wS (by rw [G.el]; decide) ⟨by decide, by decide⟩ (by decide) (by decide) (by decide) (by decide) (by decide) (by decide) (Y98 3 rfl) (pc' := 9) rfl rfl ?_
  intro vm6 T6 h6 a6 b6 kA6 C6 K6 A6 E6 F6 f6 V6 r6
  have f8 := (A6.safe Z5.2.2.2.1.lt (own_safe_new (M5 rfl) ge5))
  have Z6 : Str Z h6 a6 b6 kA6 [(108 : Int32), (101 : Int32), (118 : Int32), (101 : Int32), (108 : Int32), (32 : Int32)] := ⟨E6, F6, f6, V6, (own_cS ⟨by decide, by decide⟩ (own_cS ⟨by decide, by decide⟩ (own_cS ⟨by decide, by decide⟩ (own_cS ⟨by decide, by decide⟩ (own_cS ⟨by decide, by decide⟩ (own_cS ⟨by decide, by decide⟩ own_c0)))))), by decide⟩
  have f9 := (Z5.keep K6 nin0 nin0)
  have f11 := (Z5.1.keep K6)
  refine C6.virtual (W := 0) (W478 hw) (W368 hw) (fun _ q => notFace_of_selects (args := #[]) (mvT q (W370 hw))) (W370 hw) (W369 hw) (W371 hw) (W350 hw) (by decide) (rm_sbAppend l Z a0 EL G a1 t5 kb5 [] 16 a6 b6 kA6 [(108 : Int32), (101 : Int32), (118 : Int32), (101 : Int32), (108 : Int32), (32 : Int32)] h6 C6.old f9 Z6 (nb rfl) zg1 zg5) (fun _ => rfl) rfl f11 (allS ⟨(lL Z5.2.2.2.1.lt K6.1), f8⟩ all0) (by decide) (by decide) (by decide) (by decide) (lenOf pd_44 rfl) rfl (nb rfl) rfl (Y98 4 rfl) (pc' := 12) rfl ?_
  intro vm10 T10 h10 v10 C10 A10 M10 q10
  obtain ⟨rfl, K10, Z10⟩ := q10
  refine C10.aL (Y98 5 rfl) rfl rfl ?_
  have KK12 := (kT (kT (kT (kT (kR h []) K1 all0) K5 (allS (Or.inr ge1) all0)) K6 all0) K10 (allS (Or.inr ge1) (allS (Or.inr (lT K1.1 ge5)) all0)))
  have f13 := (s_0.keep KK12 nin0 nin0)
  have f15 := (A10.safe (lL Z5.2.2.2.1.lt K6.1) f8)
  refine C10.virtual (W := 0) (W478 hw) (W368 hw) (fun _ q => notFace_of_selects (args := #[]) (mvT q (W370 hw))) (W370 hw) (W369 hw) (W371 hw) (W350 hw) (by decide) (rm_sbAppend l Z a0 EL G a1 t5 kb5 ([] ++ [(108 : Int32), (101 : Int32), (118 : Int32), (101 : Int32), (108 : Int32), (32 : Int32)]) 16 p0 p2 kp2 [(100 : Int32)] h10 C10.old Z10 f13 (nb rfl) zg1 zg5) (fun _ => rfl) rfl Z10.1 (allS ⟨(lL Z5.2.2.2.1.lt (lT K6.1 K10.1)), f15⟩ all0) (by decide) (by decide) (by decide) (by decide) (lenOf pd_44 rfl) rfl (nb rfl) rfl (Y98 6 rfl) (pc' := 16) rfl ?_
  intro vm14 T14 h14 v14 C14 A14 M14 q14
  obtain ⟨rfl, K14, Z14⟩ := q14
  refine C14.ldcC (N := 4) (vs := (bys [(46 : Int32)])) (z := (1 : Int32)) (W663 hw) G.wS (by rw [G.el]; decide) ⟨by decide, by decide⟩ (by decide) (by decide) (by decide) (by decide) (by decide) (by decide) (Y98 7 rfl) (pc' := 18) rfl rfl ?_
  intro vm16 T16 h16 a16 b16 kA16 C16 K16 A16 E16 F16 f16 V16 r16
  have f18 := (A16.safe (lL Z5.2.2.2.1.lt (lT K6.1 (lT K10.1 K14.1))) (A14.safe (lL Z5.2.2.2.1.lt (lT K6.1 K10.1)) f15))
  have Z16 : Str Z h16 a16 b16 kA16 [(46 : Int32)] := ⟨E16, F16, f16, V16, (own_cS ⟨by decide, by decide⟩ own_c0), by decide⟩
  have f19 := (Z14.keep K16 nin0 nin0)
  have f21 := (Z14.1.keep K16)
  refine C16.virtual (W := 0) (W478 hw) (W368 hw) (fun _ q => notFace_of_selects (args := #[]) (mvT q (W370 hw))) (W370 hw) (W369 hw) (W371 hw) (W350 hw) (by decide) (rm_sbAppend l Z a0 EL G a1 t5 kb5 (([] ++ [(108 : Int32), (101 : Int32), (118 : Int32), (101 : Int32), (108 : Int32), (32 : Int32)]) ++ [(100 : Int32)]) 16 a16 b16 kA16 [(46 : Int32)] h16 C16.old f19 Z16 (nb rfl) zg1 zg5) (fun _ => rfl) rfl f21 (allS ⟨(lL Z5.2.2.2.1.lt (lT K6.1 (lT K10.1 (lT K14.1 K16.1)))), f18⟩ all0) (by decide) (by decide) (by decide) (by decide) (lenOf pd_44 rfl) rfl (nb rfl) rfl (Y98 8 rfl) (pc' := 21) rfl ?_
  intro vm20 T20 h20 v20 C20 A20 M20 q20
  obtain ⟨rfl, K20, Z20⟩ := q20
  refine C20.aL (Y98 9 rfl) rfl rfl ?_
  have KK22 := (kT (kT (kT KK12 K14 (allS (Or.inr ge1) (allS (Or.inr (lT K1.1 ge5)) all0))) K16 all0) K20 (allS (Or.inr ge1) (allS (Or.inr (lT K1.1 ge5)) all0)))
  have f23 := (e_1.keep KK22)
  have f25 := (f_1_1.keep KK22 nin0)
  refine C20.virtual (W := 1) (wd hw 522 rfl) (wd hw 523 rfl) (fun _ q => notFace_of_selects (args := #[]) (mvT q (wd hw 525 rfl))) (wd hw 525 rfl) (wd hw 524 rfl) (wd hw 526 rfl) (wd hw 94 rfl) (by decide) (rm_au54_name l Z a0 EL G p1 p4 h20 C20.old f25) (fun _ => rfl) rfl f23 all0 (by decide) (by decide) (by decide) (by decide) (lenOf pd_5 rfl) rfl (nb rfl) rfl (Y98 10 rfl) (pc' := 25) rfl ?_
  intro vm32 T32 h32 v32 C32 A32 M32 q32
  obtain ⟨rfl, rfl⟩ := q32
  have f33 := (s_4.keep KK22 nin0 nin0)
  have f35 := (A32.safe (lL Z5.2.2.2.1.lt (lT K6.1 (lT K10.1 (lT K14.1 (lT K16.1 K20.1))))) (A20.safe (lL Z5.2.2.2.1.lt (lT K6.1 (lT K10.1 (lT K14.1 K16.1)))) f18))
  refine C32.virtual (W := 0) (W478 hw) (W368 hw) (fun _ q => notFace_of_selects (args := #[]) (mvT q (W370 hw))) (W370 hw) (W369 hw) (W371 hw) (W350 hw) (by decide) (rm_sbAppend l Z a0 EL G a1 t5 kb5 ((([] ++ [(108 : Int32), (101 : Int32), (118 : Int32), (101 : Int32), (108 : Int32), (32 : Int32)]) ++ [(100 : Int32)]) ++ [(46 : Int32)]) 16 p4 p6 kp6 [(108 : Int32)] h20 C32.old Z20 f33 (nb rfl) zg1 zg5) (fun _ => rfl) rfl Z20.1 (allS ⟨(lL Z5.2.2.2.1.lt (lT K6.1 (lT K10.1 (lT K14.1 (lT K16.1 K20.1))))), f35⟩ all0) (by decide) (by decide) (by decide) (by decide) (lenOf pd_44 rfl) rfl (nb rfl) rfl (Y98 11 rfl) (pc' := 28) rfl ?_
  intro vm34 T34 h34 v34 C34 A34 M34 q34
  obtain ⟨rfl, K34, Z34⟩ := q34
  refine C34.virtual (W := 0) (wd hw 479 rfl) (W418 hw) (fun _ q => notFace_of_selects (args := #[]) (mvT q (W420 hw))) (W420 hw) (W419 hw) (W421 hw) (W350 hw) (by decide) (rm_toString l Z a0 EL G a1 t5 kb5 (((([] ++ [(108 : Int32), (101 : Int32), (118 : Int32), (101 : Int32), (108 : Int32), (32 : Int32)]) ++ [(100 : Int32)]) ++ [(46 : Int32)]) ++ [(108 : Int32)]) 16 h34 C34.old Z34 (nb rfl) (nb rfl)) (fun _ => rfl) rfl Z34.1 all0 (by decide) (by decide) (by decide) (by decide) (lenOf pd_5 rfl) rfl (nb rfl) rfl (Y98 12 rfl) (pc' := 31) rfl ?_
  intro vm36 T36 h36 v36 C36 A36 M36 q36
  obtain ⟨a36, d36, kd36, rfl, K36, ge36, gd36, zg36, zd36, Z36⟩ := q36
  have KK37 := (kT (kT KK22 K34 (allS (Or.inr ge1) (allS (Or.inr (lT K1.1 ge5)) all0))) K36 all0)
  exact C36.retA (t := (.object "java/lang/String")) rfl rfl rfl rfl (Y98 13 rfl) (by decide) (by decide) ⟨a36, rfl, KK37, (lT (lT KK22.1 K34.1) ge36), zg36, Z36.1⟩
theorem rm_au68_init (G : Glob Z a0 EL) (p0 p1 p2 : Addr) (h : Heap) (O : Ext Z.heap h) (e_0 : Exa Z h p0 "java/util/HashMap$Node") (f_0_0 : Fld Z h p0 "java/util/HashMap$Node" "hash" "I" (.int 0)) (f_0_1 : Fld Z h p0 "java/util/HashMap$Node" "key" "Ljava/lang/Object;" .null) (f_0_2 : Fld Z h p0 "java/util/HashMap$Node" "next" "Ljava/util/HashMap$Node;" .null) (f_0_3 : Fld Z h p0 "java/util/HashMap$Node" "value" "Ljava/lang/Object;" .null) (z_0 : Z.heap.size ≤ p0) :
    Met l Z EL true ⟨"java/util/HashMap$Node", "<init>", "(ILjava/lang/Object;Ljava/lang/Object;Ljava/util/HashMap$Node;)V"⟩ jdk_70_method_1_code 5 none [] ⟨1, 0, 0, 12⟩ #[(.ref p0), (.int 99), (.ref p1), (.ref p2), .null] h [] (fun r h' => r = none ∧ Keep h h' [p0] ∧ Exa Z h' p0 "java/util/HashMap$Node" ∧ Fld Z h' p0 "java/util/HashMap$Node" "hash" "I" (.int 99) ∧ Fld Z h' p0 "java/util/HashMap$Node" "key" "Ljava/lang/Object;" (.ref p1) ∧ Fld Z h' p0 "java/util/HashMap$Node" "next" "Ljava/util/HashMap$Node;" .null ∧ Fld Z h' p0 "java/util/HashMap$Node" "value" "Ljava/lang/Object;" (.ref p2)) := by
  have hw := G.hw
  refine Met.of (plainFor_of_name pn_70244e6f6465_21) G.ew O ?_
  intro p e s m below meth c T0 C0 S0
  refine Endw.eq (g' := mkF m 0 #[.val (.ref p0), .val (.int 99), .val (.ref p1), .val (.ref p2), .val .null] []) rfl ?_
  refine C0.aL (Y95 0 rfl) rfl rfl ?_
  refine C0.initO (wd hw 635 rfl) (W12 hw) (W13 hw) rfl (Y95 1 rfl) (pc' := 4) rfl (by decide) (W := 0) (nb rfl) (by decide) ?_
  intro T1 C1
  refine C1.aL (Y95 2 rfl) rfl rfl (C1.iL (Y95 3 rfl) rfl ?_)
  refine C1.putF (v := (.int 99)) (wd hw 636 rfl) f_0_0 e_0 (Or.inr ⟨(W637 hw), rfl, rfl⟩) (W629 hw) (ty := .int) (by decide) rfl rfl z_0 (Safe.exa C1.warm.alike e_0 (by decide) (by decide)) (Y95 4 rfl) (pc' := 9) rfl ?_
  intro T2 h2 C2 K2 A2 Wr2
  have f3 := f_0_0.same Wr2
  have f4 := f_0_1.other Wr2 (Or.inr (slot_ne (Or.inr (W639 hw)) (Or.inr (W637 hw)) (by decide) (t := (.object "java/lang/Object")) (t' := .int) (by decide) (by decide)))
  have f5 := f_0_2.other Wr2 (Or.inr (slot_ne (Or.inl (W643 hw)) (Or.inr (W637 hw)) (by decide) (t := (.object "java/util/HashMap$Node")) (t' := .int) (by decide) (by decide)))
  have f6 := f_0_3.other Wr2 (Or.inr (slot_ne (Or.inl (W641 hw)) (Or.inr (W637 hw)) (by decide) (t := (.object "java/lang/Object")) (t' := .int) (by decide) (by decide)))
  refine C2.aL (Y95 5 rfl) rfl rfl (C2.aL (Y95 6 rfl) rfl rfl ?_)
  have f7 := (e_0.keep K2)
  refine C2.putF (v := (.ref p1)) (wd hw 638 rfl) f4 f7 (Or.inr ⟨(W639 hw), rfl, rfl⟩) (W629 hw) (ty := (.object "java/lang/Object")) (by decide) rfl rfl z_0 (Safe.exa C2.warm.alike f7 (by decide) (by decide)) (Y95 7 rfl) (pc' := 14) rfl ?_
  intro T8 h8 C8 K8 A8 Wr8
  have f9 := f4.same Wr8
  have f10 := f3.other Wr8 (Or.inr (slot_ne (Or.inr (W637 hw)) (Or.inr (W639 hw)) (by decide) (t := .int) (t' := (.object "java/lang/Object")) (by decide) (by decide)))
  have f11 := f5.other Wr8 (Or.inr (slot_ne (Or.inl (W643 hw)) (Or.inr (W639 hw)) (by decide) (t := (.object "java/util/HashMap$Node")) (t' := (.object "java/lang/Object")) (by decide) (by decide)))
  have f12 := f6.other Wr8 (Or.inr (slot_ne (Or.inl (W641 hw)) (Or.inr (W639 hw)) (by decide) (t := (.object "java/lang/Object")) (t' := (.object "java/lang/Object")) (by decide) (by decide)))
  refine C8.aL (Y95 8 rfl) rfl rfl (C8.aL (Y95 9 rfl) rfl rfl ?_)
  have f13 := (f7.keep K8)
  refine C8.putF (v := (.ref p2)) (wd hw 640 rfl) f12 f13 (Or.inl (W641 hw)) (W629 hw) (ty := (.object "java/lang/Object")) (by decide) rfl rfl z_0 (Safe.exa C8.warm.alike f13 (by decide) (by decide)) (Y95 10 rfl) (pc' := 19) rfl ?_
  intro T14 h14 C14 K14 A14 Wr14
  have f15 := f12.same Wr14
  have f16 := f10.other Wr14 (Or.inr (slot_ne (Or.inr (W637 hw)) (Or.inl (W641 hw)) (by decide) (t := .int) (t' := (.object "java/lang/Object")) (by decide) (by decide)))
  have f17 := f9.other Wr14 (Or.inr (slot_ne (Or.inr (W639 hw)) (Or.inl (W641 hw)) (by decide) (t := (.object "java/lang/Object")) (t' := (.object "java/lang/Object")) (by decide) (by decide)))
  have f18 := f11.other Wr14 (Or.inr (slot_ne (Or.inl (W643 hw)) (Or.inl (W641 hw)) (by decide) (t := (.object "java/util/HashMap$Node")) (t' := (.object "java/lang/Object")) (by decide) (by decide)))
  refine C14.aL (Y95 11 rfl) rfl rfl (C14.aLk (Y95 12 rfl) rfl rfl ?_)
  have f19 := (f13.keep K14)
  refine C14.putF (v := .null) (wd hw 642 rfl) f18 f19 (Or.inl (W643 hw)) (W629 hw) (ty := (.object "java/util/HashMap$Node")) (by decide) rfl rfl z_0 (Safe.exa C14.warm.alike f19 (by decide) (by decide)) (Y95 13 rfl) (pc' := 25) rfl ?_
  intro T20 h20 C20 K20 A20 Wr20
  have f21 := f18.same Wr20
  have f22 := f16.other Wr20 (Or.inr (slot_ne (Or.inr (W637 hw)) (Or.inl (W643 hw)) (by decide) (t := .int) (t' := (.object "java/util/HashMap$Node")) (by decide) (by decide)))
  have f23 := f17.other Wr20 (Or.inr (slot_ne (Or.inr (W639 hw)) (Or.inl (W643 hw)) (by decide) (t := (.object "java/lang/Object")) (t' := (.object "java/util/HashMap$Node")) (by decide) (by decide)))
  have f24 := f15.other Wr20 (Or.inr (slot_ne (Or.inl (W641 hw)) (Or.inl (W643 hw)) (by decide) (t := (.object "java/lang/Object")) (t' := (.object "java/util/HashMap$Node")) (by decide) (by decide)))
  have f25 := (f19.keep K20)
  have KK26 := (kT (kT (kT (kT (kR h [p0]) K2 (allS m0 all0)) K8 (allS m0 all0)) K14 (allS m0 all0)) K20 (allS m0 all0))
  exact C20.retV (Y95 14 rfl) (by decide) (by decide) ⟨rfl, KK26, f25, f22, f23, f21, f24⟩
theorem rm_au67_newNode (G : Glob Z a0 EL) (p0 p1 p2 : Addr) (h : Heap) (O : Ext Z.heap h)  :
    Met l Z EL true ⟨"java/util/HashMap", "newNode", "(ILjava/lang/Object;Ljava/lang/Object;Ljava/util/HashMap$Node;)Ljava/util/HashMap$Node;"⟩ jdk_69_method_46_code 5 (some (.object "java/util/HashMap$Node")) [] ⟨2, 1, 4, 29⟩ #[(.ref p0), (.int 99), (.ref p1), (.ref p2), .null] h [] (fun r h' => ∃ (q0 : Addr), r = some (.ref q0) ∧ Keep h h' [] ∧ h.size ≤ q0 ∧ Z.heap.size ≤ q0 ∧ Exa Z h' q0 "java/util/HashMap$Node" ∧ Fld Z h' q0 "java/util/HashMap$Node" "hash" "I" (.int 99) ∧ Fld Z h' q0 "java/util/HashMap$Node" "key" "Ljava/lang/Object;" (.ref p1) ∧ Fld Z h' q0 "java/util/HashMap$Node" "next" "Ljava/util/HashMap$Node;" .null ∧ Fld Z h' q0 "java/util/HashMap$Node" "value" "Ljava/lang/Object;" (.ref p2)) := by
  have hw := G.hw
  refine Met.of (plainFor_of_name pn_6173684d6170_20) G.ew O ?_
  intro p e s m below meth c T0 C0 S0
  refine Endw.eq (g' := mkF m 0 #[.val (.ref p0), .val (.int 99), .val (.ref p1), .val (.ref p2), .val .null] []) rfl ?_
  refine C0.new (wd hw 622 rfl) (W629 hw) (wd hw 630 rfl) (Y94 0 rfl) (pc' := 3) rfl (by decide) (by decide) ?_
  intro T1 h1 a1 C1 K1 A1 ge1 zg1 E1 D1 S1
  refine C1.du (Y94 1 rfl) rfl (C1.iL (Y94 2 rfl) rfl (C1.aL (Y94 3 rfl) rfl rfl (C1.aL (Y94 4 rfl) rfl rfl (C1.aLk (Y94 5 rfl) rfl rfl ?_))))
  have f2 : Fld Z h1 a1 "java/util/HashMap$Node" "hash" "I" (.int 0) := D1 (Or.inr (W637 hw)) (ty := .int) (by decide)
  have f3 : Fld Z h1 a1 "java/util/HashMap$Node" "key" "Ljava/lang/Object;" .null := D1 (Or.inr (W639 hw)) (ty := (.object "java/lang/Object")) (by decide)
  have f4 : Fld Z h1 a1 "java/util/HashMap$Node" "value" "Ljava/lang/Object;" .null := D1 (Or.inl (W641 hw)) (ty := (.object "java/lang/Object")) (by decide)
  have f5 : Fld Z h1 a1 "java/util/HashMap$Node" "next" "Ljava/util/HashMap$Node;" .null := D1 (Or.inl (W643 hw)) (ty := (.object "java/util/HashMap$Node")) (by decide)
  refine C1.special (y := ⟨"java/util/HashMap$Node", "<init>", "(ILjava/lang/Object;Ljava/lang/Object;Ljava/util/HashMap$Node;)V"⟩) (W := 1) rfl (wd hw 631 rfl) (wd hw 632 rfl) (wd hw 634 rfl) (wd hw 630 rfl) (by decide) (rm_au68_init l Z a0 EL G a1 p1 p2 h1 C1.old E1 f2 f3 f5 f4 zg1) (fun _ => rfl) rfl all0 (by decide) (by decide) (by decide) (by decide) (lenOf pd_29 rfl) rfl (nb rfl) rfl (Y94 6 rfl) (pc' := 12) rfl ?_
  intro vm15 T15 h15 v15 C15 A15 M15 q15
  obtain ⟨rfl, K15, E15_0, F15_0_0, F15_0_1, F15_0_2, F15_0_3⟩ := q15
  have KK24 := (kT (kT (kR h []) K1 all0) K15 (allS (Or.inr ge1) all0))
  exact C15.retA (t := (.object "java/util/HashMap$Node")) rfl rfl rfl rfl (Y94 7 rfl) (by decide) (by decide) ⟨a1, rfl, KK24, ge1, zg1, E15_0, F15_0_0, F15_0_1, F15_0_2, F15_0_3⟩
theorem rm_au66_putVal (G : Glob Z a0 EL) (p0 p1 p2 : Addr) (h : Heap) (O : Ext Z.heap h) (e_0 : Exa Z h p0 "java/util/HashMap") (f_0_0 : Fld Z h p0 "java/util/HashMap" "loadFactor" "F" (.float (1061158912 : UInt32))) (f_0_1 : Fld Z h p0 "java/util/HashMap" "modCount" "I" (.int 0)) (f_0_2 : Fld Z h p0 "java/util/HashMap" "size" "I" (.int 0)) (f_0_3 : Fld Z h p0 "java/util/HashMap" "table" "[Ljava/util/HashMap$Node;" .null) (f_0_4 : Fld Z h p0 "java/util/HashMap" "threshold" "I" (.int 0)) (z_0 : Z.heap.size ≤ p0) :
    Met l Z EL true ⟨"java/util/HashMap", "putVal", "(ILjava/lang/Object;Ljava/lang/Object;ZZ)Ljava/lang/Object;"⟩ jdk_69_method_16_code 13 (some (.object "java/lang/Object")) [] ⟨3, 2, 20, 47⟩ #[(.ref p0), (.int 99), (.ref p1), (.ref p2), (.int 1), (.int 1)] h [] (fun r h' => ∃ (q0 : Addr) (q1 : Addr) (kq0 : ClassId), r = some .null ∧ Keep h h' [p0] ∧ h.size ≤ q0 ∧ Z.heap.size ≤ q0 ∧ h.size ≤ q1 ∧ Z.heap.size ≤ q1 ∧ Exa Z h' p0 "java/util/HashMap" ∧ Fld Z h' p0 "java/util/HashMap" "loadFactor" "F" (.float (1061158912 : UInt32)) ∧ Fld Z h' p0 "java/util/HashMap" "modCount" "I" (.int 1) ∧ Fld Z h' p0 "java/util/HashMap" "size" "I" (.int 1) ∧ Fld Z h' p0 "java/util/HashMap" "table" "[Ljava/util/HashMap$Node;" (.ref q0) ∧ Fld Z h' p0 "java/util/HashMap" "threshold" "I" (.int 12) ∧ Exa Z h' q0 "[Ljava/util/HashMap$Node;" ∧ Arv Z h' q0 kq0 (.object "java/util/HashMap$Node") (16 : Int32) [.null, .null, .null, (.ref q1), .null, .null, .null, .null, .null, .null, .null, .null, .null, .null, .null, .null] .null ∧ Ovr Z kq0 "java/util/HashMap$Node" ∧ Exa Z h' q1 "java/util/HashMap$Node" ∧ Fld Z h' q1 "java/util/HashMap$Node" "hash" "I" (.int 99) ∧ Fld Z h' q1 "java/util/HashMap$Node" "key" "Ljava/lang/Object;" (.ref p1) ∧ Fld Z h' q1 "java/util/HashMap$Node" "next" "Ljava/util/HashMap$Node;" .null ∧ Fld Z h' q1 "java/util/HashMap$Node" "value" "Ljava/lang/Object;" (.ref p2)) := by
  have hw := G.hw
  refine Met.of (plainFor_of_name pn_6173684d6170_20) G.ew O ?_
  intro p e s m below meth c T0 C0 S0
  refine Endw.eq (g' := mkF m 0 #[.val (.ref p0), .val (.int 99), .val (.ref p1), .val (.ref p2), .val (.int 1), .val (.int 1), .unset, .unset, .unset, .unset, .unset, .unset, .unset] []) (by simp [entryFrame, mkF, argsToLocals, own_cI, own_cR, own_cN, own_cJ, own_cD, maxLocals]) ?_
  refine C0.aL (Y92 0 rfl) rfl rfl ?_
  refine C0.getF (wd hw 613 rfl) f_0_3 (Y92 1 rfl) (pc' := 4) rfl ?_
  intro T1 C1
  refine C1.du (Y92 2 rfl) rfl (C1.aSk (Y92 3 rfl) rfl (l' := #[.val (.ref p0), .val (.int 99), .val (.ref p1), .val (.ref p2), .val (.int 1), .val (.int 1), .val .null, .unset, .unset, .unset, .unset, .unset, .unset]) rfl ?_)
  refine Endw.st (T' := T1) (g' := (mkF m 19 #[.val (.ref p0), .val (.int 99), .val (.ref p1), .val (.ref p2), .val (.int 1), .val (.int 1), .val .null, .unset, .unset, .unset, .unset, .unset, .unset] [])) (fun _ k_ => XS.ifnullYes C1.here C1.hx rfl (pc0 := 7) rfl (C1.dec (Y92 4 rfl)) rfl (by decide) rfl k_) ?_
  refine C1.aL (Y92 5 rfl) rfl rfl ?_
  refine C1.virtual (W := 0) (wd hw 615 rfl) (wd hw 616 rfl) (fun _ q => notFace_of_selects (args := #[]) (mvT q (wd hw 618 rfl))) (wd hw 618 rfl) (wd hw 617 rfl) (wd hw 619 rfl) (W498 hw) (by decide) (rm_au58_resize l Z a0 EL G p0 h C1.old e_0 f_0_0 f_0_1 f_0_2 f_0_3 f_0_4 z_0) (fun _ => rfl) rfl e_0 all0 (by decide) (by decide) (by decide) (by decide) (lenOf pd_12 rfl) rfl (nb rfl) rfl (Y92 6 rfl) (pc' := 23) rfl ?_
  intro vm2 T2 h2 v2 C2 A2 M2 q2
  obtain ⟨q0_2, kq0_2, rfl, K2, ge_q0_2, zg_q0_2, E2_0, F2_0_0, F2_0_1, F2_0_2, F2_0_3, F2_0_4, E2_1, V2_1, O2_1⟩ := q2
  refine C2.du (Y92 7 rfl) rfl (C2.aSk (Y92 8 rfl) rfl (l' := #[.val (.ref p0), .val (.int 99), .val (.ref p1), .val (.ref p2), .val (.int 1), .val (.int 1), .val (.ref q0_2), .unset, .unset, .unset, .unset, .unset, .unset]) rfl ?_)
  refine C2.len V2_1 (Y92 9 rfl) (pc' := 27) rfl ?_
  show Endw p e below T2 (mkF m 27 #[.val (.ref p0), .val (.int 99), .val (.ref p1), .val (.ref p2), .val (.int 1), .val (.int 1), .val (.ref q0_2), .unset, .unset, .unset, .unset, .unset, .unset] [(.int 16)]) _
  refine C2.iSk (Y92 10 rfl) (l' := #[.val (.ref p0), .val (.int 99), .val (.ref p1), .val (.ref p2), .val (.int 1), .val (.int 1), .val (.ref q0_2), .unset, .val (.int 16), .unset, .unset, .unset, .unset]) rfl (C2.aLk (Y92 11 rfl) rfl rfl (C2.iLk (Y92 12 rfl) rfl (C2.ic (z := 1) (Y92 13 rfl) rfl (C2.sb (z := 15) (Y92 14 rfl) rfl (C2.iL (Y92 15 rfl) rfl (C2.an (z := 3) (Y92 16 rfl) rfl (C2.du (Y92 17 rfl) rfl (C2.iSk (Y92 18 rfl) (l' := #[.val (.ref p0), .val (.int 99), .val (.ref p1), .val (.ref p2), .val (.int 1), .val (.int 1), .val (.ref q0_2), .unset, .val (.int 16), .val (.int 3), .unset, .unset, .unset]) rfl ?_))))))))
  refine C2.aaload V2_1 rfl ⟨by decide, by decide⟩ (v := .null) rfl (Y92 19 rfl) (pc' := 41) rfl ?_
  refine C2.du (Y92 20 rfl) rfl (C2.aSk (Y92 21 rfl) rfl (l' := #[.val (.ref p0), .val (.int 99), .val (.ref p1), .val (.ref p2), .val (.int 1), .val (.int 1), .val (.ref q0_2), .val .null, .val (.int 16), .val (.int 3), .unset, .unset, .unset]) rfl ?_)
  refine Endw.st (T' := T2) (g' := (mkF m 47 #[.val (.ref p0), .val (.int 99), .val (.ref p1), .val (.ref p2), .val (.int 1), .val (.int 1), .val (.ref q0_2), .val .null, .val (.int 16), .val (.int 3), .unset, .unset, .unset] [])) (fun _ k_ => XS.ifnonnullNo C2.here C2.hx rfl (C2.dec (Y92 22 rfl)) rfl k_) ?_
  refine C2.aLk (Y92 23 rfl) rfl rfl (C2.iLk (Y92 24 rfl) rfl (C2.aL (Y92 25 rfl) rfl rfl (C2.iL (Y92 26 rfl) rfl (C2.aL (Y92 27 rfl) rfl rfl (C2.aL (Y92 28 rfl) rfl rfl (C2.nu (Y92 29 rfl) ?_))))))
  refine C2.virtual (W := 2) (wd hw 624 rfl) (wd hw 625 rfl) (fun _ q => notFace_of_selects (args := #[]) (mvT q (wd hw 627 rfl))) (wd hw 627 rfl) (wd hw 626 rfl) (wd hw 628 rfl) (W498 hw) (by decide) (rm_au67_newNode l Z a0 EL G p0 p1 p2 h2 C2.old ) (fun _ => rfl) rfl E2_0 all0 (by decide) (by decide) (by decide) (by decide) (lenOf pd_28 rfl) rfl (nb rfl) rfl (Y92 30 rfl) (pc' := 59) rfl ?_
  intro vm13 T13 h13 v13 C13 A13 M13 q13
  obtain ⟨q0_13, rfl, K13, ge_q0_13, zg_q0_13, E13_0, F13_0_0, F13_0_1, F13_0_2, F13_0_3⟩ := q13
  have f14 := (V2_1.keep K13 nin0)
  refine C13.aastore f14 O2_1 (Ins.self E13_0) ⟨by decide, by decide⟩ 3 (by decide) (nb rfl) zg_q0_2 (vs' := [.null, .null, .null, (.ref q0_13), .null, .null, .null, .null, .null, .null, .null, .null, .null, .null, .null, .null]) rfl (Y92 31 rfl) (pc' := 60) rfl ?_
  intro T15 h15 C15 K15 A15 V15
  refine C15.go (pc' := 259) (Y92 32 rfl) (by decide) rfl (C15.aL (Y92 33 rfl) rfl rfl (C15.du (Y92 34 rfl) rfl ?_))
  have KK16 := (kT (kT (kR h2 [q0_2]) K13 all0) K15 (allS m0 all0))
  have ne17 : p0 ≠ q0_2 := (nL (lL e_0.lt ge_q0_2))
  have f18 := (F2_0_1.keep KK16 (ninS ne17 nin0))
  refine C15.getF (wd hw 644 rfl) f18 (Y92 35 rfl) (pc' := 264) rfl ?_
  intro T19 C19
  refine C19.ic (z := 1) (Y92 36 rfl) rfl (C19.ad (z := 1) (Y92 37 rfl) rfl ?_)
  have f20 := (E2_0.keep KK16)
  have f22 := (F2_0_0.keep KK16 (ninS ne17 nin0))
  have f23 := (F2_0_2.keep KK16 (ninS ne17 nin0))
  have f24 := (F2_0_3.keep KK16 (ninS ne17 nin0))
  have f25 := (F2_0_4.keep KK16 (ninS ne17 nin0))
  refine C19.putF (v := (.int 1)) (wd hw 644 rfl) f18 f20 (Or.inl (W645 hw)) (W497 hw) (ty := .int) (by decide) rfl rfl z_0 (Safe.exa C19.warm.alike f20 (by decide) (by decide)) (Y92 38 rfl) (pc' := 269) rfl ?_
  intro T21 h21 C21 K21 A21 Wr21
  have f26 := f18.same Wr21
  have f27 := f22.other Wr21 (Or.inr (slot_ne (Or.inr (W511 hw)) (Or.inl (W645 hw)) (by decide) (t := .float) (t' := .int) (by decide) (by decide)))
  have f28 := f23.other Wr21 (Or.inr (slot_ne (Or.inl (W647 hw)) (Or.inl (W645 hw)) (by decide) (t := .int) (t' := .int) (by decide) (by decide)))
  have f29 := f24.other Wr21 (Or.inr (slot_ne (Or.inl (W614 hw)) (Or.inl (W645 hw)) (by decide) (t := (.array (.object "java/util/HashMap$Node"))) (t' := .int) (by decide) (by decide)))
  have f30 := f25.other Wr21 (Or.inr (slot_ne (Or.inl (W621 hw)) (Or.inl (W645 hw)) (by decide) (t := .int) (t' := .int) (by decide) (by decide)))
  refine C21.aL (Y92 39 rfl) rfl rfl (C21.du (Y92 40 rfl) rfl ?_)
  refine C21.getF (wd hw 646 rfl) f28 (Y92 41 rfl) (pc' := 274) rfl ?_
  intro T31 C31
  refine C31.ic (z := 1) (Y92 42 rfl) rfl (C31.ad (z := 1) (Y92 43 rfl) rfl ?_)
  refine Endw.st (T' := T31) (g' := (mkF m 277 #[.val (.ref p0), .val (.int 99), .val (.ref p1), .val (.ref p2), .val (.int 1), .val (.int 1), .val (.ref q0_2), .val .null, .val (.int 16), .val (.int 3), .unset, .unset, .unset] [(.int 1), (.ref p0), (.int 1)])) (fun _ k_ => XS.dupX1 C31.here C31.hx rfl (C31.dec (Y92 44 rfl)) rfl rfl rfl k_) ?_
  have f32 := (f20.keep K21)
  refine C31.putF (v := (.int 1)) (wd hw 646 rfl) f28 f32 (Or.inl (W647 hw)) (W497 hw) (ty := .int) (by decide) rfl rfl z_0 (Safe.exa C31.warm.alike f32 (by decide) (by decide)) (Y92 45 rfl) (pc' := 280) rfl ?_
  intro T33 h33 C33 K33 A33 Wr33
  have f34 := f28.same Wr33
  have f35 := f27.other Wr33 (Or.inr (slot_ne (Or.inr (W511 hw)) (Or.inl (W647 hw)) (by decide) (t := .float) (t' := .int) (by decide) (by decide)))
  have f36 := f26.other Wr33 (Or.inr (slot_ne (Or.inl (W645 hw)) (Or.inl (W647 hw)) (by decide) (t := .int) (t' := .int) (by decide) (by decide)))
  have f37 := f29.other Wr33 (Or.inr (slot_ne (Or.inl (W614 hw)) (Or.inl (W647 hw)) (by decide) (t := (.array (.object "java/util/HashMap$Node"))) (t' := .int) (by decide) (by decide)))
  have f38 := f30.other Wr33 (Or.inr (slot_ne (Or.inl (W621 hw)) (Or.inl (W647 hw)) (by decide) (t := .int) (t' := .int) (by decide) (by decide)))
  refine C33.aL (Y92 46 rfl) rfl rfl ?_
  refine C33.getF (wd hw 620 rfl) f38 (Y92 47 rfl) (pc' := 284) rfl ?_
  intro T39 C39
  refine C39.cY (pc' := 292) (Y92 48 rfl) (XT.ii_le_t (by decide)) (by decide) rfl (C39.aL (Y92 49 rfl) rfl rfl (C39.iLk (Y92 50 rfl) rfl ?_))
  have f40 := (f32.keep K33)
  refine C39.virtual (W := 0) (wd hw 648 rfl) (wd hw 649 rfl) (fun _ q => notFace_of_selects (args := #[]) (mvT q (wd hw 651 rfl))) (wd hw 651 rfl) (wd hw 650 rfl) (wd hw 652 rfl) (W498 hw) (by decide) (rm_au61_afterNodeInsertion l Z a0 EL G p0 h33 C39.old ) (fun _ => rfl) rfl f40 all0 (by decide) (by decide) (by decide) (by decide) (lenOf pd_285a2956 rfl) rfl (nb rfl) rfl (Y92 51 rfl) (pc' := 298) rfl ?_
  intro vm41 T41 h41 v41 C41 A41 M41 q41
  obtain ⟨rfl, rfl⟩ := q41
  refine C41.nu (Y92 52 rfl) ?_
  have KK42 := (kT (kT (kT (kR h2 [q0_2, p0]) KK16 (allS m0 all0)) K21 (allS m1 all0)) K33 (allS m1 all0))
  have f43 := (E2_1.keep KK42)
  have KK44 := (kT (kT (kR h15 [p0]) K21 (allS m0 all0)) K33 (allS m0 all0))
  have f45 := (V15.keep KK44 (ninS (Ne.symm ne17) nin0))
  have KK46 := (kT (kT (kT (kR h13 [q0_2, p0]) K15 (allS m0 all0)) K21 (allS m1 all0)) K33 (allS m1 all0))
  have f47 := (E13_0.keep KK46)
  have ne48 : q0_13 ≠ p0 := (Ne.symm (nL (lL (lL e_0.lt K2.1) ge_q0_13)))
  have ne49 : q0_13 ≠ q0_2 := (Ne.symm (nL (lL E2_1.lt ge_q0_13)))
  have f50 := (F13_0_0.keep KK46 (ninS ne49 (ninS ne48 nin0)))
  have f51 := (F13_0_1.keep KK46 (ninS ne49 (ninS ne48 nin0)))
  have f52 := (F13_0_2.keep KK46 (ninS ne49 (ninS ne48 nin0)))
  have f53 := (F13_0_3.keep KK46 (ninS ne49 (ninS ne48 nin0)))
  have KK62 := (kT (kT (kT (kT (kT (kR h [p0]) K2 (allS m0 all0)) K13 all0) K15 (allS (Or.inr ge_q0_2) all0)) K21 (allS m0 all0)) K33 (allS m0 all0))
  exact C41.retA (t := (.object "java/lang/Object")) rfl rfl rfl rfl (Y92 53 rfl) (by decide) (by decide) ⟨q0_2, q0_13, kq0_2, rfl, KK62, ge_q0_2, zg_q0_2, (lT K2.1 ge_q0_13), zg_q0_13, f40, f35, f36, f34, f37, f38, f43, f45, O2_1, f47, f50, f51, f52, f53⟩
theorem rm_au65_putIfAbsent (G : Glob Z a0 EL) (p0 p1 p2 p3 : Addr) (kp3 : ClassId) (h : Heap) (O : Ext Z.heap h) (e_0 : Exa Z h p0 "java/util/HashMap") (f_0_0 : Fld Z h p0 "java/util/HashMap" "loadFactor" "F" (.float (1061158912 : UInt32))) (f_0_1 : Fld Z h p0 "java/util/HashMap" "modCount" "I" (.int 0)) (f_0_2 : Fld Z h p0 "java/util/HashMap" "size" "I" (.int 0)) (f_0_3 : Fld Z h p0 "java/util/HashMap" "table" "[Ljava/util/HashMap$Node;" .null) (f_0_4 : Fld Z h p0 "java/util/HashMap" "threshold" "I" (.int 0)) (z_0 : Z.heap.size ≤ p0) (e_1 : Exa Z h p1 "java/lang/String") (f_1_1 : Fld Z h p1 "java/lang/String" "hash" "I" (.int 0)) (f_1_2 : Fld Z h p1 "java/lang/String" "hashIsZero" "Z" (.int 0)) (z_1 : Z.heap.size ≤ p1) (s_1 : Str Z h p1 p3 kp3 [(99 : Int32)]) :
    Met l Z EL true ⟨"java/util/HashMap", "putIfAbsent", "(Ljava/lang/Object;Ljava/lang/Object;)Ljava/lang/Object;"⟩ jdk_69_method_31_code 3 (some (.object "java/lang/Object")) [] ⟨4, 2, 20, 71⟩ #[(.ref p0), (.ref p1), (.ref p2)] h [p1] (fun r h' => ∃ (q0 : Addr) (q1 : Addr) (kq0 : ClassId), r = some .null ∧ Keep h h' [p0, p1] ∧ h.size ≤ q0 ∧ Z.heap.size ≤ q0 ∧ h.size ≤ q1 ∧ Z.heap.size ≤ q1 ∧ Exa Z h' p0 "java/util/HashMap" ∧ Fld Z h' p0 "java/util/HashMap" "loadFactor" "F" (.float (1061158912 : UInt32)) ∧ Fld Z h' p0 "java/util/HashMap" "modCount" "I" (.int 1) ∧ Fld Z h' p0 "java/util/HashMap" "size" "I" (.int 1) ∧ Fld Z h' p0 "java/util/HashMap" "table" "[Ljava/util/HashMap$Node;" (.ref q0) ∧ Fld Z h' p0 "java/util/HashMap" "threshold" "I" (.int 12) ∧ Exa Z h' p1 "java/lang/String" ∧ Fld Z h' p1 "java/lang/String" "coder" "B" (.int 0) ∧ Fld Z h' p1 "java/lang/String" "hash" "I" (.int 99) ∧ Fld Z h' p1 "java/lang/String" "hashIsZero" "Z" (.int 0) ∧ Fld Z h' p1 "java/lang/String" "value" "[B" (.ref p3) ∧ Exa Z h' q0 "[Ljava/util/HashMap$Node;" ∧ Arv Z h' q0 kq0 (.object "java/util/HashMap$Node") (16 : Int32) [.null, .null, .null, (.ref q1), .null, .null, .null, .null, .null, .null, .null, .null, .null, .null, .null, .null] .null ∧ Ovr Z kq0 "java/util/HashMap$Node" ∧ Exa Z h' q1 "java/util/HashMap$Node" ∧ Fld Z h' q1 "java/util/HashMap$Node" "hash" "I" (.int 99) ∧ Fld Z h' q1 "java/util/HashMap$Node" "key" "Ljava/lang/Object;" (.ref p1) ∧ Fld Z h' q1 "java/util/HashMap$Node" "next" "Ljava/util/HashMap$Node;" .null ∧ Fld Z h' q1 "java/util/HashMap$Node" "value" "Ljava/lang/Object;" (.ref p2)) := by
  have hw := G.hw
  refine Met.of (plainFor_of_name pn_6173684d6170_20) G.ew O ?_
  intro p e s m below meth c T0 C0 S0
  refine Endw.eq (g' := mkF m 0 #[.val (.ref p0), .val (.ref p1), .val (.ref p2)] []) rfl ?_
  refine C0.aL (Y91 0 rfl) rfl rfl (C0.aL (Y91 1 rfl) rfl rfl ?_)
  refine C0.static (W := 1) (wd hw 592 rfl) (wd hw 593 rfl) (wd hw 594 rfl) (W498 hw) (by decide) (rm_hash l Z a0 EL G p1 p3 kp3 (99 : Int32) h C0.old s_1 f_1_1 f_1_2 ⟨⟨by decide, by decide⟩, by decide, by decide⟩ z_1 (by decide)) (fun _ => rfl) rfl (allS ⟨e_1.lt, (S0 p1 (by simp))⟩ all0) (by decide) (by decide) (by decide) (by decide) (lenOf pd_33 rfl) rfl (nb rfl) rfl (Y91 2 rfl) (pc' := 5) rfl ?_
  intro vm1 T1 h1 v1 C1 A1 M1 q1
  obtain ⟨rfl, K1, Z1, H1, I1⟩ := q1
  refine C1.aL (Y91 3 rfl) rfl rfl (C1.aL (Y91 4 rfl) rfl rfl (C1.ic (z := 1) (Y91 5 rfl) rfl (C1.ic (z := 1) (Y91 6 rfl) rfl ?_)))
  have f2 := (e_0.keep K1)
  have ne3 : p0 ≠ p1 := (RoadKit.Exa.ne e_0 e_1 (by decide))
  have f4 := (f_0_0.keep K1 (ninS ne3 nin0))
  have f5 := (f_0_1.keep K1 (ninS ne3 nin0))
  have f6 := (f_0_2.keep K1 (ninS ne3 nin0))
  have f7 := (f_0_3.keep K1 (ninS ne3 nin0))
  have f8 := (f_0_4.keep K1 (ninS ne3 nin0))
  refine C1.virtual (W := 0) (wd hw 608 rfl) (wd hw 609 rfl) (fun _ q => notFace_of_selects (args := #[]) (mvT q (wd hw 611 rfl))) (wd hw 611 rfl) (wd hw 610 rfl) (wd hw 612 rfl) (W498 hw) (by decide) (rm_au66_putVal l Z a0 EL G p0 p1 p2 h1 C1.old f2 f4 f5 f6 f7 f8 z_0) (fun _ => rfl) rfl f2 all0 (by decide) (by decide) (by decide) (by decide) (lenOf pd_30 rfl) rfl (nb rfl) rfl (Y91 7 rfl) (pc' := 12) rfl ?_
  intro vm10 T10 h10 v10 C10 A10 M10 q10
  obtain ⟨q0_10, q1_10, kq0_10, rfl, K10, ge_q0_10, zg_q0_10, ge_q1_10, zg_q1_10, E10_0, F10_0_0, F10_0_1, F10_0_2, F10_0_3, F10_0_4, E10_1, V10_1, O10_1, E10_2, F10_2_0, F10_2_1, F10_2_2, F10_2_3⟩ := q10
  have f11 := (Z1.1.keep K10)
  have f12 := (Z1.2.1.keep K10 (ninS (Ne.symm ne3) nin0))
  have f13 := (H1.keep K10 (ninS (Ne.symm ne3) nin0))
  have f14 := (I1.keep K10 (ninS (Ne.symm ne3) nin0))
  have f15 := (Z1.2.2.1.keep K10 (ninS (Ne.symm ne3) nin0))
  have KK18 := (kT (kT (kR h [p1, p0]) K1 (allS m0 all0)) K10 (allS m1 all0))
  exact C10.retA (t := (.object "java/lang/Object")) rfl rfl rfl rfl (Y91 8 rfl) (by decide) (by decide) ⟨q0_10, q1_10, kq0_10, rfl, (kT (kR h [p0, p1]) KK18 (allS m1 (allS m0 all0))), (lT K1.1 ge_q0_10), zg_q0_10, (lT K1.1 ge_q1_10), zg_q1_10, E10_0, F10_0_0, F10_0_1, F10_0_2, F10_0_3, F10_0_4, f11, f12, f13, f14, f15, E10_1, V10_1, O10_1, E10_2, F10_2_0, F10_2_1, F10_2_2, F10_2_3⟩
theorem rm_au64_claim (G : Glob Z a0 EL) (p0 p1 p2 p4 p5 : Addr) (kp5 : ClassId) (h : Heap) (O : Ext Z.heap h) (f_0_1 : Fld Z h p0 "com/example/dique/dique/model/Names" "owners" "Ljava/util/Map;" (.ref p4)) (e_4 : Exa Z h p4 "java/util/HashMap") (f_4_0 : Fld Z h p4 "java/util/HashMap" "loadFactor" "F" (.float (1061158912 : UInt32))) (f_4_1 : Fld Z h p4 "java/util/HashMap" "modCount" "I" (.int 0)) (f_4_2 : Fld Z h p4 "java/util/HashMap" "size" "I" (.int 0)) (f_4_3 : Fld Z h p4 "java/util/HashMap" "table" "[Ljava/util/HashMap$Node;" .null) (f_4_4 : Fld Z h p4 "java/util/HashMap" "threshold" "I" (.int 0)) (z_4 : Z.heap.size ≤ p4) (s_1 : Str Z h p1 p5 kp5 [(99 : Int32)]) :
    Met l Z EL true ⟨"com/example/dique/dique/model/Names", "claim", "(Ljava/lang/String;Ljava/lang/String;)V"⟩ prog_17_method_2_code 5 none [] ⟨6, 6, 33, 86⟩ #[(.ref p0), (.ref p1), (.ref p2)] h [] (fun r h' => ∃ (q0 : Addr) (q1 : Addr) (q2 : Addr) (q3 : Addr) (kq0 : ClassId) (kq3 : ClassId), r = none ∧ Keep h h' [p4] ∧ h.size ≤ q0 ∧ Z.heap.size ≤ q0 ∧ h.size ≤ q1 ∧ Z.heap.size ≤ q1 ∧ h.size ≤ q2 ∧ Z.heap.size ≤ q2 ∧ h.size ≤ q3 ∧ Z.heap.size ≤ q3 ∧ Exa Z h' p4 "java/util/HashMap" ∧ Fld Z h' p4 "java/util/HashMap" "loadFactor" "F" (.float (1061158912 : UInt32)) ∧ Fld Z h' p4 "java/util/HashMap" "modCount" "I" (.int 1) ∧ Fld Z h' p4 "java/util/HashMap" "size" "I" (.int 1) ∧ Fld Z h' p4 "java/util/HashMap" "table" "[Ljava/util/HashMap$Node;" (.ref q0) ∧ Fld Z h' p4 "java/util/HashMap" "threshold" "I" (.int 12) ∧ Exa Z h' q0 "[Ljava/util/HashMap$Node;" ∧ Arv Z h' q0 kq0 (.object "java/util/HashMap$Node") (16 : Int32) [.null, .null, .null, (.ref q1), .null, .null, .null, .null, .null, .null, .null, .null, .null, .null, .null, .null] .null ∧ Ovr Z kq0 "java/util/HashMap$Node" ∧ Exa Z h' q1 "java/util/HashMap$Node" ∧ Fld Z h' q1 "java/util/HashMap$Node" "hash" "I" (.int 99) ∧ Fld Z h' q1 "java/util/HashMap$Node" "key" "Ljava/lang/Object;" (.ref q2) ∧ Fld Z h' q1 "java/util/HashMap$Node" "next" "Ljava/util/HashMap$Node;" .null ∧ Fld Z h' q1 "java/util/HashMap$Node" "value" "Ljava/lang/Object;" (.ref p2) ∧ Exa Z h' q2 "java/lang/String" ∧ Fld Z h' q2 "java/lang/String" "coder" "B" (.int 0) ∧ Fld Z h' q2 "java/lang/String" "hash" "I" (.int 99) ∧ Fld Z h' q2 "java/lang/String" "hashIsZero" "Z" (.int 0) ∧ Fld Z h' q2 "java/lang/String" "value" "[B" (.ref q3) ∧ Arv Z h' q3 kq3 .byte (Int32.ofNat [(99 : Int32)].length) (bys [(99 : Int32)]) (.int 0)) := by
  have hw := G.hw
  refine Met.of (plainFor_of_name pn_2f4e616d6573_2) G.ew O ?_
  intro p e s m below meth c T0 C0 S0
  refine Endw.eq (g' := mkF m 0 #[.val (.ref p0), .val (.ref p1), .val (.ref p2), .unset, .unset] []) rfl ?_
  refine C0.aL (Y90 0 rfl) rfl rfl ?_
  refine C0.getF (wd hw 512 rfl) f_0_1 (Y90 1 rfl) (pc' := 4) rfl ?_
  intro T1 C1
  refine C1.aL (Y90 2 rfl) rfl rfl ?_
  refine C1.static (W := 1) (wd hw 533 rfl) (wd hw 534 rfl) (wd hw 535 rfl) (W112 hw) (by decide) (rm_fold l Z a0 EL G p1 p5 kp5 (99 : Int32) h C1.old s_1 ⟨⟨by decide, by decide⟩, by decide, by decide⟩) (fun _ => rfl) rfl all0 (by decide) (by decide) (by decide) (by decide) (lenOf pd_43 rfl) rfl (nb rfl) rfl (Y90 3 rfl) (pc' := 8) rfl ?_
  intro vm2 T2 h2 v2 C2 A2 M2 q2
  obtain ⟨a2, d2, kd2, rfl, K2, ge2, gd2, zg2, zd2, Z2, H2, I2⟩ := q2
  refine C2.aL (Y90 4 rfl) rfl rfl ?_
  have f3 := (e_4.keep K2)
  have f4 := (f_4_0.keep K2 nin0)
  have f5 := (f_4_1.keep K2 nin0)
  have f6 := (f_4_2.keep K2 nin0)
  have f7 := (f_4_3.keep K2 nin0)
  have f8 := (f_4_4.keep K2 nin0)
  have ne10 : p4 ≠ d2 := (nL (lL e_4.lt gd2))
  have ne12 : a2 ≠ d2 := (RoadKit.Exa.neArv Z2.1 Z2.2.2.2.1 (W2 hw))
  refine C2.iface (W := 0) (wd hw 583 rfl) (wd hw 584 rfl) (wd hw 585 rfl) (wd hw 586 rfl) (wd hw 587 rfl) (wd hw 588 rfl) (wd hw 589 rfl) (wd hw 590 rfl) (wd hw 591 rfl) (W498 hw) (by decide) (rm_au65_putIfAbsent l Z a0 EL G p4 a2 p2 d2 kd2 h2 C2.old f3 f4 f5 f6 f7 f8 z_4 Z2.1 H2 I2 zg2 Z2) (fun _ => rfl) rfl f3 (allS ⟨Z2.1.lt, (own_safe_new (M2 rfl) ge2)⟩ all0) (by decide) (by decide) (by decide) (by decide) (lenOf pd_39 rfl) rfl (nb rfl) rfl (Y90 5 rfl) (pc' := 14) rfl ?_
  intro vm14 T14 h14 v14 C14 A14 M14 q14
  obtain ⟨q0_14, q1_14, kq0_14, rfl, K14, ge_q0_14, zg_q0_14, ge_q1_14, zg_q1_14, E14_0, F14_0_0, F14_0_1, F14_0_2, F14_0_3, F14_0_4, E14_1, F14_1_0, F14_1_1, F14_1_2, F14_1_3, E14_2, V14_2, O14_2, E14_3, F14_3_0, F14_3_1, F14_3_2, F14_3_3⟩ := q14
  refine Endw.st (T' := T14) (g' := (mkF m 17 #[.val (.ref p0), .val (.ref p1), .val (.ref p2), .unset, .unset] [.null])) (fun _ k_ => own_checkcastNull C14 rfl rfl (Y90 6 rfl) k_) ?_
  refine C14.aS (Y90 7 rfl) rfl (l' := #[.val (.ref p0), .val (.ref p1), .val (.ref p2), .val .null, .unset]) rfl (C14.aL (Y90 8 rfl) rfl rfl ?_)
  refine Endw.st (T' := T14) (g' := (mkF m 126 #[.val (.ref p0), .val (.ref p1), .val (.ref p2), .val .null, .unset] [])) (fun _ k_ => XS.ifnullYes C14.here C14.hx rfl (pc0 := 19) rfl (C14.dec (Y90 9 rfl)) rfl (by decide) rfl k_) ?_
  have f17 := (Z2.2.2.2.1.keep K14 (ninS (Ne.symm ne10) (ninS (Ne.symm ne12) nin0)))
  have KK18 := (kT (kT (kR h [p4]) K2 all0) K14 (allS m0 (allS (Or.inr ge2) all0)))
  exact C14.retV (Y90 10 rfl) (by decide) (by decide) ⟨q0_14, q1_14, a2, d2, kq0_14, kd2, rfl, KK18, (lT K2.1 ge_q0_14), zg_q0_14, (lT K2.1 ge_q1_14), zg_q1_14, ge2, zg2, gd2, zd2, E14_0, F14_0_0, F14_0_1, F14_0_2, F14_0_3, F14_0_4, E14_2, V14_2, O14_2, E14_3, F14_3_0, F14_3_1, F14_3_2, F14_3_3, E14_1, F14_1_0, F14_1_1, F14_1_2, F14_1_3, f17⟩
theorem rm_au70_size (G : Glob Z a0 EL) (h : Heap) (O : Ext Z.heap h)  :
    Met l Z EL true ⟨"java/util/ImmutableCollections$ListN", "size", "()I"⟩ jdk_45_method_3_code 1 (some .int) [] ⟨0, 0, 0, 0⟩ #[(.ref (sEL Z))] h [] (fun r h' => r = some (.int 0) ∧ h = h') := by
  have hw := G.hw
  refine Met.of (plainFor_of_name pn_244c6973744e_27) G.ew O ?_
  intro p e s m below meth c T0 C0 S0
  refine Endw.eq (g' := mkF m 0 #[.val (.ref (sEL Z))] []) rfl ?_
  refine C0.aL (Y99 0 rfl) rfl rfl ?_
  have f2 := (G.t7.ext C0.old)
  have f5 := (G.t10.ext C0.old)
  refine C0.getF (wd hw 671 rfl) f2 (Y99 1 rfl) (pc' := 4) rfl ?_
  intro T6 C6
  refine C6.len f5 (Y99 2 rfl) (pc' := 5) rfl ?_
  show Endw p e below T6 (mkF m 5 #[.val (.ref (sEL Z))] [(.int 0)]) _
  exact C6.retI (t := .int) rfl (by simp) rfl (Y99 3 rfl) (by decide) (by decide) ⟨rfl, rfl⟩
theorem rm_au71_init (G : Glob Z a0 EL) (p0 : Addr) (h : Heap) (O : Ext Z.heap h) (e_0 : Exa Z h p0 "java/util/ImmutableCollections$ListItr") (f_0_0 : Fld Z h p0 "java/util/ImmutableCollections$ListItr" "cursor" "I" (.int 0)) (f_0_1 : Fld Z h p0 "java/util/ImmutableCollections$ListItr" "isListIterator" "Z" (.int 0)) (f_0_2 : Fld Z h p0 "java/util/ImmutableCollections$ListItr" "list" "Ljava/util/List;" .null) (f_0_3 : Fld Z h p0 "java/util/ImmutableCollections$ListItr" "size" "I" (.int 0)) (z_0 : Z.heap.size ≤ p0) :
    Met l Z EL true ⟨"java/util/ImmutableCollections$ListItr", "<init>", "(Ljava/util/List;I)V"⟩ jdk_53_method_1_code 3 none [] ⟨1, 0, 0, 12⟩ #[(.ref p0), (.ref (sEL Z)), (.int 0)] h [] (fun r h' => r = none ∧ Keep h h' [p0] ∧ Exa Z h' p0 "java/util/ImmutableCollections$ListItr" ∧ Fld Z h' p0 "java/util/ImmutableCollections$ListItr" "cursor" "I" (.int 0) ∧ Fld Z h' p0 "java/util/ImmutableCollections$ListItr" "isListIterator" "Z" (.int 0) ∧ Fld Z h' p0 "java/util/ImmutableCollections$ListItr" "list" "Ljava/util/List;" (.ref (sEL Z)) ∧ Fld Z h' p0 "java/util/ImmutableCollections$ListItr" "size" "I" (.int 0)) := by
  have hw := G.hw
  refine Met.of (plainFor_of_name pn_697374497472_26) G.ew O ?_
  intro p e s m below meth c T0 C0 S0
  refine Endw.eq (g' := mkF m 0 #[.val (.ref p0), .val (.ref (sEL Z)), .val (.int 0)] []) rfl ?_
  refine C0.aL (Y80 0 rfl) rfl rfl ?_
  refine C0.initO (wd hw 313 rfl) (W12 hw) (W13 hw) rfl (Y80 1 rfl) (pc' := 4) rfl (by decide) (W := 0) (nb rfl) (by decide) ?_
  intro T1 C1
  refine C1.aL (Y80 2 rfl) rfl rfl (C1.aL (Y80 3 rfl) rfl rfl ?_)
  refine C1.putF (v := (.ref (sEL Z))) (wd hw 314 rfl) f_0_2 e_0 (Or.inr ⟨(W315 hw), rfl, rfl⟩) (W301 hw) (ty := (.object "java/util/List")) (by decide) rfl rfl z_0 (Safe.exa C1.warm.alike e_0 (by decide) (by decide)) (Y80 4 rfl) (pc' := 9) rfl ?_
  intro T2 h2 C2 K2 A2 Wr2
  have f3 := f_0_2.same Wr2
  have f4 := f_0_0.other Wr2 (Or.inr (slot_ne (Or.inl (W319 hw)) (Or.inr (W315 hw)) (by decide) (t := .int) (t' := (.object "java/util/List")) (by decide) (by decide)))
  have f5 := f_0_1.other Wr2 (Or.inr (slot_ne (Or.inr (W321 hw)) (Or.inr (W315 hw)) (by decide) (t := .boolean) (t' := (.object "java/util/List")) (by decide) (by decide)))
  have f6 := f_0_3.other Wr2 (Or.inr (slot_ne (Or.inr (W317 hw)) (Or.inr (W315 hw)) (by decide) (t := .int) (t' := (.object "java/util/List")) (by decide) (by decide)))
  refine C2.aL (Y80 5 rfl) rfl rfl (C2.iL (Y80 6 rfl) rfl ?_)
  have f7 := (e_0.keep K2)
  refine C2.putF (v := (.int 0)) (wd hw 316 rfl) f6 f7 (Or.inr ⟨(W317 hw), rfl, rfl⟩) (W301 hw) (ty := .int) (by decide) rfl rfl z_0 (Safe.exa C2.warm.alike f7 (by decide) (by decide)) (Y80 7 rfl) (pc' := 14) rfl ?_
  intro T8 h8 C8 K8 A8 Wr8
  have f9 := f6.same Wr8
  have f10 := f4.other Wr8 (Or.inr (slot_ne (Or.inl (W319 hw)) (Or.inr (W317 hw)) (by decide) (t := .int) (t' := .int) (by decide) (by decide)))
  have f11 := f5.other Wr8 (Or.inr (slot_ne (Or.inr (W321 hw)) (Or.inr (W317 hw)) (by decide) (t := .boolean) (t' := .int) (by decide) (by decide)))
  have f12 := f3.other Wr8 (Or.inr (slot_ne (Or.inr (W315 hw)) (Or.inr (W317 hw)) (by decide) (t := (.object "java/util/List")) (t' := .int) (by decide) (by decide)))
  refine C8.aL (Y80 8 rfl) rfl rfl (C8.ic (z := 0) (Y80 9 rfl) rfl ?_)
  have f13 := (f7.keep K8)
  refine C8.putF (v := (.int 0)) (W318 hw) f10 f13 (Or.inl (W319 hw)) (W301 hw) (ty := .int) (by decide) rfl rfl z_0 (Safe.exa C8.warm.alike f13 (by decide) (by decide)) (Y80 10 rfl) (pc' := 19) rfl ?_
  intro T14 h14 C14 K14 A14 Wr14
  have f15 := f10.same Wr14
  have f16 := f11.other Wr14 (Or.inr (slot_ne (Or.inr (W321 hw)) (Or.inl (W319 hw)) (by decide) (t := .boolean) (t' := .int) (by decide) (by decide)))
  have f17 := f12.other Wr14 (Or.inr (slot_ne (Or.inr (W315 hw)) (Or.inl (W319 hw)) (by decide) (t := (.object "java/util/List")) (t' := .int) (by decide) (by decide)))
  have f18 := f9.other Wr14 (Or.inr (slot_ne (Or.inr (W317 hw)) (Or.inl (W319 hw)) (by decide) (t := .int) (t' := .int) (by decide) (by decide)))
  refine C14.aL (Y80 11 rfl) rfl rfl (C14.ic (z := 0) (Y80 12 rfl) rfl ?_)
  have f19 := (f13.keep K14)
  refine C14.putF (v := (.int 0)) (wd hw 320 rfl) f16 f19 (Or.inr ⟨(W321 hw), rfl, rfl⟩) (W301 hw) (ty := .boolean) (by decide) rfl rfl z_0 (Safe.exa C14.warm.alike f19 (by decide) (by decide)) (Y80 13 rfl) (pc' := 24) rfl ?_
  intro T20 h20 C20 K20 A20 Wr20
  have f21 := f16.same Wr20
  have f22 := f15.other Wr20 (Or.inr (slot_ne (Or.inl (W319 hw)) (Or.inr (W321 hw)) (by decide) (t := .int) (t' := .boolean) (by decide) (by decide)))
  have f23 := f17.other Wr20 (Or.inr (slot_ne (Or.inr (W315 hw)) (Or.inr (W321 hw)) (by decide) (t := (.object "java/util/List")) (t' := .boolean) (by decide) (by decide)))
  have f24 := f18.other Wr20 (Or.inr (slot_ne (Or.inr (W317 hw)) (Or.inr (W321 hw)) (by decide) (t := .int) (t' := .boolean) (by decide) (by decide)))
  have f25 := (f19.keep K20)
  have KK26 := (kT (kT (kT (kT (kR h [p0]) K2 (allS m0 all0)) K8 (allS m0 all0)) K14 (allS m0 all0)) K20 (allS m0 all0))
  exact C20.retV (Y80 14 rfl) (by decide) (by decide) ⟨rfl, KK26, f25, f22, f21, f23, f24⟩
theorem rm_au69_iterator (G : Glob Z a0 EL) (h : Heap) (O : Ext Z.heap h)  :
    Met l Z EL true ⟨"java/util/ImmutableCollections$AbstractImmutableList", "iterator", "()Ljava/util/Iterator;"⟩ jdk_46_method_10_code 1 (some (.object "java/util/Iterator")) [] ⟨2, 1, 4, 27⟩ #[(.ref (sEL Z))] h [] (fun r h' => ∃ (q0 : Addr), r = some (.ref q0) ∧ Keep h h' [] ∧ h.size ≤ q0 ∧ Z.heap.size ≤ q0 ∧ Exa Z h' q0 "java/util/ImmutableCollections$ListItr" ∧ Fld Z h' q0 "java/util/ImmutableCollections$ListItr" "cursor" "I" (.int 0) ∧ Fld Z h' q0 "java/util/ImmutableCollections$ListItr" "isListIterator" "Z" (.int 0) ∧ Fld Z h' q0 "java/util/ImmutableCollections$ListItr" "list" "Ljava/util/List;" (.ref (sEL Z)) ∧ Fld Z h' q0 "java/util/ImmutableCollections$ListItr" "size" "I" (.int 0)) := by
  have hw := G.hw
  refine Met.of (plainFor_of_name pn_6c654c697374_24) G.ew O ?_
  intro p e s m below meth c T0 C0 S0
  refine Endw.eq (g' := mkF m 0 #[.val (.ref (sEL Z))] []) rfl ?_
  refine C0.new (wd hw 300 rfl) (W301 hw) (W302 hw) (Y78 0 rfl) (pc' := 3) rfl (by decide) (by decide) ?_
  intro T1 h1 a1 C1 K1 A1 ge1 zg1 E1 D1 S1
  refine C1.du (Y78 1 rfl) rfl (C1.aL (Y78 2 rfl) rfl rfl (C1.aL (Y78 3 rfl) rfl rfl ?_))
  have f2 := (G.t6.ext C1.old)
  refine C1.virtualUp (ow := "java/util/AbstractCollection") (W := 3) (wd hw 303 rfl) (wd hw 304 rfl) (wd hw 305 rfl) (by decide) (W667 hw) (wd hw 668 rfl) (wd hw 670 rfl) (wd hw 669 rfl) (rm_au70_size l Z a0 EL G  h1 C1.old ) (fun _ => rfl) rfl f2 all0 (by decide) (by decide) (by decide) (by decide) (lenOf pd_282949 rfl) rfl (nb rfl) rfl (Y78 4 rfl) (pc' := 9) rfl ?_
  intro vm7 T7 h7 v7 C7 A7 M7 q7
  obtain ⟨rfl, rfl⟩ := q7
  have f8 : Fld Z h1 a1 "java/util/ImmutableCollections$ListItr" "list" "Ljava/util/List;" .null := D1 (Or.inr (W315 hw)) (ty := (.object "java/util/List")) (by decide)
  have f9 : Fld Z h1 a1 "java/util/ImmutableCollections$ListItr" "size" "I" (.int 0) := D1 (Or.inr (W317 hw)) (ty := .int) (by decide)
  have f10 : Fld Z h1 a1 "java/util/ImmutableCollections$ListItr" "cursor" "I" (.int 0) := D1 (Or.inl (W319 hw)) (ty := .int) (by decide)
  have f11 : Fld Z h1 a1 "java/util/ImmutableCollections$ListItr" "isListIterator" "Z" (.int 0) := D1 (Or.inr (W321 hw)) (ty := .boolean) (by decide)
  refine C7.special (y := ⟨"java/util/ImmutableCollections$ListItr", "<init>", "(Ljava/util/List;I)V"⟩) (W := 1) rfl (wd hw 309 rfl) (wd hw 310 rfl) (wd hw 312 rfl) (W302 hw) (by decide) (rm_au71_init l Z a0 EL G a1 h1 C7.old E1 f10 f11 f8 f9 zg1) (fun _ => rfl) rfl all0 (by decide) (by decide) (by decide) (by decide) (lenOf pd_53 rfl) rfl (nb rfl) rfl (Y78 5 rfl) (pc' := 12) rfl ?_
  intro vm12 T12 h12 v12 C12 A12 M12 q12
  obtain ⟨rfl, K12, E12_0, F12_0_0, F12_0_1, F12_0_2, F12_0_3⟩ := q12
  have KK13 := (kT (kT (kR h []) K1 all0) K12 (allS (Or.inr ge1) all0))
  exact C12.retA (t := (.object "java/util/Iterator")) rfl rfl rfl rfl (Y78 6 rfl) (by decide) (by decide) ⟨a1, rfl, KK13, ge1, zg1, E12_0, F12_0_0, F12_0_1, F12_0_2, F12_0_3⟩
theorem rm_au72_hasNext (G : Glob Z a0 EL) (p0 : Addr) (h : Heap) (O : Ext Z.heap h) (f_0_0 : Fld Z h p0 "java/util/ImmutableCollections$ListItr" "cursor" "I" (.int 0)) (f_0_3 : Fld Z h p0 "java/util/ImmutableCollections$ListItr" "size" "I" (.int 0)) :
    Met l Z EL true ⟨"java/util/ImmutableCollections$ListItr", "hasNext", "()Z"⟩ jdk_53_method_3_code 1 (some .boolean) [] ⟨0, 0, 0, 0⟩ #[(.ref p0)] h [] (fun r h' => r = some (.int 0) ∧ h = h') := by
  have hw := G.hw
  refine Met.of (plainFor_of_name pn_697374497472_26) G.ew O ?_
  intro p e s m below meth c T0 C0 S0
  refine Endw.eq (g' := mkF m 0 #[.val (.ref p0)] []) rfl ?_
  refine C0.aL (Y81 0 rfl) rfl rfl ?_
  refine C0.getF (W318 hw) f_0_0 (Y81 1 rfl) (pc' := 4) rfl ?_
  intro T1 C1
  refine C1.aL (Y81 2 rfl) rfl rfl ?_
  refine C1.getF (wd hw 316 rfl) f_0_3 (Y81 3 rfl) (pc' := 8) rfl ?_
  intro T2 C2
  refine C2.cY (pc' := 15) (Y81 4 rfl) (XT.ii_eq_t (by decide)) (by decide) rfl (C2.ic (z := 0) (Y81 7 rfl) rfl ?_)
  exact C2.retI (t := .boolean) rfl (by simp) rfl (Y81 8 rfl) (by decide) (by decide) ⟨rfl, rfl⟩
theorem rm_au75_getNode (G : Glob Z a0 EL) (p0 p1 p2 p3 p4 : Addr) (kp2 kp3 : ClassId) (h : Heap) (O : Ext Z.heap h) (f_0_3 : Fld Z h p0 "java/util/HashMap" "table" "[Ljava/util/HashMap$Node;" (.ref p2)) (e_1 : Exa Z h p1 "java/lang/String") (f_1_1 : Fld Z h p1 "java/lang/String" "hash" "I" (.int 0)) (f_1_2 : Fld Z h p1 "java/lang/String" "hashIsZero" "Z" (.int 0)) (z_1 : Z.heap.size ≤ p1) (e_2 : Exa Z h p2 "[Ljava/util/HashMap$Node;") (w_2 : Arv Z h p2 kp2 (.object "java/util/HashMap$Node") (16 : Int32) [.null, .null, .null, (.ref p4), .null, .null, .null, .null, .null, .null, .null, .null, .null, .null, .null, .null] .null) (s_1 : Str Z h p1 p3 kp3 [(107 : Int32)]) :
    Met l Z EL true ⟨"java/util/HashMap", "getNode", "(Ljava/lang/Object;)Ljava/util/HashMap$Node;"⟩ jdk_69_method_13_code 8 (some (.object "java/util/HashMap$Node")) [] ⟨3, 0, 0, 40⟩ #[(.ref p0), (.ref p1)] h [p1] (fun r h' => r = some .null ∧ Keep h h' [p1] ∧ Exa Z h' p1 "java/lang/String" ∧ Fld Z h' p1 "java/lang/String" "coder" "B" (.int 0) ∧ Fld Z h' p1 "java/lang/String" "hash" "I" (.int 107) ∧ Fld Z h' p1 "java/lang/String" "hashIsZero" "Z" (.int 0) ∧ Fld Z h' p1 "java/lang/String" "value" "[B" (.ref p3)) := by
  have hw := G.hw
  refine Met.of (plainFor_of_name pn_6173684d6170_20) G.ew O ?_
  intro p e s m below meth c T0 C0 S0
  refine Endw.eq (g' := mkF m 0 #[.val (.ref p0), .val (.ref p1), .unset, .unset, .unset, .unset, .unset, .unset] []) rfl ?_
  refine C0.aL (Y102 0 rfl) rfl rfl ?_
  refine C0.getF (wd hw 613 rfl) f_0_3 (Y102 1 rfl) (pc' := 4) rfl ?_
  intro T1 C1
  refine C1.du (Y102 2 rfl) rfl (C1.aS (Y102 3 rfl) rfl (l' := #[.val (.ref p0), .val (.ref p1), .val (.ref p2), .unset, .unset, .unset, .unset, .unset]) rfl ?_)
  refine Endw.st (T' := T1) (g' := (mkF m 9 #[.val (.ref p0), .val (.ref p1), .val (.ref p2), .unset, .unset, .unset, .unset, .unset] [])) (fun _ k_ => XS.ifnullNo C1.here C1.hx rfl (C1.dec (Y102 4 rfl)) rfl k_) ?_
  refine C1.aL (Y102 5 rfl) rfl rfl ?_
  refine C1.len w_2 (Y102 6 rfl) (pc' := 11) rfl ?_
  show Endw p e below T1 (mkF m 11 #[.val (.ref p0), .val (.ref p1), .val (.ref p2), .unset, .unset, .unset, .unset, .unset] [(.int 16)]) _
  refine C1.du (Y102 7 rfl) rfl (C1.iSk (Y102 8 rfl) (l' := #[.val (.ref p0), .val (.ref p1), .val (.ref p2), .unset, .unset, .val (.int 16), .unset, .unset]) rfl (C1.fN (Y102 9 rfl) (XT.i0_le_f (by decide)) (C1.aL (Y102 10 rfl) rfl rfl (C1.iLk (Y102 11 rfl) rfl (C1.ic (z := 1) (Y102 12 rfl) rfl (C1.sb (z := 15) (Y102 13 rfl) rfl (C1.aL (Y102 14 rfl) rfl rfl ?_)))))))
  refine C1.static (W := 2) (wd hw 592 rfl) (wd hw 593 rfl) (wd hw 594 rfl) (W498 hw) (by decide) (rm_hash l Z a0 EL G p1 p3 kp3 (107 : Int32) h C1.old s_1 f_1_1 f_1_2 ⟨⟨by decide, by decide⟩, by decide, by decide⟩ z_1 (by decide)) (fun _ => rfl) rfl (allS ⟨e_1.lt, (S0 p1 (by simp))⟩ all0) (by decide) (by decide) (by decide) (by decide) (lenOf pd_33 rfl) rfl (nb rfl) rfl (Y102 15 rfl) (pc' := 26) rfl ?_
  intro vm2 T2 h2 v2 C2 A2 M2 q2
  obtain ⟨rfl, K2, Z2, H2, I2⟩ := q2
  refine C2.du (Y102 16 rfl) rfl (C2.iSk (Y102 17 rfl) (l' := #[.val (.ref p0), .val (.ref p1), .val (.ref p2), .unset, .unset, .val (.int 16), .val (.int 107), .unset]) rfl (C2.an (z := 11) (Y102 18 rfl) rfl ?_))
  have ne3 : p2 ≠ p1 := (RoadKit.Exa.ne e_2 e_1 (by decide))
  have f4 := (w_2.keep K2 (ninS ne3 nin0))
  refine C2.aaload f4 rfl ⟨by decide, by decide⟩ (v := .null) rfl (Y102 19 rfl) (pc' := 31) rfl ?_
  refine C2.du (Y102 20 rfl) rfl (C2.aS (Y102 21 rfl) rfl (l' := #[.val (.ref p0), .val (.ref p1), .val (.ref p2), .val .null, .unset, .val (.int 16), .val (.int 107), .unset]) rfl ?_)
  refine Endw.st (T' := T2) (g' := (mkF m 148 #[.val (.ref p0), .val (.ref p1), .val (.ref p2), .val .null, .unset, .val (.int 16), .val (.int 107), .unset] [])) (fun _ k_ => XS.ifnullYes C2.here C2.hx rfl (pc0 := 33) rfl (C2.dec (Y102 22 rfl)) rfl (by decide) rfl k_) ?_
  refine C2.nu (Y102 23 rfl) ?_
  exact C2.retA (t := (.object "java/util/HashMap$Node")) rfl rfl rfl rfl (Y102 24 rfl) (by decide) (by decide) ⟨rfl, K2, Z2.1, Z2.2.1, H2, I2, Z2.2.2.1⟩
theorem rm_au74_get (G : Glob Z a0 EL) (p0 p1 p2 p3 p4 : Addr) (kp2 kp3 : ClassId) (h : Heap) (O : Ext Z.heap h) (e_0 : Exa Z h p0 "java/util/HashMap") (f_0_3 : Fld Z h p0 "java/util/HashMap" "table" "[Ljava/util/HashMap$Node;" (.ref p2)) (e_1 : Exa Z h p1 "java/lang/String") (f_1_1 : Fld Z h p1 "java/lang/String" "hash" "I" (.int 0)) (f_1_2 : Fld Z h p1 "java/lang/String" "hashIsZero" "Z" (.int 0)) (z_1 : Z.heap.size ≤ p1) (e_2 : Exa Z h p2 "[Ljava/util/HashMap$Node;") (w_2 : Arv Z h p2 kp2 (.object "java/util/HashMap$Node") (16 : Int32) [.null, .null, .null, (.ref p4), .null, .null, .null, .null, .null, .null, .null, .null, .null, .null, .null, .null] .null) (s_1 : Str Z h p1 p3 kp3 [(107 : Int32)]) :
    Met l Z EL true ⟨"java/util/HashMap", "get", "(Ljava/lang/Object;)Ljava/lang/Object;"⟩ jdk_69_method_12_code 3 (some (.object "java/lang/Object")) [] ⟨4, 0, 0, 59⟩ #[(.ref p0), (.ref p1)] h [p1] (fun r h' => r = some .null ∧ Keep h h' [p1] ∧ Exa Z h' p1 "java/lang/String" ∧ Fld Z h' p1 "java/lang/String" "coder" "B" (.int 0) ∧ Fld Z h' p1 "java/lang/String" "hash" "I" (.int 107) ∧ Fld Z h' p1 "java/lang/String" "hashIsZero" "Z" (.int 0) ∧ Fld Z h' p1 "java/lang/String" "value" "[B" (.ref p3)) := by
  have hw := G.hw
  refine Met.of (plainFor_of_name pn_6173684d6170_20) G.ew O ?_
  intro p e s m below meth c T0 C0 S0
  refine Endw.eq (g' := mkF m 0 #[.val (.ref p0), .val (.ref p1), .unset] []) rfl ?_
  refine C0.aL (Y101 0 rfl) rfl rfl (C0.aL (Y101 1 rfl) rfl rfl ?_)
  refine C0.virtual (W := 0) (wd hw 687 rfl) (wd hw 688 rfl) (fun _ q => notFace_of_selects (args := #[]) (mvT q (wd hw 690 rfl))) (wd hw 690 rfl) (wd hw 689 rfl) (wd hw 691 rfl) (W498 hw) (by decide) (rm_au75_getNode l Z a0 EL G p0 p1 p2 p3 p4 kp2 kp3 h C0.old f_0_3 e_1 f_1_1 f_1_2 z_1 e_2 w_2 s_1) (fun _ => rfl) rfl e_0 (allS ⟨e_1.lt, (S0 p1 (by simp))⟩ all0) (by decide) (by decide) (by decide) (by decide) (lenOf pd_35 rfl) rfl (nb rfl) rfl (Y101 2 rfl) (pc' := 5) rfl ?_
  intro vm1 T1 h1 v1 C1 A1 M1 q1
  obtain ⟨rfl, K1, E1_0, F1_0_0, F1_0_1, F1_0_2, F1_0_3⟩ := q1
  refine C1.du (Y101 3 rfl) rfl (C1.aS (Y101 4 rfl) rfl (l' := #[.val (.ref p0), .val (.ref p1), .val .null]) rfl ?_)
  refine Endw.st (T' := T1) (g' := (mkF m 10 #[.val (.ref p0), .val (.ref p1), .val .null] [])) (fun _ k_ => XS.ifnonnullNo C1.here C1.hx rfl (C1.dec (Y101 5 rfl)) rfl k_) ?_
  refine C1.nu (Y101 6 rfl) (C1.go (pc' := 18) (Y101 7 rfl) (by decide) rfl ?_)
  exact C1.retA (t := (.object "java/lang/Object")) rfl rfl rfl rfl (Y101 8 rfl) (by decide) (by decide) ⟨rfl, K1, E1_0, F1_0_0, F1_0_1, F1_0_2, F1_0_3⟩
theorem rm_au73_ownerOf (G : Glob Z a0 EL) (p0 p1 p3 p4 p6 p7 : Addr) (kp4 kp6 : ClassId) (h : Heap) (O : Ext Z.heap h) (f_0_1 : Fld Z h p0 "com/example/dique/dique/model/Names" "owners" "Ljava/util/Map;" (.ref p3)) (e_3 : Exa Z h p3 "java/util/HashMap") (f_3_3 : Fld Z h p3 "java/util/HashMap" "table" "[Ljava/util/HashMap$Node;" (.ref p6)) (e_6 : Exa Z h p6 "[Ljava/util/HashMap$Node;") (w_6 : Arv Z h p6 kp6 (.object "java/util/HashMap$Node") (16 : Int32) [.null, .null, .null, (.ref p7), .null, .null, .null, .null, .null, .null, .null, .null, .null, .null, .null, .null] .null) (s_1 : Str Z h p1 p4 kp4 [(107 : Int32)]) :
    Met l Z EL true ⟨"com/example/dique/dique/model/Names", "ownerOf", "(Ljava/lang/String;)Ljava/lang/String;"⟩ prog_17_method_3_code 2 (some (.object "java/lang/String")) [] ⟨6, 4, 13, 86⟩ #[(.ref p0), (.ref p1)] h [] (fun r h' => r = some .null ∧ Keep h h' []) := by
  have hw := G.hw
  refine Met.of (plainFor_of_name pn_2f4e616d6573_2) G.ew O ?_
  intro p e s m below meth c T0 C0 S0
  refine Endw.eq (g' := mkF m 0 #[.val (.ref p0), .val (.ref p1)] []) rfl ?_
  refine C0.aL (Y100 0 rfl) rfl rfl ?_
  refine C0.getF (wd hw 512 rfl) f_0_1 (Y100 1 rfl) (pc' := 4) rfl ?_
  intro T1 C1
  refine C1.aL (Y100 2 rfl) rfl rfl ?_
  refine C1.static (W := 1) (wd hw 533 rfl) (wd hw 534 rfl) (wd hw 535 rfl) (W112 hw) (by decide) (rm_fold l Z a0 EL G p1 p4 kp4 (107 : Int32) h C1.old s_1 ⟨⟨by decide, by decide⟩, by decide, by decide⟩) (fun _ => rfl) rfl all0 (by decide) (by decide) (by decide) (by decide) (lenOf pd_43 rfl) rfl (nb rfl) rfl (Y100 3 rfl) (pc' := 8) rfl ?_
  intro vm2 T2 h2 v2 C2 A2 M2 q2
  obtain ⟨a2, d2, kd2, rfl, K2, ge2, gd2, zg2, zd2, Z2, H2, I2⟩ := q2
  have f3 := (e_3.keep K2)
  have f7 := (f_3_3.keep K2 nin0)
  have f9 := (e_6.keep K2)
  have f10 := (w_6.keep K2 nin0)
  refine C2.iface (W := 0) (wd hw 679 rfl) (wd hw 680 rfl) (wd hw 681 rfl) (wd hw 682 rfl) (wd hw 683 rfl) (wd hw 684 rfl) (wd hw 685 rfl) (wd hw 590 rfl) (wd hw 686 rfl) (W498 hw) (by decide) (rm_au74_get l Z a0 EL G p3 a2 p6 d2 p7 kp6 kd2 h2 C2.old f3 f7 Z2.1 H2 I2 zg2 f9 f10 Z2) (fun _ => rfl) rfl f3 (allS ⟨Z2.1.lt, (own_safe_new (M2 rfl) ge2)⟩ all0) (by decide) (by decide) (by decide) (by decide) (lenOf pd_34 rfl) rfl (nb rfl) rfl (Y100 4 rfl) (pc' := 13) rfl ?_
  intro vm33 T33 h33 v33 C33 A33 M33 q33
  obtain ⟨rfl, K33, E33_0, F33_0_0, F33_0_1, F33_0_2, F33_0_3⟩ := q33
  refine Endw.st (T' := T33) (g' := (mkF m 16 #[.val (.ref p0), .val (.ref p1)] [.null])) (fun _ k_ => own_checkcastNull C33 rfl rfl (Y100 5 rfl) k_) ?_
  have KK35 := (kT (kT (kR h []) K2 all0) K33 (allS (Or.inr ge2) all0))
  exact C33.retA (t := (.object "java/lang/String")) rfl rfl rfl rfl (Y100 6 rfl) (by decide) (by decide) ⟨rfl, KK35⟩
theorem rm_au36_init (G : Glob Z a0 EL) (p0 p1 p2 p3 p4 p5 p6 p7 p8 p9 p10 p11 p12 p13 p14 p15 p16 p17 : Addr) (kp7 kp8 kp9 kp10 kp11 kp16 kp17 : ClassId) (h : Heap) (O : Ext Z.heap h) (e_0 : Exa Z h p0 "com/example/dique/dique/model/Dimension") (f_0_0 : Fld Z h p0 "com/example/dique/dique/model/Dimension" "attributes" "Ljava/util/List;" .null) (f_0_1 : Fld Z h p0 "com/example/dique/dique/model/Dimension" "foreignKey" "Ljava/lang/String;" .null) (f_0_2 : Fld Z h p0 "com/example/dique/dique/model/Dimension" "key" "Ljava/lang/String;" .null) (f_0_3 : Fld Z h p0 "com/example/dique/dique/model/Dimension" "levels" "Ljava/util/List;" .null) (f_0_4 : Fld Z h p0 "com/example/dique/dique/model/Dimension" "name" "Ljava/lang/String;" .null) (f_0_5 : Fld Z h p0 "com/example/dique/dique/model/Dimension" "table" "Ljava/lang/String;" .null) (z_0 : Z.heap.size ≤ p0) (e_1 : Exa Z h p1 "java/lang/String") (f_1_0 : Fld Z h p1 "java/lang/String" "coder" "B" (.int 0)) (f_1_1 : Fld Z h p1 "java/lang/String" "value" "[B" (.ref p7)) (e_5 : Exa Z h p5 "java/util/ArrayList") (f_5_1 : Fld Z h p5 "java/util/ArrayList" "elementData" "[Ljava/lang/Object;" (.ref p11)) (f_5_2 : Fld Z h p5 "java/util/ArrayList" "size" "I" (.int 1)) (e_6 : Exa Z h p6 "java/util/ArrayList") (f_6_2 : Fld Z h p6 "java/util/ArrayList" "size" "I" (.int 0)) (w_7 : Arv Z h p7 kp7 .byte (1 : Int32) (bys [(100 : Int32)]) (.int 0)) (e_11 : Exa Z h p11 "[Ljava/lang/Object;") (w_11 : Arv Z h p11 kp11 (.object "java/lang/Object") (10 : Int32) [(.ref p12), .null, .null, .null, .null, .null, .null, .null, .null, .null] .null) (e_12 : Exa Z h p12 "com/example/dique/dique/model/Level") (f_12_0 : Fld Z h p12 "com/example/dique/dique/model/Level" "columns" "Ljava/util/List;" (.ref p13)) (f_12_1 : Fld Z h p12 "com/example/dique/dique/model/Level" "name" "Ljava/lang/String;" (.ref p14)) (e_13 : Exa Z h p13 "java/util/ImmutableCollections$List12") (f_13_0 : Fld Z h p13 "java/util/ImmutableCollections$List12" "e0" "Ljava/lang/Object;" (.ref p15)) (f_13_1 : Fld Z h p13 "java/util/ImmutableCollections$List12" "e1" "Ljava/lang/Object;" (.ref (sEM Z))) (e_14 : Exa Z h p14 "java/lang/String") (e_15 : Exa Z h p15 "java/lang/String") (w_16 : Arv Z h p16 kp16 .byte (1 : Int32) (bys [(108 : Int32)]) (.int 0)) (w_17 : Arv Z h p17 kp17 .byte (1 : Int32) (bys [(99 : Int32)]) (.int 0)) (s_1 : Str Z h p1 p7 kp7 [(100 : Int32)]) (s_2 : Str Z h p2 p8 kp8 [(116 : Int32)]) (s_3 : Str Z h p3 p9 kp9 [(107 : Int32)]) (s_4 : Str Z h p4 p10 kp10 [(102 : Int32), (107 : Int32)]) (s_14 : Str Z h p14 p16 kp16 [(108 : Int32)]) (s_15 : Str Z h p15 p17 kp17 [(99 : Int32)]) :
    Met l Z EL false ⟨"com/example/dique/dique/model/Dimension", "<init>", "(Ljava/lang/String;Ljava/lang/String;Ljava/lang/String;Ljava/lang/String;Ljava/util/List;Ljava/util/List;)V"⟩ prog_12_method_1_code 13 none [] ⟨8, 74, 1150, 106⟩ #[(.ref p0), (.ref p1), (.ref p2), (.ref p3), (.ref p4), (.ref p5), (.ref p6)] h [] (fun r h' => ∃ (q0 : Addr), r = none ∧ Keep h h' [p0] ∧ h.size ≤ q0 ∧ Z.heap.size ≤ q0 ∧ Exa Z h' p0 "com/example/dique/dique/model/Dimension" ∧ Fld Z h' p0 "com/example/dique/dique/model/Dimension" "attributes" "Ljava/util/List;" (.ref (sEL Z)) ∧ Fld Z h' p0 "com/example/dique/dique/model/Dimension" "foreignKey" "Ljava/lang/String;" (.ref p4) ∧ Fld Z h' p0 "com/example/dique/dique/model/Dimension" "key" "Ljava/lang/String;" (.ref p3) ∧ Fld Z h' p0 "com/example/dique/dique/model/Dimension" "levels" "Ljava/util/List;" (.ref q0) ∧ Fld Z h' p0 "com/example/dique/dique/model/Dimension" "name" "Ljava/lang/String;" (.ref p1) ∧ Fld Z h' p0 "com/example/dique/dique/model/Dimension" "table" "Ljava/lang/String;" (.ref p2) ∧ Exa Z h' q0 "java/util/ImmutableCollections$List12" ∧ Fld Z h' q0 "java/util/ImmutableCollections$List12" "e0" "Ljava/lang/Object;" (.ref p12) ∧ Fld Z h' q0 "java/util/ImmutableCollections$List12" "e1" "Ljava/lang/Object;" (.ref (sEM Z))) := by
  have hw := G.hw
  refine Met.of (plainFor_of_name pn_656e73696f6e_0) G.ew O ?_
  intro p e s m below meth c T0 C0 S0
  refine Endw.eq (g' := mkF m 0 #[.val (.ref p0), .val (.ref p1), .val (.ref p2), .val (.ref p3), .val (.ref p4), .val (.ref p5), .val (.ref p6), .unset, .unset, .unset, .unset, .unset, .unset] []) (by simp [entryFrame, mkF, argsToLocals, own_cI, own_cR, own_cN, own_cJ, own_cD, maxLocals]) ?_
  refine C0.aL (Y84 0 rfl) rfl rfl ?_
  refine C0.special (y := ⟨"java/lang/Record", "<init>", "()V"⟩) (W := 0) rfl (wd hw 472 rfl) (wd hw 100 rfl) (wd hw 103 rfl) (wd hw 102 rfl) (by decide) (rm_au8_init l Z a0 EL G p0 h C0.old ) (fun _ => rfl) rfl all0 (by decide) (by decide) (by decide) (by decide) (lenOf pd_282956 rfl) rfl (nb rfl) rfl (Y84 1 rfl) (pc' := 4) rfl ?_
  intro vm1 T1 h1 v1 C1 A1 M1 q1
  obtain ⟨rfl, rfl⟩ := q1
  refine C1.ldcC (N := 56) (vs := (bys [(100 : Int32), (105 : Int32), (109 : Int32), (101 : Int32), (110 : Int32), (115 : Int32), (105 : Int32), (111 : Int32), (110 : Int32), (32 : Int32), (110 : Int32), (97 : Int32), (109 : Int32), (101 : Int32)])) (z := (14 : Int32)) (W473 hw) G.wS (by rw [G.el]; decide) ⟨by decide, by decide⟩ (by decide) (by decide) (by decide) (by decide) (by decide) (by decide) (Y84 2 rfl) (pc' := 6) rfl rfl ?_
  intro vm2 T2 h2 a2 b2 kA2 C2 K2 A2 E2 F2 f2 V2 r2
  have Z2 : Str Z h2 a2 b2 kA2 [(100 : Int32), (105 : Int32), (109 : Int32), (101 : Int32), (110 : Int32), (115 : Int32), (105 : Int32), (111 : Int32), (110 : Int32), (32 : Int32), (110 : Int32), (97 : Int32), (109 : Int32), (101 : Int32)] := ⟨E2, F2, f2, V2, (own_cS ⟨by decide, by decide⟩ (own_cS ⟨by decide, by decide⟩ (own_cS ⟨by decide, by decide⟩ (own_cS ⟨by decide, by decide⟩ (own_cS ⟨by decide, by decide⟩ (own_cS ⟨by decide, by decide⟩ (own_cS ⟨by decide, by decide⟩ (own_cS ⟨by decide, by decide⟩ (own_cS ⟨by decide, by decide⟩ (own_cS ⟨by decide, by decide⟩ (own_cS ⟨by decide, by decide⟩ (own_cS ⟨by decide, by decide⟩ (own_cS ⟨by decide, by decide⟩ (own_cS ⟨by decide, by decide⟩ own_c0)))))))))))))), by decide⟩
  refine C2.aL (Y84 3 rfl) rfl rfl ?_
  have f3 := (f_1_0.keep K2 nin0)
  have f4 := (f_1_1.keep K2 nin0)
  have f5 := (e_1.keep K2)
  have f6 := (w_7.keep K2 nin0)
  have f7 := (s_1.keep K2 nin0 nin0)
  refine C2.static (W := 0) (wd hw 474 rfl) (wd hw 107 rfl) (wd hw 109 rfl) (W108 hw) (by decide) (rm_au37_requirePart l Z a0 EL G a2 p1 p7 kp7 h2 C2.old f5 f3 f4 f6 f7) (fun _ => rfl) rfl all0 (by decide) (by decide) (by decide) (by decide) (lenOf pd_47 rfl) rfl (nb rfl) rfl (Y84 4 rfl) (pc' := 10) rfl ?_
  intro vm10 T10 h10 v10 C10 A10 M10 q10
  obtain ⟨rfl, rfl⟩ := q10
  refine C10.new (wd hw 475 rfl) (W349 hw) (W350 hw) (Y84 5 rfl) (pc' := 13) rfl (by decide) (by decide) ?_
  intro T11 h11 a11 C11 K11 A11 ge11 zg11 E11 D11 S11
  refine C11.du (Y84 6 rfl) rfl ?_
  have f12 : Fld Z h11 a11 "java/lang/AbstractStringBuilder" "value" "[B" .null := D11 (Or.inl (W363 hw)) (ty := (.array .byte)) (by decide)
  have f13 : Fld Z h11 a11 "java/lang/AbstractStringBuilder" "coder" "B" (.int 0) := D11 (Or.inl (W365 hw)) (ty := .byte) (by decide)
  have f14 : Fld Z h11 a11 "java/lang/AbstractStringBuilder" "count" "I" (.int 0) := D11 (Or.inl (W379 hw)) (ty := .int) (by decide)
  refine C11.special (y := ⟨"java/lang/StringBuilder", "<init>", "()V"⟩) (W := 1) rfl (wd hw 476 rfl) (wd hw 352 rfl) (wd hw 353 rfl) (W350 hw) (by decide) (rm_sbInit l Z a0 EL G a11 h11 C11.old E11 f12 f13 f14 zg11) (fun _ => rfl) rfl all0 (by decide) (by decide) (by decide) (by decide) (lenOf pd_282956 rfl) rfl (nb rfl) rfl (Y84 7 rfl) (pc' := 17) rfl ?_
  intro vm15 T15 h15 v15 C15 A15 M15 q15
  obtain ⟨rfl, t15, kb15, K15, ge15, zg15, Z15⟩ := q15
  refine C15.ldcC (N := 92) (vs := (bys [(116 : Int32), (104 : Int32), (101 : Int32), (32 : Int32), (116 : Int32), (97 : Int32), (98 : Int32), (108 : Int32), (101 : Int32), (32 : Int32), (111 : Int32), (102 : Int32), (32 : Int32), (100 : Int32), (105 : Int32), (109 : Int32), (101 : Int32), (110 : Int32), (115 : Int32), (105 : Int32), (111 : Int32), (110 : Int32), (32 : Int32)])) (z := (23 : Int32)) (W477 hw) G.wS (by rw [G.el]; decide) ⟨by decide, by decide⟩ (by decide) (by decide) (by decide) (by decide) (by decide) (by decide) (Y84 8 rfl) (pc' := 19) rfl rfl ?_
  intro vm16 T16 h16 a16 b16 kA16 C16 K16 A16 E16 F16 f16 V16 r16
  have Z16 : Str Z h16 a16 b16 kA16 [(116 : Int32), (104 : Int32), (101 : Int32), (32 : Int32), (116 : Int32), (97 : Int32), (98 : Int32), (108 : Int32), (101 : Int32), (32 : Int32), (111 : Int32), (102 : Int32), (32 : Int32), (100 : Int32), (105 : Int32), (109 : Int32), (101 : Int32), (110 : Int32), (115 : Int32), (105 : Int32), (111 : Int32), (110 : Int32), (32 : Int32)] := ⟨E16, F16, f16, V16, (own_cS ⟨by decide, by decide⟩ (own_cS ⟨by decide, by decide⟩ (own_cS ⟨by decide, by decide⟩ (own_cS ⟨by decide, by decide⟩ (own_cS ⟨by decide, by decide⟩ (own_cS ⟨by decide, by decide⟩ (own_cS ⟨by decide, by decide⟩ (own_cS ⟨by decide, by decide⟩ (own_cS ⟨by decide, by decide⟩ (own_cS ⟨by decide, by decide⟩ (own_cS ⟨by decide, by decide⟩ (own_cS ⟨by decide, by decide⟩ (own_cS ⟨by decide, by decide⟩ (own_cS ⟨by decide, by decide⟩ (own_cS ⟨by decide, by decide⟩ (own_cS ⟨by decide, by decide⟩ (own_cS ⟨by decide, by decide⟩ (own_cS ⟨by decide, by decide⟩ (own_cS ⟨by decide, by decide⟩ (own_cS ⟨by decide, by decide⟩ (own_cS ⟨by decide, by decide⟩ (own_cS ⟨by decide, by decide⟩ (own_cS ⟨by decide, by decide⟩ own_c0))))))))))))))))))))))), by decide⟩
  have f19 := (Z15.keep K16 nin0 nin0)
  have f21 := (Z15.1.keep K16)
  refine C16.virtual (W := 0) (W478 hw) (W368 hw) (fun _ q => notFace_of_selects (args := #[]) (mvT q (W370 hw))) (W370 hw) (W369 hw) (W371 hw) (W350 hw) (by decide) (rm_sbAppendG l Z a0 EL G a11 t15 kb15 [] 16 a16 b16 kA16 [(116 : Int32), (104 : Int32), (101 : Int32), (32 : Int32), (116 : Int32), (97 : Int32), (98 : Int32), (108 : Int32), (101 : Int32), (32 : Int32), (111 : Int32), (102 : Int32), (32 : Int32), (100 : Int32), (105 : Int32), (109 : Int32), (101 : Int32), (110 : Int32), (115 : Int32), (105 : Int32), (111 : Int32), (110 : Int32), (32 : Int32)] 34 h16 C16.old f19 Z16 (nb rfl) ⟨Nat.le_of_ble_eq_true rfl, rfl⟩ (by decide) zg11) (fun _ => rfl) rfl f21 all0 (by decide) (by decide) (by decide) (by decide) (lenOf pd_44 rfl) rfl (nb rfl) rfl (Y84 9 rfl) (pc' := 22) rfl ?_
  intro vm20 T20 h20 v20 C20 A20 M20 q20
  obtain ⟨rfl, t20, kb20, K20, ge20, zg20, Z20⟩ := q20
  refine C20.aL (Y84 10 rfl) rfl rfl ?_
  have KK22 := (kT (kT (kT (kT (kR h2 []) K11 all0) K15 (allS (Or.inr ge11) all0)) K16 all0) K20 (allS (Or.inr ge11) all0))
  have f23 := (f7.keep KK22 nin0 nin0)
  refine C20.virtual (W := 0) (W478 hw) (W368 hw) (fun _ q => notFace_of_selects (args := #[]) (mvT q (W370 hw))) (W370 hw) (W369 hw) (W371 hw) (W350 hw) (by decide) (rm_sbAppend l Z a0 EL G a11 t20 kb20 ([] ++ [(116 : Int32), (104 : Int32), (101 : Int32), (32 : Int32), (116 : Int32), (97 : Int32), (98 : Int32), (108 : Int32), (101 : Int32), (32 : Int32), (111 : Int32), (102 : Int32), (32 : Int32), (100 : Int32), (105 : Int32), (109 : Int32), (101 : Int32), (110 : Int32), (115 : Int32), (105 : Int32), (111 : Int32), (110 : Int32), (32 : Int32)]) 34 p1 p7 kp7 [(100 : Int32)] h20 C20.old Z20 f23 (nb rfl) zg11 zg20) (fun _ => rfl) rfl Z20.1 (allS ⟨Z20.2.2.2.1.lt, (own_safe_new (M20 rfl) ge20)⟩ all0) (by decide) (by decide) (by decide) (by decide) (lenOf pd_44 rfl) rfl (nb rfl) rfl (Y84 11 rfl) (pc' := 26) rfl ?_
  intro vm24 T24 h24 v24 C24 A24 M24 q24
  obtain ⟨rfl, K24, Z24⟩ := q24
  refine C24.virtual (W := 0) (wd hw 479 rfl) (W418 hw) (fun _ q => notFace_of_selects (args := #[]) (mvT q (W420 hw))) (W420 hw) (W419 hw) (W421 hw) (W350 hw) (by decide) (rm_toString l Z a0 EL G a11 t20 kb20 (([] ++ [(116 : Int32), (104 : Int32), (101 : Int32), (32 : Int32), (116 : Int32), (97 : Int32), (98 : Int32), (108 : Int32), (101 : Int32), (32 : Int32), (111 : Int32), (102 : Int32), (32 : Int32), (100 : Int32), (105 : Int32), (109 : Int32), (101 : Int32), (110 : Int32), (115 : Int32), (105 : Int32), (111 : Int32), (110 : Int32), (32 : Int32)]) ++ [(100 : Int32)]) 34 h24 C24.old Z24 (nb rfl) (nb rfl)) (fun _ => rfl) rfl Z24.1 all0 (by decide) (by decide) (by decide) (by decide) (lenOf pd_5 rfl) rfl (nb rfl) rfl (Y84 12 rfl) (pc' := 29) rfl ?_
  intro vm25 T25 h25 v25 C25 A25 M25 q25
  obtain ⟨a25, d25, kd25, rfl, K25, ge25, gd25, zg25, zd25, Z25⟩ := q25
  refine C25.aL (Y84 13 rfl) rfl rfl ?_
  have KK26 := (kT (kT (kT (kT (kT (kT (kT (kR h []) K2 all0) K11 all0) K15 (allS (Or.inr (lT K2.1 ge11)) all0)) K16 all0) K20 (allS (Or.inr (lT K2.1 ge11)) all0)) K24 (allS (Or.inr (lT K2.1 ge11)) (allS (Or.inr (lT (lT K2.1 (lT K11.1 (lT K15.1 K16.1))) ge20)) all0))) K25 all0)
  have f27 := (s_2.keep KK26 nin0 nin0)
  refine C25.static (W := 0) (wd hw 480 rfl) (wd hw 111 rfl) (wd hw 113 rfl) (W112 hw) (by decide) (rm_require l Z a0 EL G (.ref a25) rfl p2 p8 kp8 [(116 : Int32)] h25 C25.old f27 (own_solidOf (by decide) (by decide +kernel) (by decide +kernel))) (fun _ => rfl) rfl all0 (by decide) (by decide) (by decide) (by decide) (lenOf pd_47 rfl) rfl (nb rfl) rfl (Y84 14 rfl) (pc' := 33) rfl ?_
  intro vm28 T28 h28 v28 C28 A28 M28 q28
  obtain ⟨rfl, rfl⟩ := q28
  refine C28.new (wd hw 475 rfl) (W349 hw) (W350 hw) (Y84 15 rfl) (pc' := 36) rfl (by decide) (by decide) ?_
  intro T29 h29 a29 C29 K29 A29 ge29 zg29 E29 D29 S29
  refine C29.du (Y84 16 rfl) rfl ?_
  have f30 : Fld Z h29 a29 "java/lang/AbstractStringBuilder" "value" "[B" .null := D29 (Or.inl (W363 hw)) (ty := (.array .byte)) (by decide)
  have f31 : Fld Z h29 a29 "java/lang/AbstractStringBuilder" "coder" "B" (.int 0) := D29 (Or.inl (W365 hw)) (ty := .byte) (by decide)
  have f32 : Fld Z h29 a29 "java/lang/AbstractStringBuilder" "count" "I" (.int 0) := D29 (Or.inl (W379 hw)) (ty := .int) (by decide)
  refine C29.special (y := ⟨"java/lang/StringBuilder", "<init>", "()V"⟩) (W := 1) rfl (wd hw 476 rfl) (wd hw 352 rfl) (wd hw 353 rfl) (W350 hw) (by decide) (rm_sbInit l Z a0 EL G a29 h29 C29.old E29 f30 f31 f32 zg29) (fun _ => rfl) rfl all0 (by decide) (by decide) (by decide) (by decide) (lenOf pd_282956 rfl) rfl (nb rfl) rfl (Y84 17 rfl) (pc' := 40) rfl ?_
  intro vm33 T33 h33 v33 C33 A33 M33 q33
  obtain ⟨rfl, t33, kb33, K33, ge33, zg33, Z33⟩ := q33
  refine C33.ldcC (N := 84) (vs := (bys [(116 : Int32), (104 : Int32), (101 : Int32), (32 : Int32), (107 : Int32), (101 : Int32), (121 : Int32), (32 : Int32), (111 : Int32), (102 : Int32), (32 : Int32), (100 : Int32), (105 : Int32), (109 : Int32), (101 : Int32), (110 : Int32), (115 : Int32), (105 : Int32), (111 : Int32), (110 : Int32), (32 : Int32)])) (z := (21 : Int32)) (W481 hw) G.wS (by rw [G.el]; decide) ⟨by decide, by decide⟩ (by decide) (by decide) (by decide) (by decide) (by decide) (by decide) (Y84 18 rfl) (pc' := 42) rfl rfl ?_
  intro vm34 T34 h34 a34 b34 kA34 C34 K34 A34 E34 F34 f34 V34 r34
  have Z34 : Str Z h34 a34 b34 kA34 [(116 : Int32), (104 : Int32), (101 : Int32), (32 : Int32), (107 : Int32), (101 : Int32), (121 : Int32), (32 : Int32), (111 : Int32), (102 : Int32), (32 : Int32), (100 : Int32), (105 : Int32), (109 : Int32), (101 : Int32), (110 : Int32), (115 : Int32), (105 : Int32), (111 : Int32), (110 : Int32), (32 : Int32)] := ⟨E34, F34, f34, V34, (own_cS ⟨by decide, by decide⟩ (own_cS ⟨by decide, by decide⟩ (own_cS ⟨by decide, by decide⟩ (own_cS ⟨by decide, by decide⟩ (own_cS ⟨by decide, by decide⟩ (own_cS ⟨by decide, by decide⟩ (own_cS ⟨by decide, by decide⟩ (own_cS ⟨by decide, by decide⟩ (own_cS ⟨by decide, by decide⟩ (own_cS ⟨by decide, by decide⟩ (own_cS ⟨by decide, by decide⟩ (own_cS ⟨by decide, by decide⟩ (own_cS ⟨by decide, by decide⟩ (own_cS ⟨by decide, by decide⟩ (own_cS ⟨by decide, by decide⟩ (own_cS ⟨by decide, by decide⟩ (own_cS ⟨by decide, by decide⟩ (own_cS ⟨by decide, by decide⟩ (own_cS ⟨by decide, by decide⟩ (own_cS ⟨by decide, by decide⟩ (own_cS ⟨by decide, by decide⟩ own_c0))))))))))))))))))))), by decide⟩
  have f40 := (Z33.keep K34 nin0 nin0)
  have f42 := (Z33.1.keep K34)
  refine C34.virtual (W := 0) (W478 hw) (W368 hw) (fun _ q => notFace_of_selects (args := #[]) (mvT q (W370 hw))) (W370 hw) (W369 hw) (W371 hw) (W350 hw) (by decide) (rm_sbAppendG l Z a0 EL G a29 t33 kb33 [] 16 a34 b34 kA34 [(116 : Int32), (104 : Int32), (101 : Int32), (32 : Int32), (107 : Int32), (101 : Int32), (121 : Int32), (32 : Int32), (111 : Int32), (102 : Int32), (32 : Int32), (100 : Int32), (105 : Int32), (109 : Int32), (101 : Int32), (110 : Int32), (115 : Int32), (105 : Int32), (111 : Int32), (110 : Int32), (32 : Int32)] 34 h34 C34.old f40 Z34 (nb rfl) ⟨Nat.le_of_ble_eq_true rfl, rfl⟩ (by decide) zg29) (fun _ => rfl) rfl f42 all0 (by decide) (by decide) (by decide) (by decide) (lenOf pd_44 rfl) rfl (nb rfl) rfl (Y84 19 rfl) (pc' := 45) rfl ?_
  intro vm41 T41 h41 v41 C41 A41 M41 q41
  obtain ⟨rfl, t41, kb41, K41, ge41, zg41, Z41⟩ := q41
  refine C41.aL (Y84 20 rfl) rfl rfl ?_
  have KK43 := (kT (kT (kT (kT (kT (kT (kR h20 [a11, t20]) K24 (allS m0 (allS m1 all0))) K25 all0) K29 all0) K33 (allS (Or.inr (lT (lT K24.1 K25.1) ge29)) all0)) K34 all0) K41 (allS (Or.inr (lT (lT K24.1 K25.1) ge29)) all0))
  have ne44 : p1 ≠ t20 := (nL (lL (lL e_1.lt (lT K2.1 (lT K11.1 (lT K15.1 K16.1)))) ge20))
  have ne45 : p1 ≠ a11 := (nL (lL (lL e_1.lt K2.1) ge11))
  have ne46 : p7 ≠ t20 := (nL (lL (lL w_7.lt (lT K2.1 (lT K11.1 (lT K15.1 K16.1)))) ge20))
  have ne47 : p7 ≠ a11 := (nL (lL (lL w_7.lt K2.1) ge11))
  have f48 := (f23.keep KK43 (ninS ne45 (ninS ne44 nin0)) (ninS ne47 (ninS ne46 nin0)))
  refine C41.virtual (W := 0) (W478 hw) (W368 hw) (fun _ q => notFace_of_selects (args := #[]) (mvT q (W370 hw))) (W370 hw) (W369 hw) (W371 hw) (W350 hw) (by decide) (rm_sbAppend l Z a0 EL G a29 t41 kb41 ([] ++ [(116 : Int32), (104 : Int32), (101 : Int32), (32 : Int32), (107 : Int32), (101 : Int32), (121 : Int32), (32 : Int32), (111 : Int32), (102 : Int32), (32 : Int32), (100 : Int32), (105 : Int32), (109 : Int32), (101 : Int32), (110 : Int32), (115 : Int32), (105 : Int32), (111 : Int32), (110 : Int32), (32 : Int32)]) 34 p1 p7 kp7 [(100 : Int32)] h41 C41.old Z41 f48 (nb rfl) zg29 zg41) (fun _ => rfl) rfl Z41.1 (allS ⟨Z41.2.2.2.1.lt, (own_safe_new (M41 rfl) ge41)⟩ all0) (by decide) (by decide) (by decide) (by decide) (lenOf pd_44 rfl) rfl (nb rfl) rfl (Y84 21 rfl) (pc' := 49) rfl ?_
  intro vm49 T49 h49 v49 C49 A49 M49 q49
  obtain ⟨rfl, K49, Z49⟩ := q49
  refine C49.virtual (W := 0) (wd hw 479 rfl) (W418 hw) (fun _ q => notFace_of_selects (args := #[]) (mvT q (W420 hw))) (W420 hw) (W419 hw) (W421 hw) (W350 hw) (by decide) (rm_toString l Z a0 EL G a29 t41 kb41 (([] ++ [(116 : Int32), (104 : Int32), (101 : Int32), (32 : Int32), (107 : Int32), (101 : Int32), (121 : Int32), (32 : Int32), (111 : Int32), (102 : Int32), (32 : Int32), (100 : Int32), (105 : Int32), (109 : Int32), (101 : Int32), (110 : Int32), (115 : Int32), (105 : Int32), (111 : Int32), (110 : Int32), (32 : Int32)]) ++ [(100 : Int32)]) 34 h49 C49.old Z49 (nb rfl) (nb rfl)) (fun _ => rfl) rfl Z49.1 all0 (by decide) (by decide) (by decide) (by decide) (lenOf pd_5 rfl) rfl (nb rfl) rfl (Y84 22 rfl) (pc' := 52) rfl ?_
  intro vm50 T50 h50 v50 C50 A50 M50 q50
  obtain ⟨a50, d50, kd50, rfl, K50, ge50, gd50, zg50, zd50, Z50⟩ := q50
  refine C50.aL (Y84 23 rfl) rfl rfl ?_
  have KK51 := (kT (kT (kT (kT (kT (kT KK26 K29 all0) K33 (allS (Or.inr (lT KK26.1 ge29)) all0)) K34 all0) K41 (allS (Or.inr (lT KK26.1 ge29)) all0)) K49 (allS (Or.inr (lT KK26.1 ge29)) (allS (Or.inr (lT (lT KK26.1 (lT K29.1 (lT K33.1 K34.1))) ge41)) all0))) K50 all0)
  have f52 := (s_3.keep KK51 nin0 nin0)
  refine C50.static (W := 0) (wd hw 480 rfl) (wd hw 111 rfl) (wd hw 113 rfl) (W112 hw) (by decide) (rm_require l Z a0 EL G (.ref a50) rfl p3 p9 kp9 [(107 : Int32)] h50 C50.old f52 (own_solidOf (by decide) (by decide +kernel) (by decide +kernel))) (fun _ => rfl) rfl all0 (by decide) (by decide) (by decide) (by decide) (lenOf pd_47 rfl) rfl (nb rfl) rfl (Y84 24 rfl) (pc' := 56) rfl ?_
  intro vm53 T53 h53 v53 C53 A53 M53 q53
  obtain ⟨rfl, rfl⟩ := q53
  refine C53.new (wd hw 475 rfl) (W349 hw) (W350 hw) (Y84 25 rfl) (pc' := 59) rfl (by decide) (by decide) ?_
  intro T54 h54 a54 C54 K54 A54 ge54 zg54 E54 D54 S54
  refine C54.du (Y84 26 rfl) rfl ?_
  have f55 : Fld Z h54 a54 "java/lang/AbstractStringBuilder" "value" "[B" .null := D54 (Or.inl (W363 hw)) (ty := (.array .byte)) (by decide)
  have f56 : Fld Z h54 a54 "java/lang/AbstractStringBuilder" "coder" "B" (.int 0) := D54 (Or.inl (W365 hw)) (ty := .byte) (by decide)
  have f57 : Fld Z h54 a54 "java/lang/AbstractStringBuilder" "count" "I" (.int 0) := D54 (Or.inl (W379 hw)) (ty := .int) (by decide)
  refine C54.special (y := ⟨"java/lang/StringBuilder", "<init>", "()V"⟩) (W := 1) rfl (wd hw 476 rfl) (wd hw 352 rfl) (wd hw 353 rfl) (W350 hw) (by decide) (rm_sbInit l Z a0 EL G a54 h54 C54.old E54 f55 f56 f57 zg54) (fun _ => rfl) rfl all0 (by decide) (by decide) (by decide) (by decide) (lenOf pd_282956 rfl) rfl (nb rfl) rfl (Y84 27 rfl) (pc' := 63) rfl ?_
  intro vm58 T58 h58 v58 C58 A58 M58 q58
  obtain ⟨rfl, t58, kb58, K58, ge58, zg58, Z58⟩ := q58
  refine C58.ldcC (N := 116) (vs := (bys [(116 : Int32), (104 : Int32), (101 : Int32), (32 : Int32), (102 : Int32), (111 : Int32), (114 : Int32), (101 : Int32), (105 : Int32), (103 : Int32), (110 : Int32), (32 : Int32), (107 : Int32), (101 : Int32), (121 : Int32), (32 : Int32), (111 : Int32), (102 : Int32), (32 : Int32), (100 : Int32), (105 : Int32), (109 : Int32), (101 : Int32), (110 : Int32), (115 : Int32), (105 : Int32), (111 : Int32), (110 : Int32), (32 : Int32)])) (z := (29 : Int32)) (W482 hw) G.wS (by rw [G.el]; decide) ⟨by decide, by decide⟩ (by decide) (by decide) (by decide) (by decide) (by decide) (by decide) (Y84 28 rfl) (pc' := 65) rfl rfl ?_
  intro vm59 T59 h59 a59 b59 kA59 C59 K59 A59 E59 F59 f59 V59 r59
  have Z59 : Str Z h59 a59 b59 kA59 [(116 : Int32), (104 : Int32), (101 : Int32), (32 : Int32), (102 : Int32), (111 : Int32), (114 : Int32), (101 : Int32), (105 : Int32), (103 : Int32), (110 : Int32), (32 : Int32), (107 : Int32), (101 : Int32), (121 : Int32), (32 : Int32), (111 : Int32), (102 : Int32), (32 : Int32), (100 : Int32), (105 : Int32), (109 : Int32), (101 : Int32), (110 : Int32), (115 : Int32), (105 : Int32), (111 : Int32), (110 : Int32), (32 : Int32)] := ⟨E59, F59, f59, V59, (own_cS ⟨by decide, by decide⟩ (own_cS ⟨by decide, by decide⟩ (own_cS ⟨by decide, by decide⟩ (own_cS ⟨by decide, by decide⟩ (own_cS ⟨by decide, by decide⟩ (own_cS ⟨by decide, by decide⟩ (own_cS ⟨by decide, by decide⟩ (own_cS ⟨by decide, by decide⟩ (own_cS ⟨by decide, by decide⟩ (own_cS ⟨by decide, by decide⟩ (own_cS ⟨by decide, by decide⟩ (own_cS ⟨by decide, by decide⟩ (own_cS ⟨by decide, by decide⟩ (own_cS ⟨by decide, by decide⟩ (own_cS ⟨by decide, by decide⟩ (own_cS ⟨by decide, by decide⟩ (own_cS ⟨by decide, by decide⟩ (own_cS ⟨by decide, by decide⟩ (own_cS ⟨by decide, by decide⟩ (own_cS ⟨by decide, by decide⟩ (own_cS ⟨by decide, by decide⟩ (own_cS ⟨by decide, by decide⟩ (own_cS ⟨by decide, by decide⟩ (own_cS ⟨by decide, by decide⟩ (own_cS ⟨by decide, by decide⟩ (own_cS ⟨by decide, by decide⟩ (own_cS ⟨by decide, by decide⟩ (own_cS ⟨by decide, by decide⟩ (own_cS ⟨by decide, by decide⟩ own_c0))))))))))))))))))))))))))))), by decide⟩
  have f68 := (Z58.keep K59 nin0 nin0)
  have f70 := (Z58.1.keep K59)
  refine C59.virtual (W := 0) (W478 hw) (W368 hw) (fun _ q => notFace_of_selects (args := #[]) (mvT q (W370 hw))) (W370 hw) (W369 hw) (W371 hw) (W350 hw) (by decide) (rm_sbAppendG l Z a0 EL G a54 t58 kb58 [] 16 a59 b59 kA59 [(116 : Int32), (104 : Int32), (101 : Int32), (32 : Int32), (102 : Int32), (111 : Int32), (114 : Int32), (101 : Int32), (105 : Int32), (103 : Int32), (110 : Int32), (32 : Int32), (107 : Int32), (101 : Int32), (121 : Int32), (32 : Int32), (111 : Int32), (102 : Int32), (32 : Int32), (100 : Int32), (105 : Int32), (109 : Int32), (101 : Int32), (110 : Int32), (115 : Int32), (105 : Int32), (111 : Int32), (110 : Int32), (32 : Int32)] 34 h59 C59.old f68 Z59 (nb rfl) ⟨Nat.le_of_ble_eq_true rfl, rfl⟩ (by decide) zg54) (fun _ => rfl) rfl f70 all0 (by decide) (by decide) (by decide) (by decide) (lenOf pd_44 rfl) rfl (nb rfl) rfl (Y84 29 rfl) (pc' := 68) rfl ?_
  intro vm69 T69 h69 v69 C69 A69 M69 q69
  obtain ⟨rfl, t69, kb69, K69, ge69, zg69, Z69⟩ := q69
  refine C69.aL (Y84 30 rfl) rfl rfl ?_
  have KK71 := (kT (kT (kT (kT (kT (kT (kR h41 [a29, t41]) K49 (allS m0 (allS m1 all0))) K50 all0) K54 all0) K58 (allS (Or.inr (lT (lT K49.1 K50.1) ge54)) all0)) K59 all0) K69 (allS (Or.inr (lT (lT K49.1 K50.1) ge54)) all0))
  have ne72 : p1 ≠ t41 := (nL (lL (lL e_1.lt (lT KK26.1 (lT K29.1 (lT K33.1 K34.1)))) ge41))
  have ne73 : p1 ≠ a29 := (nL (lL (lL e_1.lt KK26.1) ge29))
  have ne74 : p7 ≠ t41 := (nL (lL (lL w_7.lt (lT KK26.1 (lT K29.1 (lT K33.1 K34.1)))) ge41))
  have ne75 : p7 ≠ a29 := (nL (lL (lL w_7.lt KK26.1) ge29))
  have f76 := (f48.keep KK71 (ninS ne73 (ninS ne72 nin0)) (ninS ne75 (ninS ne74 nin0)))
  refine C69.virtual (W := 0) (W478 hw) (W368 hw) (fun _ q => notFace_of_selects (args := #[]) (mvT q (W370 hw))) (W370 hw) (W369 hw) (W371 hw) (W350 hw) (by decide) (rm_sbAppend l Z a0 EL G a54 t69 kb69 ([] ++ [(116 : Int32), (104 : Int32), (101 : Int32), (32 : Int32), (102 : Int32), (111 : Int32), (114 : Int32), (101 : Int32), (105 : Int32), (103 : Int32), (110 : Int32), (32 : Int32), (107 : Int32), (101 : Int32), (121 : Int32), (32 : Int32), (111 : Int32), (102 : Int32), (32 : Int32), (100 : Int32), (105 : Int32), (109 : Int32), (101 : Int32), (110 : Int32), (115 : Int32), (105 : Int32), (111 : Int32), (110 : Int32), (32 : Int32)]) 34 p1 p7 kp7 [(100 : Int32)] h69 C69.old Z69 f76 (nb rfl) zg54 zg69) (fun _ => rfl) rfl Z69.1 (allS ⟨Z69.2.2.2.1.lt, (own_safe_new (M69 rfl) ge69)⟩ all0) (by decide) (by decide) (by decide) (by decide) (lenOf pd_44 rfl) rfl (nb rfl) rfl (Y84 31 rfl) (pc' := 72) rfl ?_
  intro vm77 T77 h77 v77 C77 A77 M77 q77
  obtain ⟨rfl, K77, Z77⟩ := q77
  refine C77.virtual (W := 0) (wd hw 479 rfl) (W418 hw) (fun _ q => notFace_of_selects (args := #[]) (mvT q (W420 hw))) (W420 hw) (W419 hw) (W421 hw) (W350 hw) (by decide) (rm_toString l Z a0 EL G a54 t69 kb69 (([] ++ [(116 : Int32), (104 : Int32), (101 : Int32), (32 : Int32), (102 : Int32), (111 : Int32), (114 : Int32), (101 : Int32), (105 : Int32), (103 : Int32), (110 : Int32), (32 : Int32), (107 : Int32), (101 : Int32), (121 : Int32), (32 : Int32), (111 : Int32), (102 : Int32), (32 : Int32), (100 : Int32), (105 : Int32), (109 : Int32), (101 : Int32), (110 : Int32), (115 : Int32), (105 : Int32), (111 : Int32), (110 : Int32), (32 : Int32)]) ++ [(100 : Int32)]) 34 h77 C77.old Z77 (nb rfl) (nb rfl)) (fun _ => rfl) rfl Z77.1 all0 (by decide) (by decide) (by decide) (by decide) (lenOf pd_5 rfl) rfl (nb rfl) rfl (Y84 32 rfl) (pc' := 75) rfl ?_
  intro vm78 T78 h78 v78 C78 A78 M78 q78
  obtain ⟨a78, d78, kd78, rfl, K78, ge78, gd78, zg78, zd78, Z78⟩ := q78
  refine C78.aLk (Y84 33 rfl) rfl rfl ?_
  have KK79 := (kT (kT (kT (kT (kT (kT KK51 K54 all0) K58 (allS (Or.inr (lT KK51.1 ge54)) all0)) K59 all0) K69 (allS (Or.inr (lT KK51.1 ge54)) all0)) K77 (allS (Or.inr (lT KK51.1 ge54)) (allS (Or.inr (lT (lT KK51.1 (lT K54.1 (lT K58.1 K59.1))) ge69)) all0))) K78 all0)
  have f80 := (s_4.keep KK79 nin0 nin0)
  refine C78.static (W := 0) (wd hw 480 rfl) (wd hw 111 rfl) (wd hw 113 rfl) (W112 hw) (by decide) (rm_require l Z a0 EL G (.ref a78) rfl p4 p10 kp10 [(102 : Int32), (107 : Int32)] h78 C78.old f80 (own_solidOf (by decide) (by decide +kernel) (by decide +kernel))) (fun _ => rfl) rfl all0 (by decide) (by decide) (by decide) (by decide) (lenOf pd_47 rfl) rfl (nb rfl) rfl (Y84 34 rfl) (pc' := 80) rfl ?_
  intro vm81 T81 h81 v81 C81 A81 M81 q81
  obtain ⟨rfl, rfl⟩ := q81
  refine C81.aLk (Y84 35 rfl) rfl rfl ?_
  have f83 := (f_5_1.keep KK79 nin0)
  have f84 := (f_5_2.keep KK79 nin0)
  have f85 := (e_5.keep KK79)
  have f86 := (e_11.keep KK79)
  have f87 := (w_11.keep KK79 nin0)
  have f88 := (e_12.keep KK79)
  have f89 := (f_12_0.keep KK79 nin0)
  have f90 := (f_12_1.keep KK79 nin0)
  have f91 := (e_13.keep KK79)
  have f92 := (f_13_0.keep KK79 nin0)
  have f93 := (f_13_1.keep KK79 nin0)
  have f97 := (e_15.keep KK79)
  have f102 := (s_14.keep KK79 nin0 nin0)
  have f103 := (s_15.keep KK79 nin0 nin0)
  refine C81.static (W := 0) (wd hw 483 rfl) (wd hw 200 rfl) (wd hw 202 rfl) (wd hw 201 rfl) (by decide) (rm_au42_copyOf l Z a0 EL G p5 p11 p12 kp11 h78 C81.old f85 f83 f84 f86 f87 f88) (fun _ => rfl) rfl all0 (by decide) (by decide) (by decide) (by decide) (lenOf pd_52 rfl) rfl (nb rfl) rfl (Y84 36 rfl) (pc' := 85) rfl ?_
  intro vm105 T105 h105 v105 C105 A105 M105 q105
  obtain ⟨q0_105, rfl, K105, ge_q0_105, zg_q0_105, E105_0, F105_0_0, F105_0_1⟩ := q105
  refine C105.aSk (Y84 37 rfl) rfl (l' := #[.val (.ref p0), .val (.ref p1), .val (.ref p2), .val (.ref p3), .val (.ref p4), .val (.ref q0_105), .val (.ref p6), .unset, .unset, .unset, .unset, .unset, .unset]) rfl (C105.aLk (Y84 38 rfl) rfl rfl ?_)
  have KK106 := (kT KK79 K105 all0)
  have f109 := (e_6.keep KK106)
  have f110 := (f_6_2.keep KK106 nin0)
  refine C105.static (W := 0) (wd hw 483 rfl) (wd hw 200 rfl) (wd hw 202 rfl) (wd hw 201 rfl) (by decide) (rm_au47_copyOf l Z a0 EL G p6 h105 C105.old f109 f110) (fun _ => rfl) rfl all0 (by decide) (by decide) (by decide) (by decide) (lenOf pd_52 rfl) rfl (nb rfl) rfl (Y84 39 rfl) (pc' := 92) rfl ?_
  intro vm111 T111 h111 v111 C111 A111 M111 q111
  obtain ⟨rfl, rfl⟩ := q111
  refine C111.aSk (Y84 40 rfl) rfl (l' := #[.val (.ref p0), .val (.ref p1), .val (.ref p2), .val (.ref p3), .val (.ref p4), .val (.ref q0_105), .val (.ref (sEL Z)), .unset, .unset, .unset, .unset, .unset, .unset]) rfl (C111.aLk (Y84 41 rfl) rfl rfl ?_)
  refine C111.iface (W := 0) (wd hw 488 rfl) (wd hw 284 rfl) (wd hw 285 rfl) (wd hw 286 rfl) (wd hw 287 rfl) (wd hw 288 rfl) (wd hw 289 rfl) (W290 hw) (wd hw 291 rfl) (W255 hw) (by decide) (rm_au26_isEmpty l Z a0 EL G q0_105 h105 C111.old ) (fun _ => rfl) rfl E105_0 all0 (by decide) (by decide) (by decide) (by decide) (lenOf pd_28295a rfl) rfl (nb rfl) rfl (Y84 42 rfl) (pc' := 101) rfl ?_
  intro vm112 T112 h112 v112 C112 A112 M112 q112
  obtain ⟨rfl, rfl⟩ := q112
  refine C112.fY (pc' := 136) (Y84 43 rfl) (XT.i0_eq_t (by decide)) (by decide) rfl ?_
  refine C112.new (wd hw 489 rfl) (wd hw 490 rfl) (W108 hw) (Y84 44 rfl) (pc' := 139) rfl (by decide) (by decide) ?_
  intro T113 h113 a113 C113 K113 A113 ge113 zg113 E113 D113 S113
  refine C113.du (Y84 45 rfl) rfl ?_
  refine C113.ldcC (N := 20) (vs := (bys [(108 : Int32), (101 : Int32), (118 : Int32), (101 : Int32), (108 : Int32)])) (z := (5 : Int32)) (W491 hw) G.wS (by rw [G.el]; decide) ⟨by decide, by decide⟩ (by decide) (by decide) (by decide) (by decide) (by decide) (by decide) (Y84 46 rfl) (pc' := 142) rfl rfl ?_
  intro vm114 T114 h114 a114 b114 kA114 C114 K114 A114 E114 F114 f114 V114 r114
  have Z114 : Str Z h114 a114 b114 kA114 [(108 : Int32), (101 : Int32), (118 : Int32), (101 : Int32), (108 : Int32)] := ⟨E114, F114, f114, V114, (own_cS ⟨by decide, by decide⟩ (own_cS ⟨by decide, by decide⟩ (own_cS ⟨by decide, by decide⟩ (own_cS ⟨by decide, by decide⟩ (own_cS ⟨by decide, by decide⟩ own_c0))))), by decide⟩
  have f126 : Fld Z h113 a113 "com/example/dique/dique/model/Names" "owners" "Ljava/util/Map;" .null := D113 (Or.inr (wd hw 513 rfl)) (ty := (.object "java/util/Map")) (by decide)
  have f127 := (f126.keep K114 nin0)
  have f128 : Fld Z h113 a113 "com/example/dique/dique/model/Names" "kind" "Ljava/lang/String;" .null := D113 (Or.inr (wd hw 515 rfl)) (ty := (.object "java/lang/String")) (by decide)
  have f129 := (f128.keep K114 nin0)
  have f130 := (E113.keep K114)
  refine C114.special (y := ⟨"com/example/dique/dique/model/Names", "<init>", "(Ljava/lang/String;)V"⟩) (W := 1) rfl (wd hw 492 rfl) (wd hw 493 rfl) (wd hw 494 rfl) (W108 hw) (by decide) (rm_au51_init l Z a0 EL G a113 a114 h114 C114.old f130 f129 f127 zg113) (fun _ => rfl) rfl all0 (by decide) (by decide) (by decide) (by decide) (lenOf pd_45 rfl) rfl (nb rfl) rfl (Y84 47 rfl) (pc' := 145) rfl ?_
  intro vm132 T132 h132 v132 C132 A132 M132 q132
  obtain ⟨q0_132, rfl, K132, ge_q0_132, zg_q0_132, E132_0, F132_0_0, F132_0_1, E132_1, F132_1_0, F132_1_1, F132_1_2, F132_1_3, F132_1_4⟩ := q132
  refine C132.aSk (Y84 48 rfl) rfl (l' := #[.val (.ref p0), .val (.ref p1), .val (.ref p2), .val (.ref p3), .val (.ref p4), .val (.ref q0_105), .val (.ref (sEL Z)), .val (.ref a113), .unset, .unset, .unset, .unset, .unset]) rfl ?_
  refine C132.new (wd hw 489 rfl) (wd hw 490 rfl) (W108 hw) (Y84 49 rfl) (pc' := 150) rfl (by decide) (by decide) ?_
  intro T133 h133 a133 C133 K133 A133 ge133 zg133 E133 D133 S133
  refine C133.du (Y84 50 rfl) rfl ?_
  refine C133.ldcC (N := 24) (vs := (bys [(99 : Int32), (111 : Int32), (108 : Int32), (117 : Int32), (109 : Int32), (110 : Int32)])) (z := (6 : Int32)) (W516 hw) G.wS (by rw [G.el]; decide) ⟨by decide, by decide⟩ (by decide) (by decide) (by decide) (by decide) (by decide) (by decide) (Y84 51 rfl) (pc' := 153) rfl rfl ?_
  intro vm134 T134 h134 a134 b134 kA134 C134 K134 A134 E134 F134 f134 V134 r134
  have Z134 : Str Z h134 a134 b134 kA134 [(99 : Int32), (111 : Int32), (108 : Int32), (117 : Int32), (109 : Int32), (110 : Int32)] := ⟨E134, F134, f134, V134, (own_cS ⟨by decide, by decide⟩ (own_cS ⟨by decide, by decide⟩ (own_cS ⟨by decide, by decide⟩ (own_cS ⟨by decide, by decide⟩ (own_cS ⟨by decide, by decide⟩ (own_cS ⟨by decide, by decide⟩ own_c0)))))), by decide⟩
  have f148 : Fld Z h133 a133 "com/example/dique/dique/model/Names" "kind" "Ljava/lang/String;" .null := D133 (Or.inr (wd hw 515 rfl)) (ty := (.object "java/lang/String")) (by decide)
  have f149 := (f148.keep K134 nin0)
  have f150 : Fld Z h133 a133 "com/example/dique/dique/model/Names" "owners" "Ljava/util/Map;" .null := D133 (Or.inr (wd hw 513 rfl)) (ty := (.object "java/util/Map")) (by decide)
  have f151 := (f150.keep K134 nin0)
  have f152 := (E133.keep K134)
  refine C134.special (y := ⟨"com/example/dique/dique/model/Names", "<init>", "(Ljava/lang/String;)V"⟩) (W := 1) rfl (wd hw 492 rfl) (wd hw 493 rfl) (wd hw 494 rfl) (W108 hw) (by decide) (rm_au51_init l Z a0 EL G a133 a134 h134 C134.old f152 f149 f151 zg133) (fun _ => rfl) rfl all0 (by decide) (by decide) (by decide) (by decide) (lenOf pd_45 rfl) rfl (nb rfl) rfl (Y84 52 rfl) (pc' := 156) rfl ?_
  intro vm153 T153 h153 v153 C153 A153 M153 q153
  obtain ⟨q0_153, rfl, K153, ge_q0_153, zg_q0_153, E153_0, F153_0_0, F153_0_1, E153_1, F153_1_0, F153_1_1, F153_1_2, F153_1_3, F153_1_4⟩ := q153
  refine C153.aSk (Y84 53 rfl) rfl (l' := #[.val (.ref p0), .val (.ref p1), .val (.ref p2), .val (.ref p3), .val (.ref p4), .val (.ref q0_105), .val (.ref (sEL Z)), .val (.ref a113), .val (.ref a133), .unset, .unset, .unset, .unset]) rfl (C153.aLk (Y84 54 rfl) rfl rfl ?_)
  have KK154 := (kT (kT (kT (kT (kT (kT (kR h105 []) K113 all0) K114 all0) K132 (allS (Or.inr ge113) all0)) K133 all0) K134 all0) K153 (allS (Or.inr (lT (lT K113.1 (lT K114.1 K132.1)) ge133)) all0))
  have f155 := (E105_0.keep KK154)
  have f156 := (F105_0_0.keep KK154 nin0)
  have f157 := (F105_0_1.keep KK154 nin0)
  refine C153.iface (W := 0) (wd hw 517 rfl) (wd hw 293 rfl) (wd hw 294 rfl) (wd hw 295 rfl) (wd hw 296 rfl) (wd hw 297 rfl) (wd hw 298 rfl) (W290 hw) (wd hw 299 rfl) (wd hw 264 rfl) (by decide) (rm_au27_iterator l Z a0 EL G q0_105 h153 C153.old f155 f157) (fun _ => rfl) rfl f155 all0 (by decide) (by decide) (by decide) (by decide) (lenOf pd_6 rfl) rfl (nb rfl) rfl (Y84 55 rfl) (pc' := 165) rfl ?_
  intro vm158 T158 h158 v158 C158 A158 M158 q158
  obtain ⟨q0_158, rfl, K158, ge_q0_158, zg_q0_158, E158_0, F158_0_0, F158_0_1, F158_0_2, F158_0_3⟩ := q158
  refine C158.aSk (Y84 56 rfl) rfl (l' := #[.val (.ref p0), .val (.ref p1), .val (.ref p2), .val (.ref p3), .val (.ref p4), .val (.ref q0_105), .val (.ref (sEL Z)), .val (.ref a113), .val (.ref a133), .val (.ref q0_158), .unset, .unset, .unset]) rfl (C158.aLk (Y84 57 rfl) rfl rfl ?_)
  have f159 := (f156.keep K158 nin0)
  have f160 := (f157.keep K158 nin0)
  refine C158.iface (W := 0) (wd hw 518 rfl) (W323 hw) (W324 hw) (W325 hw) (W326 hw) (W327 hw) (W328 hw) (W329 hw) (W330 hw) (W302 hw) (by decide) (rm_au30_hasNext l Z a0 EL G q0_158 h158 C158.old F158_0_0 F158_0_3) (fun _ => rfl) rfl E158_0 all0 (by decide) (by decide) (by decide) (by decide) (lenOf pd_28295a rfl) rfl (nb rfl) rfl (Y84 58 rfl) (pc' := 174) rfl ?_
  intro vm161 T161 h161 v161 C161 A161 M161 q161
  obtain ⟨rfl, rfl⟩ := q161
  refine C161.fN (Y84 59 rfl) (XT.i0_eq_f (by decide)) (C161.aLk (Y84 60 rfl) rfl rfl ?_)
  have f162 := (f155.keep K158)
  have f164 := (A161.safe E158_0.lt (own_safe_new (M158 rfl) ge_q0_158))
  refine C161.ifaceH (W := 0) (ws := [q0_158]) (wd hw 519 rfl) (wd hw 332 rfl) (wd hw 333 rfl) (wd hw 334 rfl) (wd hw 335 rfl) (wd hw 336 rfl) (wd hw 337 rfl) (W329 hw) (wd hw 338 rfl) (W302 hw) (by decide) (rm_au31_next l Z a0 EL G q0_158 q0_105 p12 h158 C161.old E158_0 F158_0_0 F158_0_1 F158_0_2 F158_0_3 zg_q0_158 f162 f159) (fun v h' q => q.2.1) (allS zg_q0_158 all0) (sfS f164 sf0) rfl E158_0 all0 (by decide) (by decide) (by decide) (by decide) (lenOf pd_4 rfl) rfl (nb rfl) rfl (Y84 61 rfl) (pc' := 184) rfl ?_
  intro T163 h163 v163 C163 A163 q163
  obtain ⟨rfl, K163, E163_0, F163_0_0, F163_0_1, F163_0_2, F163_0_3⟩ := q163
  have KK166 := (kT (kT (kT (kT (kT (kT (kT (kT (kT (kR h78 []) K105 all0) K113 all0) K114 all0) K132 (allS (Or.inr (lT K105.1 ge113)) all0)) K133 all0) K134 all0) K153 (allS (Or.inr (lT (lT K105.1 (lT K113.1 (lT K114.1 K132.1))) ge133)) all0)) K158 all0) K163 (allS (Or.inr (lT (lT K105.1 (lT K113.1 (lT K114.1 (lT K132.1 (lT K133.1 (lT K134.1 K153.1)))))) ge_q0_158)) all0))
  have f167 := (f88.keep KK166)
  refine C163.castY (wd hw 520 rfl) (Ins.self f167) (Y84 62 rfl) (pc' := 187) rfl ?_
  intro T165 C165
  refine C165.aSk (Y84 63 rfl) rfl (l' := #[.val (.ref p0), .val (.ref p1), .val (.ref p2), .val (.ref p3), .val (.ref p4), .val (.ref q0_105), .val (.ref (sEL Z)), .val (.ref a113), .val (.ref a133), .val (.ref q0_158), .val (.ref p12), .unset, .unset]) rfl (C165.aLk (Y84 64 rfl) rfl rfl (C165.aLk (Y84 65 rfl) rfl rfl ?_))
  have f168 := (f89.keep KK166 nin0)
  have f169 := (f90.keep KK166 nin0)
  have f170 := (f91.keep KK166)
  have f171 := (f92.keep KK166 nin0)
  have f172 := (f93.keep KK166 nin0)
  have f176 := (f97.keep KK166)
  have f181 := (f102.keep KK166 nin0 nin0)
  have f182 := (f103.keep KK166 nin0 nin0)
  refine C165.virtual (W := 1) (wd hw 522 rfl) (wd hw 523 rfl) (fun _ q => notFace_of_selects (args := #[]) (mvT q (wd hw 525 rfl))) (wd hw 525 rfl) (wd hw 524 rfl) (wd hw 526 rfl) (wd hw 94 rfl) (by decide) (rm_au54_name l Z a0 EL G p12 p14 h163 C165.old f169) (fun _ => rfl) rfl f167 all0 (by decide) (by decide) (by decide) (by decide) (lenOf pd_5 rfl) rfl (nb rfl) rfl (Y84 66 rfl) (pc' := 196) rfl ?_
  intro vm183 T183 h183 v183 C183 A183 M183 q183
  obtain ⟨rfl, rfl⟩ := q183
  refine C183.new (wd hw 475 rfl) (W349 hw) (W350 hw) (Y84 67 rfl) (pc' := 199) rfl (by decide) (by decide) ?_
  intro T184 h184 a184 C184 K184 A184 ge184 zg184 E184 D184 S184
  refine C184.du (Y84 68 rfl) rfl ?_
  have f185 : Fld Z h184 a184 "java/lang/AbstractStringBuilder" "value" "[B" .null := D184 (Or.inl (W363 hw)) (ty := (.array .byte)) (by decide)
  have f186 : Fld Z h184 a184 "java/lang/AbstractStringBuilder" "coder" "B" (.int 0) := D184 (Or.inl (W365 hw)) (ty := .byte) (by decide)
  have f187 : Fld Z h184 a184 "java/lang/AbstractStringBuilder" "count" "I" (.int 0) := D184 (Or.inl (W379 hw)) (ty := .int) (by decide)
  refine C184.special (y := ⟨"java/lang/StringBuilder", "<init>", "()V"⟩) (W := 3) rfl (wd hw 476 rfl) (wd hw 352 rfl) (wd hw 353 rfl) (W350 hw) (by decide) (rm_sbInit l Z a0 EL G a184 h184 C184.old E184 f185 f186 f187 zg184) (fun _ => rfl) rfl all0 (by decide) (by decide) (by decide) (by decide) (lenOf pd_282956 rfl) rfl (nb rfl) rfl (Y84 69 rfl) (pc' := 203) rfl ?_
  intro vm188 T188 h188 v188 C188 A188 M188 q188
  obtain ⟨rfl, t188, kb188, K188, ge188, zg188, Z188⟩ := q188
  refine C188.ldcC (N := 40) (vs := (bys [(100 : Int32), (105 : Int32), (109 : Int32), (101 : Int32), (110 : Int32), (115 : Int32), (105 : Int32), (111 : Int32), (110 : Int32), (32 : Int32)])) (z := (10 : Int32)) (W527 hw) G.wS (by rw [G.el]; decide) ⟨by decide, by decide⟩ (by decide) (by decide) (by decide) (by decide) (by decide) (by decide) (Y84 70 rfl) (pc' := 205) rfl rfl ?_
  intro vm189 T189 h189 a189 b189 kA189 C189 K189 A189 E189 F189 f189 V189 r189
  have f206 := (A189.safe Z188.2.2.2.1.lt (own_safe_new (M188 rfl) ge188))
  have Z189 : Str Z h189 a189 b189 kA189 [(100 : Int32), (105 : Int32), (109 : Int32), (101 : Int32), (110 : Int32), (115 : Int32), (105 : Int32), (111 : Int32), (110 : Int32), (32 : Int32)] := ⟨E189, F189, f189, V189, (own_cS ⟨by decide, by decide⟩ (own_cS ⟨by decide, by decide⟩ (own_cS ⟨by decide, by decide⟩ (own_cS ⟨by decide, by decide⟩ (own_cS ⟨by decide, by decide⟩ (own_cS ⟨by decide, by decide⟩ (own_cS ⟨by decide, by decide⟩ (own_cS ⟨by decide, by decide⟩ (own_cS ⟨by decide, by decide⟩ (own_cS ⟨by decide, by decide⟩ own_c0)))))))))), by decide⟩
  have f207 := (Z188.keep K189 nin0 nin0)
  have f209 := (Z188.1.keep K189)
  refine C189.virtual (W := 2) (W478 hw) (W368 hw) (fun _ q => notFace_of_selects (args := #[]) (mvT q (W370 hw))) (W370 hw) (W369 hw) (W371 hw) (W350 hw) (by decide) (rm_sbAppend l Z a0 EL G a184 t188 kb188 [] 16 a189 b189 kA189 [(100 : Int32), (105 : Int32), (109 : Int32), (101 : Int32), (110 : Int32), (115 : Int32), (105 : Int32), (111 : Int32), (110 : Int32), (32 : Int32)] h189 C189.old f207 Z189 (nb rfl) zg184 zg188) (fun _ => rfl) rfl f209 (allS ⟨(lL Z188.2.2.2.1.lt K189.1), f206⟩ all0) (by decide) (by decide) (by decide) (by decide) (lenOf pd_44 rfl) rfl (nb rfl) rfl (Y84 71 rfl) (pc' := 208) rfl ?_
  intro vm208 T208 h208 v208 C208 A208 M208 q208
  obtain ⟨rfl, K208, Z208⟩ := q208
  refine C208.aL (Y84 72 rfl) rfl rfl ?_
  have KK210 := (kT (kT (kT (kT (kT (kT (kT (kT (kT (kT (kT (kT (kT (kT (kT (kR h69 [a54, t69]) K77 (allS m0 (allS m1 all0))) K78 all0) K105 all0) K113 all0) K114 all0) K132 (allS (Or.inr (lT (lT K77.1 (lT K78.1 K105.1)) ge113)) all0)) K133 all0) K134 all0) K153 (allS (Or.inr (lT (lT K77.1 (lT K78.1 (lT K105.1 (lT K113.1 (lT K114.1 K132.1))))) ge133)) all0)) K158 all0) K163 (allS (Or.inr (lT (lT K77.1 (lT K78.1 (lT K105.1 (lT K113.1 (lT K114.1 (lT K132.1 (lT K133.1 (lT K134.1 K153.1)))))))) ge_q0_158)) all0)) K184 all0) K188 (allS (Or.inr (lT (lT K77.1 (lT K78.1 (lT K105.1 (lT K113.1 (lT K114.1 (lT K132.1 (lT K133.1 (lT K134.1 (lT K153.1 (lT K158.1 K163.1)))))))))) ge184)) all0)) K189 all0) K208 (allS (Or.inr (lT (lT K77.1 (lT K78.1 (lT K105.1 (lT K113.1 (lT K114.1 (lT K132.1 (lT K133.1 (lT K134.1 (lT K153.1 (lT K158.1 K163.1)))))))))) ge184)) (allS (Or.inr (lT (lT K77.1 (lT K78.1 (lT K105.1 (lT K113.1 (lT K114.1 (lT K132.1 (lT K133.1 (lT K134.1 (lT K153.1 (lT K158.1 (lT K163.1 K184.1))))))))))) ge188)) all0)))
  have ne211 : p1 ≠ t69 := (nL (lL (lL e_1.lt (lT KK51.1 (lT K54.1 (lT K58.1 K59.1)))) ge69))
  have ne212 : p1 ≠ a54 := (nL (lL (lL e_1.lt KK51.1) ge54))
  have ne213 : p7 ≠ t69 := (nL (lL (lL w_7.lt (lT KK51.1 (lT K54.1 (lT K58.1 K59.1)))) ge69))
  have ne214 : p7 ≠ a54 := (nL (lL (lL w_7.lt KK51.1) ge54))
  have f215 := (f76.keep KK210 (ninS ne212 (ninS ne211 nin0)) (ninS ne214 (ninS ne213 nin0)))
  have f217 := (A208.safe (lL Z188.2.2.2.1.lt K189.1) f206)
  refine C208.virtual (W := 2) (W478 hw) (W368 hw) (fun _ q => notFace_of_selects (args := #[]) (mvT q (W370 hw))) (W370 hw) (W369 hw) (W371 hw) (W350 hw) (by decide) (rm_sbAppend l Z a0 EL G a184 t188 kb188 ([] ++ [(100 : Int32), (105 : Int32), (109 : Int32), (101 : Int32), (110 : Int32), (115 : Int32), (105 : Int32), (111 : Int32), (110 : Int32), (32 : Int32)]) 16 p1 p7 kp7 [(100 : Int32)] h208 C208.old Z208 f215 (nb rfl) zg184 zg188) (fun _ => rfl) rfl Z208.1 (allS ⟨(lL Z188.2.2.2.1.lt (lT K189.1 K208.1)), f217⟩ all0) (by decide) (by decide) (by decide) (by decide) (lenOf pd_44 rfl) rfl (nb rfl) rfl (Y84 73 rfl) (pc' := 212) rfl ?_
  intro vm216 T216 h216 v216 C216 A216 M216 q216
  obtain ⟨rfl, K216, Z216⟩ := q216
  refine C216.virtual (W := 2) (wd hw 479 rfl) (W418 hw) (fun _ q => notFace_of_selects (args := #[]) (mvT q (W420 hw))) (W420 hw) (W419 hw) (W421 hw) (W350 hw) (by decide) (rm_toString l Z a0 EL G a184 t188 kb188 (([] ++ [(100 : Int32), (105 : Int32), (109 : Int32), (101 : Int32), (110 : Int32), (115 : Int32), (105 : Int32), (111 : Int32), (110 : Int32), (32 : Int32)]) ++ [(100 : Int32)]) 16 h216 C216.old Z216 (nb rfl) (nb rfl)) (fun _ => rfl) rfl Z216.1 all0 (by decide) (by decide) (by decide) (by decide) (lenOf pd_5 rfl) rfl (nb rfl) rfl (Y84 74 rfl) (pc' := 215) rfl ?_
  intro vm218 T218 h218 v218 C218 A218 M218 q218
  obtain ⟨a218, d218, kd218, rfl, K218, ge218, gd218, zg218, zd218, Z218⟩ := q218
  have KK219 := (kT (kT (kT (kT (kT (kT (kT (kT (kT (kT (kT (kR h132 []) K133 all0) K134 all0) K153 (allS (Or.inr ge133) all0)) K158 all0) K163 (allS (Or.inr (lT (lT K133.1 (lT K134.1 K153.1)) ge_q0_158)) all0)) K184 all0) K188 (allS (Or.inr (lT (lT K133.1 (lT K134.1 (lT K153.1 (lT K158.1 K163.1)))) ge184)) all0)) K189 all0) K208 (allS (Or.inr (lT (lT K133.1 (lT K134.1 (lT K153.1 (lT K158.1 K163.1)))) ge184)) (allS (Or.inr (lT (lT K133.1 (lT K134.1 (lT K153.1 (lT K158.1 (lT K163.1 K184.1))))) ge188)) all0))) K216 (allS (Or.inr (lT (lT K133.1 (lT K134.1 (lT K153.1 (lT K158.1 K163.1)))) ge184)) (allS (Or.inr (lT (lT K133.1 (lT K134.1 (lT K153.1 (lT K158.1 (lT K163.1 K184.1))))) ge188)) all0))) K218 all0)
  have f220 := (E132_0.keep KK219)
  have f222 := (F132_0_1.keep KK219 nin0)
  have KK223 := (kT (kT (kT (kT (kT (kT (kR h163 []) K184 all0) K188 (allS (Or.inr ge184) all0)) K189 all0) K208 (allS (Or.inr ge184) (allS (Or.inr (lT K184.1 ge188)) all0))) K216 (allS (Or.inr ge184) (allS (Or.inr (lT K184.1 ge188)) all0))) K218 all0)
  have f232 := (E132_1.keep KK219)
  have f233 := (F132_1_0.keep KK219 nin0)
  have f234 := (F132_1_1.keep KK219 nin0)
  have f235 := (F132_1_2.keep KK219 nin0)
  have f236 := (F132_1_3.keep KK219 nin0)
  have f237 := (F132_1_4.keep KK219 nin0)
  have f241 := (f181.keep KK223 nin0 nin0)
  have KK245 := (kT (kT KK106 K113 all0) K114 all0)
  have ne250 : q0_132 ≠ p16 := (Ne.symm (nL (lL (lL w_16.lt KK245.1) ge_q0_132)))
  refine C218.virtual (W := 0) (wd hw 528 rfl) (wd hw 529 rfl) (fun _ q => notFace_of_selects (args := #[]) (mvT q (wd hw 531 rfl))) (wd hw 531 rfl) (wd hw 530 rfl) (wd hw 532 rfl) (W108 hw) (by decide) (rm_au55_claim l Z a0 EL G a113 p14 a218 q0_132 p16 kp16 h218 C218.old f222 f232 f233 f234 f235 f236 f237 zg_q0_132 f241) (fun _ => rfl) rfl f220 all0 (by decide) (by decide) (by decide) (by decide) (lenOf pd_47 rfl) rfl (nb rfl) rfl (Y84 75 rfl) (pc' := 218) rfl ?_
  intro vm252 T252 h252 v252 C252 A252 M252 q252
  obtain ⟨q0_252, q1_252, q2_252, q3_252, kq0_252, kq3_252, rfl, K252, ge_q0_252, zg_q0_252, ge_q1_252, zg_q1_252, ge_q2_252, zg_q2_252, ge_q3_252, zg_q3_252, E252_0, F252_0_0, F252_0_1, F252_0_2, F252_0_3, F252_0_4, E252_1, V252_1, O252_1, E252_2, F252_2_0, F252_2_1, F252_2_2, F252_2_3, E252_3, F252_3_0, F252_3_1, F252_3_2, F252_3_3, V252_4⟩ := q252
  refine C252.aLk (Y84 76 rfl) rfl rfl ?_
  have KK253 := (kT (kT (kR h163 [q0_132]) KK223 all0) K252 (allS m0 all0))
  have f254 := (f167.keep KK253)
  have ne255 : p12 ≠ q0_132 := (nL (lL (lL e_12.lt KK245.1) ge_q0_132))
  have f256 := (f168.keep KK253 (ninS ne255 nin0))
  have f257 := (f169.keep KK253 (ninS ne255 nin0))
  have f258 := (f170.keep KK253)
  have ne259 : p13 ≠ q0_132 := (nL (lL (lL e_13.lt KK245.1) ge_q0_132))
  have f260 := (f171.keep KK253 (ninS ne259 nin0))
  have f261 := (f172.keep KK253 (ninS ne259 nin0))
  have ne263 : p14 ≠ q0_132 := (nL (lL (lL e_14.lt KK245.1) ge_q0_132))
  have f266 := (f176.keep KK253)
  have ne267 : p15 ≠ q0_132 := (nL (lL (lL e_15.lt KK245.1) ge_q0_132))
  have ne271 : p17 ≠ q0_132 := (nL (lL (lL w_17.lt KK245.1) ge_q0_132))
  have f273 := (f241.keep K252 (ninS ne263 nin0) (ninS (Ne.symm ne250) nin0))
  have f274 := (f182.keep KK253 (ninS ne267 nin0) (ninS ne271 nin0))
  refine C252.virtual (W := 0) (wd hw 653 rfl) (wd hw 654 rfl) (fun _ q => notFace_of_selects (args := #[]) (mvT q (wd hw 656 rfl))) (wd hw 656 rfl) (wd hw 655 rfl) (wd hw 657 rfl) (wd hw 94 rfl) (by decide) (rm_au62_columns l Z a0 EL G p12 p13 h252 C252.old f256) (fun _ => rfl) rfl f254 all0 (by decide) (by decide) (by decide) (by decide) (lenOf pd_7 rfl) rfl (nb rfl) rfl (Y84 77 rfl) (pc' := 223) rfl ?_
  intro vm275 T275 h275 v275 C275 A275 M275 q275
  obtain ⟨rfl, rfl⟩ := q275
  refine C275.iface (W := 0) (wd hw 517 rfl) (wd hw 293 rfl) (wd hw 294 rfl) (wd hw 295 rfl) (wd hw 296 rfl) (wd hw 297 rfl) (wd hw 298 rfl) (W290 hw) (wd hw 299 rfl) (wd hw 264 rfl) (by decide) (rm_au27_iterator l Z a0 EL G p13 h252 C275.old f258 f261) (fun _ => rfl) rfl f258 all0 (by decide) (by decide) (by decide) (by decide) (lenOf pd_6 rfl) rfl (nb rfl) rfl (Y84 78 rfl) (pc' := 228) rfl ?_
  intro vm276 T276 h276 v276 C276 A276 M276 q276
  obtain ⟨q0_276, rfl, K276, ge_q0_276, zg_q0_276, E276_0, F276_0_0, F276_0_1, F276_0_2, F276_0_3⟩ := q276
  refine C276.aSk (Y84 79 rfl) rfl (l' := #[.val (.ref p0), .val (.ref p1), .val (.ref p2), .val (.ref p3), .val (.ref p4), .val (.ref q0_105), .val (.ref (sEL Z)), .val (.ref a113), .val (.ref a133), .val (.ref q0_158), .val (.ref p12), .val (.ref q0_276), .unset]) rfl (C276.aLk (Y84 80 rfl) rfl rfl ?_)
  have f277 := (f260.keep K276 nin0)
  refine C276.iface (W := 0) (wd hw 518 rfl) (W323 hw) (W324 hw) (W325 hw) (W326 hw) (W327 hw) (W328 hw) (W329 hw) (W330 hw) (W302 hw) (by decide) (rm_au30_hasNext l Z a0 EL G q0_276 h276 C276.old F276_0_0 F276_0_3) (fun _ => rfl) rfl E276_0 all0 (by decide) (by decide) (by decide) (by decide) (lenOf pd_28295a rfl) rfl (nb rfl) rfl (Y84 81 rfl) (pc' := 237) rfl ?_
  intro vm281 T281 h281 v281 C281 A281 M281 q281
  obtain ⟨rfl, rfl⟩ := q281
  refine C281.fN (Y84 82 rfl) (XT.i0_eq_f (by decide)) (C281.aLk (Y84 83 rfl) rfl rfl ?_)
  have f282 := (f258.keep K276)
  have f284 := (A281.safe E276_0.lt (own_safe_new (M276 rfl) ge_q0_276))
  refine C281.ifaceH (W := 0) (ws := [q0_276]) (wd hw 519 rfl) (wd hw 332 rfl) (wd hw 333 rfl) (wd hw 334 rfl) (wd hw 335 rfl) (wd hw 336 rfl) (wd hw 337 rfl) (W329 hw) (wd hw 338 rfl) (W302 hw) (by decide) (rm_au31_next l Z a0 EL G q0_276 p13 p15 h276 C281.old E276_0 F276_0_0 F276_0_1 F276_0_2 F276_0_3 zg_q0_276 f282 f277) (fun v h' q => q.2.1) (allS zg_q0_276 all0) (sfS f284 sf0) rfl E276_0 all0 (by decide) (by decide) (by decide) (by decide) (lenOf pd_4 rfl) rfl (nb rfl) rfl (Y84 84 rfl) (pc' := 247) rfl ?_
  intro T283 h283 v283 C283 A283 q283
  obtain ⟨rfl, K283, E283_0, F283_0_0, F283_0_1, F283_0_2, F283_0_3⟩ := q283
  have KK286 := (kT (kT (kR h252 []) K276 all0) K283 (allS (Or.inr ge_q0_276) all0))
  have f287 := (f266.keep KK286)
  refine C283.castY (wd hw 658 rfl) (Ins.self f287) (Y84 85 rfl) (pc' := 250) rfl ?_
  intro T285 C285
  refine C285.aSk (Y84 86 rfl) rfl (l' := #[.val (.ref p0), .val (.ref p1), .val (.ref p2), .val (.ref p3), .val (.ref p4), .val (.ref q0_105), .val (.ref (sEL Z)), .val (.ref a113), .val (.ref a133), .val (.ref q0_158), .val (.ref p12), .val (.ref q0_276), .val (.ref p15)]) rfl (C285.aLk (Y84 87 rfl) rfl rfl (C285.aLk (Y84 88 rfl) rfl rfl (C285.aL (Y84 89 rfl) rfl rfl (C285.aLk (Y84 90 rfl) rfl rfl ?_))))
  have f292 := (f254.keep KK286)
  have f294 := (f257.keep KK286 nin0)
  have KK308 := (kT (kT (kT (kT (kT (kR h208 [a184, t188, q0_132]) K216 (allS m0 (allS m1 all0))) K218 all0) K252 (allS (Or.inl (.tail _ (.tail _ (.head _)))) all0)) K276 all0) K283 (allS (Or.inr (lT (lT K216.1 (lT K218.1 K252.1)) ge_q0_276)) all0))
  have ne309 : p1 ≠ q0_132 := (nL (lL (lL e_1.lt KK245.1) ge_q0_132))
  have ne310 : p1 ≠ t188 := (nL (lL (lL e_1.lt (lT KK245.1 (lT K132.1 (lT K133.1 (lT K134.1 (lT K153.1 (lT K158.1 (lT K163.1 K184.1)))))))) ge188))
  have ne311 : p1 ≠ a184 := (nL (lL (lL e_1.lt (lT KK245.1 (lT K132.1 (lT K133.1 (lT K134.1 (lT K153.1 (lT K158.1 K163.1))))))) ge184))
  have ne312 : p7 ≠ q0_132 := (nL (lL (lL w_7.lt KK245.1) ge_q0_132))
  have ne313 : p7 ≠ t188 := (nL (lL (lL w_7.lt (lT KK245.1 (lT K132.1 (lT K133.1 (lT K134.1 (lT K153.1 (lT K158.1 (lT K163.1 K184.1)))))))) ge188))
  have ne314 : p7 ≠ a184 := (nL (lL (lL w_7.lt (lT KK245.1 (lT K132.1 (lT K133.1 (lT K134.1 (lT K153.1 (lT K158.1 K163.1))))))) ge184))
  have f315 := (f215.keep KK308 (ninS ne311 (ninS ne310 (ninS ne309 nin0))) (ninS ne314 (ninS ne313 (ninS ne312 nin0))))
  have f316 := (f273.keep KK286 nin0 nin0)
  have f317 := (f274.keep KK286 nin0 nin0)
  refine C285.static (W := 2) (wd hw 659 rfl) (wd hw 660 rfl) (wd hw 661 rfl) (wd hw 464 rfl) (by decide) (rm_au63_owner l Z a0 EL G p1 p12 p7 p14 p16 kp7 kp16 h283 C285.old f292 f294 f315 f316) (fun z => nomatch z) rfl all0 (by decide) (by decide) (by decide) (by decide) (lenOf pd_46 rfl) rfl (nb rfl) rfl (Y84 91 rfl) (pc' := 262) rfl ?_
  intro vm320 T320 h320 v320 C320 A320 M320 q320
  obtain ⟨q0_320, rfl, K320, ge_q0_320, zg_q0_320, E320_0⟩ := q320
  have KK321 := (kT (kT (kT (kT (kT (kT (kT (kT (kT (kT (kT (kT (kR h153 [q0_132]) K158 all0) K163 (allS (Or.inr ge_q0_158) all0)) K184 all0) K188 (allS (Or.inr (lT (lT K158.1 K163.1) ge184)) all0)) K189 all0) K208 (allS (Or.inr (lT (lT K158.1 K163.1) ge184)) (allS (Or.inr (lT (lT K158.1 (lT K163.1 K184.1)) ge188)) all0))) K216 (allS (Or.inr (lT (lT K158.1 K163.1) ge184)) (allS (Or.inr (lT (lT K158.1 (lT K163.1 K184.1)) ge188)) all0))) K218 all0) K252 (allS m0 all0)) K276 all0) K283 (allS (Or.inr (lT (lT K158.1 (lT K163.1 (lT K184.1 (lT K188.1 (lT K189.1 (lT K208.1 (lT K216.1 (lT K218.1 K252.1)))))))) ge_q0_276)) all0)) K320 all0)
  have f322 := (E153_0.keep KK321)
  have ne323 : a133 ≠ q0_132 := (Ne.symm (nL (lL E132_1.lt ge133)))
  have f325 := (F153_0_1.keep KK321 (ninS ne323 nin0))
  have ne333 : q0_153 ≠ q0_132 := (Ne.symm (nL (lL (lL E132_1.lt (lT K133.1 K134.1)) ge_q0_153)))
  have f334 := (F153_1_0.keep KK321 (ninS ne333 nin0))
  have f335 := (F153_1_1.keep KK321 (ninS ne333 nin0))
  have f336 := (F153_1_2.keep KK321 (ninS ne333 nin0))
  have f337 := (F153_1_3.keep KK321 (ninS ne333 nin0))
  have f338 := (F153_1_4.keep KK321 (ninS ne333 nin0))
  have f341 := (E153_1.keep KK321)
  have f346 := (f317.keep K320 nin0 nin0)
  have KK350 := (kT (kT (kT KK245 K132 (allS (Or.inr (lT KK106.1 ge113)) all0)) K133 all0) K134 all0)
  refine C320.virtual (W := 0) (wd hw 528 rfl) (wd hw 529 rfl) (fun _ q => notFace_of_selects (args := #[]) (mvT q (wd hw 531 rfl))) (wd hw 531 rfl) (wd hw 530 rfl) (wd hw 532 rfl) (W108 hw) (by decide) (rm_au64_claim l Z a0 EL G a133 p15 q0_320 q0_153 p17 kp17 h320 C320.old f325 f341 f334 f335 f336 f337 f338 zg_q0_153 f346) (fun _ => rfl) rfl f322 all0 (by decide) (by decide) (by decide) (by decide) (lenOf pd_47 rfl) rfl (nb rfl) rfl (Y84 92 rfl) (pc' := 265) rfl ?_
  intro vm358 T358 h358 v358 C358 A358 M358 q358
  obtain ⟨q0_358, q1_358, q2_358, q3_358, kq0_358, kq3_358, rfl, K358, ge_q0_358, zg_q0_358, ge_q1_358, zg_q1_358, ge_q2_358, zg_q2_358, ge_q3_358, zg_q3_358, E358_0, F358_0_0, F358_0_1, F358_0_2, F358_0_3, F358_0_4, E358_1, V358_1, O358_1, E358_2, F358_2_0, F358_2_1, F358_2_2, F358_2_3, E358_3, F358_3_0, F358_3_1, F358_3_2, F358_3_3, V358_4⟩ := q358
  refine C358.go (pc' := 230) (Y84 93 rfl) (by decide) rfl (C358.aLk (Y84 80 rfl) rfl rfl ?_)
  have KK359 := (kT (kT (kR h283 [q0_153]) K320 all0) K358 (allS m0 all0))
  have f360 := (E283_0.keep KK359)
  have ne361 : q0_276 ≠ q0_153 := (Ne.symm (nL (lL (lL E153_1.lt (lT K158.1 (lT K163.1 (lT K184.1 (lT K188.1 (lT K189.1 (lT K208.1 (lT K216.1 (lT K218.1 K252.1))))))))) ge_q0_276)))
  have f362 := (F283_0_0.keep KK359 (ninS ne361 nin0))
  have f365 := (F283_0_3.keep KK359 (ninS ne361 nin0))
  refine C358.iface (W := 0) (wd hw 518 rfl) (W323 hw) (W324 hw) (W325 hw) (W326 hw) (W327 hw) (W328 hw) (W329 hw) (W330 hw) (W302 hw) (by decide) (rm_au33_hasNext l Z a0 EL G q0_276 h358 C358.old f362 f365) (fun _ => rfl) rfl f360 all0 (by decide) (by decide) (by decide) (by decide) (lenOf pd_28295a rfl) rfl (nb rfl) rfl (Y84 81 rfl) (pc' := 237) rfl ?_
  intro vm372 T372 h372 v372 C372 A372 M372 q372
  obtain ⟨rfl, rfl⟩ := q372
  refine C372.fY (pc' := 268) (Y84 82 rfl) (XT.i0_eq_t (by decide)) (by decide) rfl (C372.go (pc' := 167) (Y84 94 rfl) (by decide) rfl (C372.aLk (Y84 57 rfl) rfl rfl ?_))
  have KK373 := (kT (kT (kT (kT (kT (kR h163 [q0_132, q0_153]) KK253 (allS m0 all0)) K276 all0) K283 (allS (Or.inr (lT KK253.1 ge_q0_276)) all0)) K320 all0) K358 (allS m1 all0))
  have f374 := (E163_0.keep KK373)
  have ne375 : q0_158 ≠ q0_153 := (Ne.symm (nL (lL E153_1.lt ge_q0_158)))
  have ne376 : q0_158 ≠ q0_132 := (Ne.symm (nL (lL (lL E132_1.lt (lT K133.1 (lT K134.1 K153.1))) ge_q0_158)))
  have f377 := (F163_0_0.keep KK373 (ninS ne376 (ninS ne375 nin0)))
  have f380 := (F163_0_3.keep KK373 (ninS ne376 (ninS ne375 nin0)))
  have KK381 := (kT (kT (kT (kT (kT (kT (kT (kT (kT (kT (kT (kT (kR h158 [q0_158, q0_132, q0_153]) K163 (allS m0 all0)) K184 all0) K188 (allS (Or.inr (lT K163.1 ge184)) all0)) K189 all0) K208 (allS (Or.inr (lT K163.1 ge184)) (allS (Or.inr (lT (lT K163.1 K184.1) ge188)) all0))) K216 (allS (Or.inr (lT K163.1 ge184)) (allS (Or.inr (lT (lT K163.1 K184.1) ge188)) all0))) K218 all0) K252 (allS m1 all0)) K276 all0) K283 (allS (Or.inr (lT (lT K163.1 (lT K184.1 (lT K188.1 (lT K189.1 (lT K208.1 (lT K216.1 (lT K218.1 K252.1))))))) ge_q0_276)) all0)) K320 all0) K358 (allS (Or.inl (.tail _ (.tail _ (.head _)))) all0))
  have ne382 : q0_105 ≠ q0_153 := (nL (lL (lL E105_0.lt (lT K113.1 (lT K114.1 (lT K132.1 (lT K133.1 K134.1))))) ge_q0_153))
  have ne383 : q0_105 ≠ q0_132 := (nL (lL (lL E105_0.lt (lT K113.1 K114.1)) ge_q0_132))
  have ne384 : q0_105 ≠ q0_158 := (nL (lL (lL E105_0.lt (lT K113.1 (lT K114.1 (lT K132.1 (lT K133.1 (lT K134.1 K153.1)))))) ge_q0_158))
  have f385 := (f159.keep KK381 (ninS ne384 (ninS ne383 (ninS ne382 nin0))))
  have f386 := (f160.keep KK381 (ninS ne384 (ninS ne383 (ninS ne382 nin0))))
  refine C372.iface (W := 0) (wd hw 518 rfl) (W323 hw) (W324 hw) (W325 hw) (W326 hw) (W327 hw) (W328 hw) (W329 hw) (W330 hw) (W302 hw) (by decide) (rm_au33_hasNext l Z a0 EL G q0_158 h358 C372.old f377 f380) (fun _ => rfl) rfl f374 all0 (by decide) (by decide) (by decide) (by decide) (lenOf pd_28295a rfl) rfl (nb rfl) rfl (Y84 58 rfl) (pc' := 174) rfl ?_
  intro vm387 T387 h387 v387 C387 A387 M387 q387
  obtain ⟨rfl, rfl⟩ := q387
  refine C387.fY (pc' := 271) (Y84 59 rfl) (XT.i0_eq_t (by decide)) (by decide) rfl (C387.aLk (Y84 95 rfl) rfl rfl ?_)
  have f388 := (G.t6.ext C387.old)
  refine C387.iface (W := 0) (wd hw 517 rfl) (wd hw 293 rfl) (wd hw 294 rfl) (wd hw 664 rfl) (wd hw 296 rfl) (wd hw 297 rfl) (wd hw 665 rfl) (wd hw 666 rfl) (wd hw 299 rfl) (wd hw 264 rfl) (by decide) (rm_au69_iterator l Z a0 EL G  h358 C387.old ) (fun _ => rfl) rfl f388 all0 (by decide) (by decide) (by decide) (by decide) (lenOf pd_6 rfl) rfl (nb rfl) rfl (Y84 96 rfl) (pc' := 278) rfl ?_
  intro vm393 T393 h393 v393 C393 A393 M393 q393
  obtain ⟨q0_393, rfl, K393, ge_q0_393, zg_q0_393, E393_0, F393_0_0, F393_0_1, F393_0_2, F393_0_3⟩ := q393
  refine C393.aSk (Y84 97 rfl) rfl (l' := #[.val (.ref p0), .val (.ref p1), .val (.ref p2), .val (.ref p3), .val (.ref p4), .val (.ref q0_105), .val (.ref (sEL Z)), .val (.ref a113), .val (.ref a133), .val (.ref q0_393), .val (.ref p12), .val (.ref q0_276), .val (.ref p15)]) rfl (C393.aLk (Y84 98 rfl) rfl rfl ?_)
  refine C393.iface (W := 0) (wd hw 518 rfl) (W323 hw) (W324 hw) (W325 hw) (W326 hw) (W327 hw) (W328 hw) (W329 hw) (W330 hw) (W302 hw) (by decide) (rm_au72_hasNext l Z a0 EL G q0_393 h393 C393.old F393_0_0 F393_0_3) (fun _ => rfl) rfl E393_0 all0 (by decide) (by decide) (by decide) (by decide) (lenOf pd_28295a rfl) rfl (nb rfl) rfl (Y84 99 rfl) (pc' := 287) rfl ?_
  intro vm394 T394 h394 v394 C394 A394 M394 q394
  obtain ⟨rfl, rfl⟩ := q394
  refine C394.fY (pc' := 355) (Y84 100 rfl) (XT.i0_eq_t (by decide)) (by decide) rfl (C394.aL (Y84 101 rfl) rfl rfl (C394.aLk (Y84 102 rfl) rfl rfl (C394.ic (z := 0) (Y84 103 rfl) rfl ?_)))
  have KK395 := (kT KK381 K393 all0)
  have f396 := (f162.keep KK395)
  have f397 := (f385.keep K393 nin0)
  have f398 := (f386.keep K393 nin0)
  refine C394.iface (W := 1) (wd hw 673 rfl) (wd hw 340 rfl) (wd hw 341 rfl) (wd hw 342 rfl) (wd hw 343 rfl) (wd hw 344 rfl) (wd hw 345 rfl) (W290 hw) (wd hw 346 rfl) (W255 hw) (by decide) (rm_au32_get l Z a0 EL G q0_105 p12 h393 C394.old f397) (fun _ => rfl) rfl f396 all0 (by decide) (by decide) (by decide) (by decide) (lenOf pd_19 rfl) rfl (nb rfl) rfl (Y84 104 rfl) (pc' := 364) rfl ?_
  intro vm399 T399 h399 v399 C399 A399 M399 q399
  obtain ⟨rfl, rfl⟩ := q399
  have KK401 := (kT KK359 K393 all0)
  have f402 := (f292.keep KK401)
  refine C399.castY (wd hw 520 rfl) (Ins.self f402) (Y84 105 rfl) (pc' := 367) rfl ?_
  intro T400 C400
  have ne403 : p1 ≠ q0_153 := (nL (lL (lL e_1.lt KK350.1) ge_q0_153))
  have ne406 : p12 ≠ q0_153 := (nL (lL (lL e_12.lt KK350.1) ge_q0_153))
  have f408 := (f294.keep KK401 (ninS ne406 nin0))
  have ne411 : p14 ≠ q0_153 := (nL (lL (lL e_14.lt KK350.1) ge_q0_153))
  have ne416 : p7 ≠ q0_153 := (nL (lL (lL w_7.lt KK350.1) ge_q0_153))
  have f417 := (f315.keep KK401 (ninS ne403 nin0) (ninS ne416 nin0))
  have ne418 : p16 ≠ q0_153 := (nL (lL (lL w_16.lt KK350.1) ge_q0_153))
  have f419 := (f316.keep KK401 (ninS ne411 nin0) (ninS ne418 nin0))
  refine C400.static (W := 0) (wd hw 659 rfl) (wd hw 660 rfl) (wd hw 661 rfl) (wd hw 464 rfl) (by decide) (rm_au63_owner l Z a0 EL G p1 p12 p7 p14 p16 kp7 kp16 h393 C400.old f402 f408 f417 f419) (fun z => nomatch z) rfl all0 (by decide) (by decide) (by decide) (by decide) (lenOf pd_46 rfl) rfl (nb rfl) rfl (Y84 106 rfl) (pc' := 370) rfl ?_
  intro vm420 T420 h420 v420 C420 A420 M420 q420
  obtain ⟨q0_420, rfl, K420, ge_q0_420, zg_q0_420, E420_0⟩ := q420
  refine C420.aSk (Y84 107 rfl) rfl (l' := #[.val (.ref p0), .val (.ref p1), .val (.ref p2), .val (.ref p3), .val (.ref p4), .val (.ref q0_105), .val (.ref (sEL Z)), .val (.ref a113), .val (.ref a133), .val (.ref q0_420), .val (.ref p12), .val (.ref q0_276), .val (.ref p15)]) rfl (C420.aLk (Y84 108 rfl) rfl rfl (C420.aL (Y84 109 rfl) rfl rfl ?_))
  have KK421 := (kT (kT (kT (kR h320 [q0_153]) K358 (allS m0 all0)) K393 all0) K420 all0)
  have f422 := (f322.keep KK421)
  have ne423 : a133 ≠ q0_153 := (nL (lL (lL E133.lt K134.1) ge_q0_153))
  have f425 := (f325.keep KK421 (ninS ne423 nin0))
  have KK426 := (kT (kT (kT (kT (kT (kT (kT (kT (kT (kT (kT (kT (kT (kT (kT (kT KK350 K153 (allS (Or.inr (lT (lT KK245.1 K132.1) ge133)) all0)) K158 all0) K163 (allS (Or.inr (lT (lT KK350.1 K153.1) ge_q0_158)) all0)) K184 all0) K188 (allS (Or.inr (lT (lT KK350.1 (lT K153.1 (lT K158.1 K163.1))) ge184)) all0)) K189 all0) K208 (allS (Or.inr (lT (lT KK350.1 (lT K153.1 (lT K158.1 K163.1))) ge184)) (allS (Or.inr (lT (lT KK350.1 (lT K153.1 (lT K158.1 (lT K163.1 K184.1)))) ge188)) all0))) K216 (allS (Or.inr (lT (lT KK350.1 (lT K153.1 (lT K158.1 K163.1))) ge184)) (allS (Or.inr (lT (lT KK350.1 (lT K153.1 (lT K158.1 (lT K163.1 K184.1)))) ge188)) all0))) K218 all0) K252 (allS (Or.inr (lT KK245.1 ge_q0_132)) all0)) K276 all0) K283 (allS (Or.inr (lT (lT KK350.1 (lT K153.1 (lT K158.1 (lT K163.1 (lT K184.1 (lT K188.1 (lT K189.1 (lT K208.1 (lT K216.1 (lT K218.1 K252.1)))))))))) ge_q0_276)) all0)) K320 all0) K358 (allS (Or.inr (lT KK350.1 ge_q0_153)) all0)) K393 all0) K420 all0)
  have KK434 := (kT (kT (kR h358 []) K393 all0) K420 all0)
  have f435 := (E358_0.keep KK434)
  have f439 := (F358_0_3.keep KK434 nin0)
  have f443 := (E358_1.keep KK434)
  have f444 := (V358_1.keep KK434 nin0)
  have KK457 := (kT (kT (kT (kT (kT (kT (kT (kT (kT (kT (kT (kT (kT (kT (kT (kT (kT (kT (kT (kT (kT (kT (kT (kT (kT (kT (kT (kT (kR h50 []) K54 all0) K58 (allS (Or.inr ge54) all0)) K59 all0) K69 (allS (Or.inr ge54) all0)) K77 (allS (Or.inr ge54) (allS (Or.inr (lT (lT K54.1 (lT K58.1 K59.1)) ge69)) all0))) K78 all0) K105 all0) K113 all0) K114 all0) K132 (allS (Or.inr (lT (lT K54.1 (lT K58.1 (lT K59.1 (lT K69.1 (lT K77.1 (lT K78.1 K105.1)))))) ge113)) all0)) K133 all0) K134 all0) K153 (allS (Or.inr (lT (lT K54.1 (lT K58.1 (lT K59.1 (lT K69.1 (lT K77.1 (lT K78.1 (lT K105.1 (lT K113.1 (lT K114.1 K132.1))))))))) ge133)) all0)) K158 all0) K163 (allS (Or.inr (lT (lT K54.1 (lT K58.1 (lT K59.1 (lT K69.1 (lT K77.1 (lT K78.1 (lT K105.1 (lT K113.1 (lT K114.1 (lT K132.1 (lT K133.1 (lT K134.1 K153.1)))))))))))) ge_q0_158)) all0)) K184 all0) K188 (allS (Or.inr (lT (lT K54.1 (lT K58.1 (lT K59.1 (lT K69.1 (lT K77.1 (lT K78.1 (lT K105.1 (lT K113.1 (lT K114.1 (lT K132.1 (lT K133.1 (lT K134.1 (lT K153.1 (lT K158.1 K163.1)))))))))))))) ge184)) all0)) K189 all0) K208 (allS (Or.inr (lT (lT K54.1 (lT K58.1 (lT K59.1 (lT K69.1 (lT K77.1 (lT K78.1 (lT K105.1 (lT K113.1 (lT K114.1 (lT K132.1 (lT K133.1 (lT K134.1 (lT K153.1 (lT K158.1 K163.1)))))))))))))) ge184)) (allS (Or.inr (lT (lT K54.1 (lT K58.1 (lT K59.1 (lT K69.1 (lT K77.1 (lT K78.1 (lT K105.1 (lT K113.1 (lT K114.1 (lT K132.1 (lT K133.1 (lT K134.1 (lT K153.1 (lT K158.1 (lT K163.1 K184.1))))))))))))))) ge188)) all0))) K216 (allS (Or.inr (lT (lT K54.1 (lT K58.1 (lT K59.1 (lT K69.1 (lT K77.1 (lT K78.1 (lT K105.1 (lT K113.1 (lT K114.1 (lT K132.1 (lT K133.1 (lT K134.1 (lT K153.1 (lT K158.1 K163.1)))))))))))))) ge184)) (allS (Or.inr (lT (lT K54.1 (lT K58.1 (lT K59.1 (lT K69.1 (lT K77.1 (lT K78.1 (lT K105.1 (lT K113.1 (lT K114.1 (lT K132.1 (lT K133.1 (lT K134.1 (lT K153.1 (lT K158.1 (lT K163.1 K184.1))))))))))))))) ge188)) all0))) K218 all0) K252 (allS (Or.inr (lT (lT K54.1 (lT K58.1 (lT K59.1 (lT K69.1 (lT K77.1 (lT K78.1 (lT K105.1 (lT K113.1 K114.1)))))))) ge_q0_132)) all0)) K276 all0) K283 (allS (Or.inr (lT (lT K54.1 (lT K58.1 (lT K59.1 (lT K69.1 (lT K77.1 (lT K78.1 (lT K105.1 (lT K113.1 (lT K114.1 (lT K132.1 (lT K133.1 (lT K134.1 (lT K153.1 (lT K158.1 (lT K163.1 (lT K184.1 (lT K188.1 (lT K189.1 (lT K208.1 (lT K216.1 (lT K218.1 K252.1))))))))))))))))))))) ge_q0_276)) all0)) K320 all0) K358 (allS (Or.inr (lT (lT K54.1 (lT K58.1 (lT K59.1 (lT K69.1 (lT K77.1 (lT K78.1 (lT K105.1 (lT K113.1 (lT K114.1 (lT K132.1 (lT K133.1 K134.1))))))))))) ge_q0_153)) all0)) K393 all0) K420 all0)
  have f458 := (f52.keep KK457 nin0 nin0)
  refine C420.virtual (W := 0) (wd hw 674 rfl) (wd hw 675 rfl) (fun _ q => notFace_of_selects (args := #[]) (mvT q (wd hw 677 rfl))) (wd hw 677 rfl) (wd hw 676 rfl) (wd hw 678 rfl) (W108 hw) (by decide) (rm_au73_ownerOf l Z a0 EL G a133 p3 q0_153 p9 q0_358 q1_358 kp9 kq0_358 h420 C420.old f425 f435 f439 f443 f444 f458) (fun _ => rfl) rfl f422 all0 (by decide) (by decide) (by decide) (by decide) (lenOf pd_43 rfl) rfl (nb rfl) rfl (Y84 110 rfl) (pc' := 378) rfl ?_
  intro vm483 T483 h483 v483 C483 A483 M483 q483
  obtain ⟨rfl, K483⟩ := q483
  refine C483.aSk (Y84 111 rfl) rfl (l' := #[.val (.ref p0), .val (.ref p1), .val (.ref p2), .val (.ref p3), .val (.ref p4), .val (.ref q0_105), .val (.ref (sEL Z)), .val (.ref a113), .val (.ref a133), .val (.ref q0_420), .val .null, .val (.ref q0_276), .val (.ref p15)]) rfl (C483.aLk (Y84 112 rfl) rfl rfl ?_)
  refine Endw.st (T' := T483) (g' := (mkF m 451 #[.val (.ref p0), .val (.ref p1), .val (.ref p2), .val (.ref p3), .val (.ref p4), .val (.ref q0_105), .val (.ref (sEL Z)), .val (.ref a113), .val (.ref a133), .val (.ref q0_420), .val .null, .val (.ref q0_276), .val (.ref p15)] [])) (fun _ k_ => XS.ifnullYes C483.here C483.hx rfl (pc0 := 382) rfl (C483.dec (Y84 113 rfl)) rfl (by decide) rfl k_) ?_
  refine C483.aL (Y84 114 rfl) rfl rfl (C483.aL (Y84 115 rfl) rfl rfl ?_)
  have KK484 := (kT KK426 K483 all0)
  have f485 := (e_0.keep KK484)
  have f486 := (f_0_4.keep KK484 nin0)
  have f488 := (f_0_0.keep KK484 nin0)
  have f489 := (f_0_1.keep KK484 nin0)
  have f490 := (f_0_2.keep KK484 nin0)
  have f491 := (f_0_3.keep KK484 nin0)
  have f492 := (f_0_5.keep KK484 nin0)
  refine C483.putF (v := (.ref p1)) (wd hw 692 rfl) f486 f485 (Or.inr ⟨(W693 hw), rfl, rfl⟩) (W463 hw) (ty := (.object "java/lang/String")) (by decide) rfl rfl z_0 (Safe.exa C483.warm.alike f485 (by decide) (by decide)) (Y84 116 rfl) (pc' := 456) rfl ?_
  intro T487 h487 C487 K487 A487 Wr487
  have f493 := f486.same Wr487
  have f494 := f488.other Wr487 (Or.inr (slot_ne (Or.inr (W703 hw)) (Or.inr (W693 hw)) (by decide) (t := (.object "java/util/List")) (t' := (.object "java/lang/String")) (by decide) (by decide)))
  have f495 := f489.other Wr487 (Or.inr (slot_ne (Or.inr (W699 hw)) (Or.inr (W693 hw)) (by decide) (t := (.object "java/lang/String")) (t' := (.object "java/lang/String")) (by decide) (by decide)))
  have f496 := f490.other Wr487 (Or.inr (slot_ne (Or.inr (W697 hw)) (Or.inr (W693 hw)) (by decide) (t := (.object "java/lang/String")) (t' := (.object "java/lang/String")) (by decide) (by decide)))
  have f497 := f491.other Wr487 (Or.inr (slot_ne (Or.inr (W701 hw)) (Or.inr (W693 hw)) (by decide) (t := (.object "java/util/List")) (t' := (.object "java/lang/String")) (by decide) (by decide)))
  have f498 := f492.other Wr487 (Or.inr (slot_ne (Or.inr (W695 hw)) (Or.inr (W693 hw)) (by decide) (t := (.object "java/lang/String")) (t' := (.object "java/lang/String")) (by decide) (by decide)))
  refine C487.aL (Y84 117 rfl) rfl rfl (C487.aL (Y84 118 rfl) rfl rfl ?_)
  have f499 := (f485.keep K487)
  refine C487.putF (v := (.ref p2)) (wd hw 694 rfl) f498 f499 (Or.inr ⟨(W695 hw), rfl, rfl⟩) (W463 hw) (ty := (.object "java/lang/String")) (by decide) rfl rfl z_0 (Safe.exa C487.warm.alike f499 (by decide) (by decide)) (Y84 119 rfl) (pc' := 461) rfl ?_
  intro T500 h500 C500 K500 A500 Wr500
  have f501 := f498.same Wr500
  have f502 := f494.other Wr500 (Or.inr (slot_ne (Or.inr (W703 hw)) (Or.inr (W695 hw)) (by decide) (t := (.object "java/util/List")) (t' := (.object "java/lang/String")) (by decide) (by decide)))
  have f503 := f495.other Wr500 (Or.inr (slot_ne (Or.inr (W699 hw)) (Or.inr (W695 hw)) (by decide) (t := (.object "java/lang/String")) (t' := (.object "java/lang/String")) (by decide) (by decide)))
  have f504 := f496.other Wr500 (Or.inr (slot_ne (Or.inr (W697 hw)) (Or.inr (W695 hw)) (by decide) (t := (.object "java/lang/String")) (t' := (.object "java/lang/String")) (by decide) (by decide)))
  have f505 := f497.other Wr500 (Or.inr (slot_ne (Or.inr (W701 hw)) (Or.inr (W695 hw)) (by decide) (t := (.object "java/util/List")) (t' := (.object "java/lang/String")) (by decide) (by decide)))
  have f506 := f493.other Wr500 (Or.inr (slot_ne (Or.inr (W693 hw)) (Or.inr (W695 hw)) (by decide) (t := (.object "java/lang/String")) (t' := (.object "java/lang/String")) (by decide) (by decide)))
  refine C500.aL (Y84 120 rfl) rfl rfl (C500.aL (Y84 121 rfl) rfl rfl ?_)
  have f507 := (f499.keep K500)
  refine C500.putF (v := (.ref p3)) (wd hw 696 rfl) f504 f507 (Or.inr ⟨(W697 hw), rfl, rfl⟩) (W463 hw) (ty := (.object "java/lang/String")) (by decide) rfl rfl z_0 (Safe.exa C500.warm.alike f507 (by decide) (by decide)) (Y84 122 rfl) (pc' := 466) rfl ?_
  intro T508 h508 C508 K508 A508 Wr508
  have f509 := f504.same Wr508
  have f510 := f502.other Wr508 (Or.inr (slot_ne (Or.inr (W703 hw)) (Or.inr (W697 hw)) (by decide) (t := (.object "java/util/List")) (t' := (.object "java/lang/String")) (by decide) (by decide)))
  have f511 := f503.other Wr508 (Or.inr (slot_ne (Or.inr (W699 hw)) (Or.inr (W697 hw)) (by decide) (t := (.object "java/lang/String")) (t' := (.object "java/lang/String")) (by decide) (by decide)))
  have f512 := f505.other Wr508 (Or.inr (slot_ne (Or.inr (W701 hw)) (Or.inr (W697 hw)) (by decide) (t := (.object "java/util/List")) (t' := (.object "java/lang/String")) (by decide) (by decide)))
  have f513 := f506.other Wr508 (Or.inr (slot_ne (Or.inr (W693 hw)) (Or.inr (W697 hw)) (by decide) (t := (.object "java/lang/String")) (t' := (.object "java/lang/String")) (by decide) (by decide)))
  have f514 := f501.other Wr508 (Or.inr (slot_ne (Or.inr (W695 hw)) (Or.inr (W697 hw)) (by decide) (t := (.object "java/lang/String")) (t' := (.object "java/lang/String")) (by decide) (by decide)))
  refine C508.aL (Y84 123 rfl) rfl rfl (C508.aLk (Y84 124 rfl) rfl rfl ?_)
  have f515 := (f507.keep K508)
  refine C508.putF (v := (.ref p4)) (wd hw 698 rfl) f511 f515 (Or.inr ⟨(W699 hw), rfl, rfl⟩) (W463 hw) (ty := (.object "java/lang/String")) (by decide) rfl rfl z_0 (Safe.exa C508.warm.alike f515 (by decide) (by decide)) (Y84 125 rfl) (pc' := 472) rfl ?_
  intro T516 h516 C516 K516 A516 Wr516
  have f517 := f511.same Wr516
  have f518 := f510.other Wr516 (Or.inr (slot_ne (Or.inr (W703 hw)) (Or.inr (W699 hw)) (by decide) (t := (.object "java/util/List")) (t' := (.object "java/lang/String")) (by decide) (by decide)))
  have f519 := f509.other Wr516 (Or.inr (slot_ne (Or.inr (W697 hw)) (Or.inr (W699 hw)) (by decide) (t := (.object "java/lang/String")) (t' := (.object "java/lang/String")) (by decide) (by decide)))
  have f520 := f512.other Wr516 (Or.inr (slot_ne (Or.inr (W701 hw)) (Or.inr (W699 hw)) (by decide) (t := (.object "java/util/List")) (t' := (.object "java/lang/String")) (by decide) (by decide)))
  have f521 := f513.other Wr516 (Or.inr (slot_ne (Or.inr (W693 hw)) (Or.inr (W699 hw)) (by decide) (t := (.object "java/lang/String")) (t' := (.object "java/lang/String")) (by decide) (by decide)))
  have f522 := f514.other Wr516 (Or.inr (slot_ne (Or.inr (W695 hw)) (Or.inr (W699 hw)) (by decide) (t := (.object "java/lang/String")) (t' := (.object "java/lang/String")) (by decide) (by decide)))
  refine C516.aL (Y84 126 rfl) rfl rfl (C516.aLk (Y84 127 rfl) rfl rfl ?_)
  have f523 := (f515.keep K516)
  refine C516.putF (v := (.ref q0_105)) (wd hw 700 rfl) f520 f523 (Or.inr ⟨(W701 hw), rfl, rfl⟩) (W463 hw) (ty := (.object "java/util/List")) (by decide) rfl rfl z_0 (Safe.exa C516.warm.alike f523 (by decide) (by decide)) (Y84 128 rfl) (pc' := 478) rfl ?_
  intro T524 h524 C524 K524 A524 Wr524
  have f525 := f520.same Wr524
  have f526 := f518.other Wr524 (Or.inr (slot_ne (Or.inr (W703 hw)) (Or.inr (W701 hw)) (by decide) (t := (.object "java/util/List")) (t' := (.object "java/util/List")) (by decide) (by decide)))
  have f527 := f517.other Wr524 (Or.inr (slot_ne (Or.inr (W699 hw)) (Or.inr (W701 hw)) (by decide) (t := (.object "java/lang/String")) (t' := (.object "java/util/List")) (by decide) (by decide)))
  have f528 := f519.other Wr524 (Or.inr (slot_ne (Or.inr (W697 hw)) (Or.inr (W701 hw)) (by decide) (t := (.object "java/lang/String")) (t' := (.object "java/util/List")) (by decide) (by decide)))
  have f529 := f521.other Wr524 (Or.inr (slot_ne (Or.inr (W693 hw)) (Or.inr (W701 hw)) (by decide) (t := (.object "java/lang/String")) (t' := (.object "java/util/List")) (by decide) (by decide)))
  have f530 := f522.other Wr524 (Or.inr (slot_ne (Or.inr (W695 hw)) (Or.inr (W701 hw)) (by decide) (t := (.object "java/lang/String")) (t' := (.object "java/util/List")) (by decide) (by decide)))
  refine C524.aL (Y84 129 rfl) rfl rfl (C524.aLk (Y84 130 rfl) rfl rfl ?_)
  have f531 := (f523.keep K524)
  refine C524.putF (v := (.ref (sEL Z))) (wd hw 702 rfl) f526 f531 (Or.inr ⟨(W703 hw), rfl, rfl⟩) (W463 hw) (ty := (.object "java/util/List")) (by decide) rfl rfl z_0 (Safe.exa C524.warm.alike f531 (by decide) (by decide)) (Y84 131 rfl) (pc' := 484) rfl ?_
  intro T532 h532 C532 K532 A532 Wr532
  have f533 := f526.same Wr532
  have f534 := f527.other Wr532 (Or.inr (slot_ne (Or.inr (W699 hw)) (Or.inr (W703 hw)) (by decide) (t := (.object "java/lang/String")) (t' := (.object "java/util/List")) (by decide) (by decide)))
  have f535 := f528.other Wr532 (Or.inr (slot_ne (Or.inr (W697 hw)) (Or.inr (W703 hw)) (by decide) (t := (.object "java/lang/String")) (t' := (.object "java/util/List")) (by decide) (by decide)))
  have f536 := f525.other Wr532 (Or.inr (slot_ne (Or.inr (W701 hw)) (Or.inr (W703 hw)) (by decide) (t := (.object "java/util/List")) (t' := (.object "java/util/List")) (by decide) (by decide)))
  have f537 := f529.other Wr532 (Or.inr (slot_ne (Or.inr (W693 hw)) (Or.inr (W703 hw)) (by decide) (t := (.object "java/lang/String")) (t' := (.object "java/util/List")) (by decide) (by decide)))
  have f538 := f530.other Wr532 (Or.inr (slot_ne (Or.inr (W695 hw)) (Or.inr (W703 hw)) (by decide) (t := (.object "java/lang/String")) (t' := (.object "java/util/List")) (by decide) (by decide)))
  have f539 := (f531.keep K532)
  have KK540 := (kT (kT (kT (kT (kT (kT (kT (kR h [p0]) KK484 all0) K487 (allS m0 all0)) K500 (allS m0 all0)) K508 (allS m0 all0)) K516 (allS m0 all0)) K524 (allS m0 all0)) K532 (allS m0 all0))
  have KK550 := (kT (kT (kT (kT (kT (kT (kT (kT (kR h393 [p0]) K420 all0) K483 all0) K487 (allS m0 all0)) K500 (allS m0 all0)) K508 (allS m0 all0)) K516 (allS m0 all0)) K524 (allS m0 all0)) K532 (allS m0 all0))
  have f551 := (f396.keep KK550)
  have ne552 : q0_105 ≠ p0 := (Ne.symm (nL (lL (lL e_0.lt KK79.1) ge_q0_105)))
  have f553 := (f397.keep KK550 (ninS ne552 nin0))
  have f554 := (f398.keep KK550 (ninS ne552 nin0))
  exact C532.retV (Y84 132 rfl) (by decide) (by decide) ⟨q0_105, rfl, KK540, (lT KK79.1 ge_q0_105), zg_q0_105, f539, f533, f534, f535, f536, f537, f538, f551, f553, f554⟩
theorem rm_dim (G : Glob Z a0 EL) (h : Heap) (O : Ext Z.heap h)  :
    Met l Z EL false ⟨"com/example/dique/dique/query/TableRefIsFactPinLaw", "dimension", "()Lcom/example/dique/dique/model/Dimension;"⟩ method_2_code 4 (some (.object "com/example/dique/dique/model/Dimension")) [] ⟨9, 105, 1470, 131⟩ #[] h [] (fun r h' => ∃ x : Addr, r = some (.ref x) ∧ Keep h h' []) := by
  have hw := G.hw
  refine Met.of (plainFor_of_name pn_50696e4c6177_4) G.ew O ?_
  intro p e s m below meth c T0 C0 S0
  refine Endw.eq (g' := mkF m 0 #[.unset, .unset, .unset, .unset] []) rfl ?_
  refine C0.new (wd hw 34 rfl) (W35 hw) (W36 hw) (Y50 0 rfl) (pc' := 3) rfl (by decide) (by decide) ?_
  intro T1 h1 a1 C1 K1 A1 ge1 zg1 E1 D1 S1
  refine C1.du (Y50 1 rfl) rfl ?_
  have f2 : Fld Z h1 a1 "java/util/AbstractList" "modCount" "I" (.int 0) := D1 (Or.inl (W54 hw)) (ty := .int) (by decide)
  have f3 : Fld Z h1 a1 "java/util/ArrayList" "elementData" "[Ljava/lang/Object;" .null := D1 (Or.inl (W57 hw)) (ty := (.array (.object "java/lang/Object"))) (by decide)
  have f4 : Fld Z h1 a1 "java/util/ArrayList" "size" "I" (.int 0) := D1 (Or.inl (W69 hw)) (ty := .int) (by decide)
  refine C1.special (y := ⟨"java/util/ArrayList", "<init>", "()V"⟩) (W := 1) rfl (wd hw 37 rfl) (wd hw 38 rfl) (wd hw 39 rfl) (W36 hw) (by decide) (rm_au0_init l Z a0 EL G a1 h1 C1.old E1 f2 f3 f4 zg1) (fun _ => rfl) rfl all0 (by decide) (by decide) (by decide) (by decide) (lenOf pd_282956 rfl) rfl (nb rfl) rfl (Y50 2 rfl) (pc' := 7) rfl ?_
  intro vm5 T5 h5 v5 C5 A5 M5 q5
  obtain ⟨rfl, K5, E5_0, F5_0_0, F5_0_1, F5_0_2⟩ := q5
  refine C5.aS (Y50 3 rfl) rfl (l' := #[.val (.ref a1), .unset, .unset, .unset]) rfl (C5.aL (Y50 4 rfl) rfl rfl ?_)
  refine C5.ldcC (N := 4) (vs := (bys [(99 : Int32)])) (z := (1 : Int32)) (W58 hw) G.wS (by rw [G.el]; decide) ⟨by decide, by decide⟩ (by decide) (by decide) (by decide) (by decide) (by decide) (by decide) (Y50 5 rfl) (pc' := 11) rfl rfl ?_
  intro vm6 T6 h6 a6 b6 kA6 C6 K6 A6 E6 F6 f6 V6 r6
  have f7 := (A6.safe (lL E1.lt K5.1) (A5.safe E1.lt S1))
  have Z6 : Str Z h6 a6 b6 kA6 [(99 : Int32)] := ⟨E6, F6, f6, V6, (own_cS ⟨by decide, by decide⟩ own_c0), by decide⟩
  have f8 := (E5_0.keep K6)
  have f9 := (F5_0_0.keep K6 nin0)
  have f10 := (F5_0_1.keep K6 nin0)
  have f11 := (F5_0_2.keep K6 nin0)
  refine C6.virtual (W := 0) (wd hw 61 rfl) (wd hw 62 rfl) (fun _ q => notFace_of_selects (args := #[]) (mvT q (W64 hw))) (W64 hw) (W63 hw) (wd hw 65 rfl) (W36 hw) (by decide) (rm_au3_add l Z a0 EL G a1 a6 h6 C6.old f8 f9 f10 f11 zg1 E6) (fun _ => rfl) rfl f8 all0 (by decide) (by decide) (by decide) (by decide) (lenOf pd_37 rfl) rfl (nb rfl) rfl (Y50 6 rfl) (pc' := 14) rfl ?_
  intro vm13 T13 h13 v13 C13 A13 M13 q13
  obtain ⟨q0_13, kq0_13, rfl, K13, ge_q0_13, zg_q0_13, E13_0, F13_0_0, F13_0_1, F13_0_2, E13_1, V13_1, O13_1⟩ := q13
  refine Endw.st (T' := T13) (g' := (mkF m 15 #[.val (.ref a1), .unset, .unset, .unset] [])) (fun _ k_ => XS.pop C13.here C13.hx rfl (C13.dec (Y50 7 rfl)) rfl rfl k_) ?_
  refine C13.new (wd hw 92 rfl) (wd hw 93 rfl) (wd hw 94 rfl) (Y50 8 rfl) (pc' := 18) rfl (by decide) (by decide) ?_
  intro T14 h14 a14 C14 K14 A14 ge14 zg14 E14 D14 S14
  refine C14.du (Y50 9 rfl) rfl ?_
  refine C14.ldcC (N := 4) (vs := (bys [(108 : Int32)])) (z := (1 : Int32)) (W95 hw) G.wS (by rw [G.el]; decide) ⟨by decide, by decide⟩ (by decide) (by decide) (by decide) (by decide) (by decide) (by decide) (Y50 10 rfl) (pc' := 21) rfl rfl ?_
  intro vm15 T15 h15 a15 b15 kA15 C15 K15 A15 E15 F15 f15 V15 r15
  have f18 := (A15.safe E14.lt S14)
  have Z15 : Str Z h15 a15 b15 kA15 [(108 : Int32)] := ⟨E15, F15, f15, V15, (own_cS ⟨by decide, by decide⟩ own_c0), by decide⟩
  refine C15.aL (Y50 11 rfl) rfl rfl ?_
  have f19 : Fld Z h14 a14 "com/example/dique/dique/model/Level" "name" "Ljava/lang/String;" .null := D14 (Or.inr (wd hw 458 rfl)) (ty := (.object "java/lang/String")) (by decide)
  have f20 := (f19.keep K15 nin0)
  have f21 : Fld Z h14 a14 "com/example/dique/dique/model/Level" "columns" "Ljava/util/List;" .null := D14 (Or.inr (wd hw 460 rfl)) (ty := (.object "java/util/List")) (by decide)
  have f22 := (f21.keep K15 nin0)
  have f23 := (E14.keep K15)
  have KK24 := (kT (kT (kR h13 []) K14 all0) K15 all0)
  have f25 := (E13_0.keep KK24)
  have f27 := (F13_0_1.keep KK24 nin0)
  have f28 := (F13_0_2.keep KK24 nin0)
  have f29 := (E13_1.keep KK24)
  have f30 := (V13_1.keep KK24 nin0)
  have KK31 := (kT (kT (kT (kR h6 [a1]) K13 (allS m0 all0)) K14 all0) K15 all0)
  have f32 := (E6.keep KK31)
  have f35 := (V6.keep KK31 (ninS (Ne.symm (r6 _ f7).2) nin0))
  have f36 := (Z6.keep KK31 (ninS (Ne.symm (r6 _ f7).1) nin0) (ninS (Ne.symm (r6 _ f7).2) nin0))
  have ne37 : a14 ≠ b6 := (Ne.symm (nL (lL (lL V6.lt K13.1) ge14)))
  refine C15.special (y := ⟨"com/example/dique/dique/model/Level", "<init>", "(Ljava/lang/String;Ljava/util/List;)V"⟩) (W := 1) rfl (wd hw 96 rfl) (wd hw 97 rfl) (wd hw 98 rfl) (wd hw 94 rfl) (by decide) (rm_au7_init l Z a0 EL G a14 a15 a1 b15 q0_13 a6 b6 kA15 kq0_13 kA6 h15 C15.old f23 f22 f20 zg14 E15 F15 f15 f25 f27 f28 V15 f29 f30 f32 f35 Z15 f36) (fun z => nomatch z) rfl all0 (by decide) (by decide) (by decide) (by decide) (lenOf pd_50 rfl) rfl (nb rfl) rfl (Y50 12 rfl) (pc' := 25) rfl ?_
  intro vm41 T41 h41 v41 C41 A41 M41 q41
  obtain ⟨q0_41, rfl, K41, ge_q0_41, zg_q0_41, E41_0, F41_0_0, F41_0_1, E41_1, F41_1_0, F41_1_1⟩ := q41
  refine C41.aS (Y50 13 rfl) rfl (l' := #[.val (.ref a1), .val (.ref a14), .unset, .unset]) rfl ?_
  refine C41.new (wd hw 34 rfl) (W35 hw) (W36 hw) (Y50 14 rfl) (pc' := 29) rfl (by decide) (by decide) ?_
  intro T42 h42 a42 C42 K42 A42 ge42 zg42 E42 D42 S42
  refine C42.du (Y50 15 rfl) rfl ?_
  have f43 : Fld Z h42 a42 "java/util/AbstractList" "modCount" "I" (.int 0) := D42 (Or.inl (W54 hw)) (ty := .int) (by decide)
  have f44 : Fld Z h42 a42 "java/util/ArrayList" "elementData" "[Ljava/lang/Object;" .null := D42 (Or.inl (W57 hw)) (ty := (.array (.object "java/lang/Object"))) (by decide)
  have f45 : Fld Z h42 a42 "java/util/ArrayList" "size" "I" (.int 0) := D42 (Or.inl (W69 hw)) (ty := .int) (by decide)
  refine C42.special (y := ⟨"java/util/ArrayList", "<init>", "()V"⟩) (W := 1) rfl (wd hw 37 rfl) (wd hw 38 rfl) (wd hw 39 rfl) (W36 hw) (by decide) (rm_au0_init l Z a0 EL G a42 h42 C42.old E42 f43 f44 f45 zg42) (fun _ => rfl) rfl all0 (by decide) (by decide) (by decide) (by decide) (lenOf pd_282956 rfl) rfl (nb rfl) rfl (Y50 16 rfl) (pc' := 33) rfl ?_
  intro vm46 T46 h46 v46 C46 A46 M46 q46
  obtain ⟨rfl, K46, E46_0, F46_0_0, F46_0_1, F46_0_2⟩ := q46
  refine C46.aS (Y50 17 rfl) rfl (l' := #[.val (.ref a1), .val (.ref a14), .val (.ref a42), .unset]) rfl (C46.aL (Y50 18 rfl) rfl rfl (C46.aL (Y50 19 rfl) rfl rfl ?_))
  have KK47 := (kT (kT (kR h41 []) K42 all0) K46 (allS (Or.inr ge42) all0))
  have f48 := (E41_0.keep KK47)
  have f49 := (F41_0_0.keep KK47 nin0)
  have f50 := (F41_0_1.keep KK47 nin0)
  have f51 := (E41_1.keep KK47)
  have f52 := (F41_1_0.keep KK47 nin0)
  have f53 := (F41_1_1.keep KK47 nin0)
  have KK54 := (kT (kT (kT (kR h15 [a14]) K41 (allS m0 all0)) K42 all0) K46 (allS (Or.inr (lT K41.1 ge42)) all0))
  have f55 := (E15.keep KK54)
  have f58 := (f32.keep KK54)
  have ne59 : a6 ≠ a14 := (nL (lL (lL E6.lt K13.1) ge14))
  have f62 := (V15.keep KK54 (ninS (Ne.symm (r15 _ f18).2) nin0))
  have f63 := (f35.keep KK54 (ninS (Ne.symm ne37) nin0))
  have f64 := (Z15.keep KK54 (ninS (Ne.symm (r15 _ f18).1) nin0) (ninS (Ne.symm (r15 _ f18).2) nin0))
  have f65 := (f36.keep KK54 (ninS ne59 nin0) (ninS (Ne.symm ne37) nin0))
  have ne66 : a42 ≠ b15 := (Ne.symm (nL (lL (lL V15.lt K41.1) ge42)))
  have ne67 : a42 ≠ b6 := (Ne.symm (nL (lL (lL V6.lt (lT KK31.1 K41.1)) ge42)))
  refine C46.virtual (W := 0) (wd hw 61 rfl) (wd hw 62 rfl) (fun _ q => notFace_of_selects (args := #[]) (mvT q (W64 hw))) (W64 hw) (W63 hw) (wd hw 65 rfl) (W36 hw) (by decide) (rm_au34_add l Z a0 EL G a42 a14 h46 C46.old E46_0 F46_0_0 F46_0_1 F46_0_2 zg42 f48) (fun _ => rfl) rfl E46_0 all0 (by decide) (by decide) (by decide) (by decide) (lenOf pd_37 rfl) rfl (nb rfl) rfl (Y50 20 rfl) (pc' := 39) rfl ?_
  intro vm70 T70 h70 v70 C70 A70 M70 q70
  obtain ⟨q0_70, kq0_70, rfl, K70, ge_q0_70, zg_q0_70, E70_0, F70_0_0, F70_0_1, F70_0_2, E70_1, V70_1, O70_1⟩ := q70
  refine Endw.st (T' := T70) (g' := (mkF m 40 #[.val (.ref a1), .val (.ref a14), .val (.ref a42), .unset] [])) (fun _ k_ => XS.pop C70.here C70.hx rfl (C70.dec (Y50 21 rfl)) rfl rfl k_) ?_
  refine C70.new (wd hw 34 rfl) (W35 hw) (W36 hw) (Y50 22 rfl) (pc' := 43) rfl (by decide) (by decide) ?_
  intro T71 h71 a71 C71 K71 A71 ge71 zg71 E71 D71 S71
  refine C71.du (Y50 23 rfl) rfl ?_
  have f72 : Fld Z h71 a71 "java/util/AbstractList" "modCount" "I" (.int 0) := D71 (Or.inl (W54 hw)) (ty := .int) (by decide)
  have f73 : Fld Z h71 a71 "java/util/ArrayList" "elementData" "[Ljava/lang/Object;" .null := D71 (Or.inl (W57 hw)) (ty := (.array (.object "java/lang/Object"))) (by decide)
  have f74 : Fld Z h71 a71 "java/util/ArrayList" "size" "I" (.int 0) := D71 (Or.inl (W69 hw)) (ty := .int) (by decide)
  refine C71.special (y := ⟨"java/util/ArrayList", "<init>", "()V"⟩) (W := 1) rfl (wd hw 37 rfl) (wd hw 38 rfl) (wd hw 39 rfl) (W36 hw) (by decide) (rm_au0_init l Z a0 EL G a71 h71 C71.old E71 f72 f73 f74 zg71) (fun _ => rfl) rfl all0 (by decide) (by decide) (by decide) (by decide) (lenOf pd_282956 rfl) rfl (nb rfl) rfl (Y50 24 rfl) (pc' := 47) rfl ?_
  intro vm75 T75 h75 v75 C75 A75 M75 q75
  obtain ⟨rfl, K75, E75_0, F75_0_0, F75_0_1, F75_0_2⟩ := q75
  refine C75.aS (Y50 25 rfl) rfl (l' := #[.val (.ref a1), .val (.ref a14), .val (.ref a42), .val (.ref a71)]) rfl ?_
  refine C75.new (wd hw 462 rfl) (W463 hw) (wd hw 464 rfl) (Y50 26 rfl) (pc' := 51) rfl (by decide) (by decide) ?_
  intro T76 h76 a76 C76 K76 A76 ge76 zg76 E76 D76 S76
  refine C76.du (Y50 27 rfl) rfl ?_
  refine C76.ldcC (N := 4) (vs := (bys [(100 : Int32)])) (z := (1 : Int32)) (W465 hw) G.wS (by rw [G.el]; decide) ⟨by decide, by decide⟩ (by decide) (by decide) (by decide) (by decide) (by decide) (by decide) (Y50 28 rfl) (pc' := 54) rfl rfl ?_
  intro vm77 T77 h77 a77 b77 kA77 C77 K77 A77 E77 F77 f77 V77 r77
  have Z77 : Str Z h77 a77 b77 kA77 [(100 : Int32)] := ⟨E77, F77, f77, V77, (own_cS ⟨by decide, by decide⟩ own_c0), by decide⟩
  refine C77.ldcC (N := 4) (vs := (bys [(116 : Int32)])) (z := (1 : Int32)) (W466 hw) G.wS (by rw [G.el]; decide) ⟨by decide, by decide⟩ (by decide) (by decide) (by decide) (by decide) (by decide) (by decide) (Y50 29 rfl) (pc' := 56) rfl rfl ?_
  intro vm85 T85 h85 a85 b85 kA85 C85 K85 A85 E85 F85 f85 V85 r85
  have Z85 : Str Z h85 a85 b85 kA85 [(116 : Int32)] := ⟨E85, F85, f85, V85, (own_cS ⟨by decide, by decide⟩ own_c0), by decide⟩
  refine C85.ldcC (N := 4) (vs := (bys [(107 : Int32)])) (z := (1 : Int32)) (W467 hw) G.wS (by rw [G.el]; decide) ⟨by decide, by decide⟩ (by decide) (by decide) (by decide) (by decide) (by decide) (by decide) (Y50 30 rfl) (pc' := 58) rfl rfl ?_
  intro vm93 T93 h93 a93 b93 kA93 C93 K93 A93 E93 F93 f93 V93 r93
  have Z93 : Str Z h93 a93 b93 kA93 [(107 : Int32)] := ⟨E93, F93, f93, V93, (own_cS ⟨by decide, by decide⟩ own_c0), by decide⟩
  refine C93.ldcC (N := 8) (vs := (bys [(102 : Int32), (107 : Int32)])) (z := (2 : Int32)) (W468 hw) G.wS (by rw [G.el]; decide) ⟨by decide, by decide⟩ (by decide) (by decide) (by decide) (by decide) (by decide) (by decide) (Y50 31 rfl) (pc' := 60) rfl rfl ?_
  intro vm101 T101 h101 a101 b101 kA101 C101 K101 A101 E101 F101 f101 V101 r101
  have Z101 : Str Z h101 a101 b101 kA101 [(102 : Int32), (107 : Int32)] := ⟨E101, F101, f101, V101, (own_cS ⟨by decide, by decide⟩ (own_cS ⟨by decide, by decide⟩ own_c0)), by decide⟩
  refine C101.aL (Y50 32 rfl) rfl rfl (C101.aL (Y50 33 rfl) rfl rfl ?_)
  have f109 : Fld Z h76 a76 "com/example/dique/dique/model/Dimension" "name" "Ljava/lang/String;" .null := D76 (Or.inr (W693 hw)) (ty := (.object "java/lang/String")) (by decide)
  have KK110 := (kT (kT (kT (kT (kR h76 []) K77 all0) K85 all0) K93 all0) K101 all0)
  have f111 := (f109.keep KK110 nin0)
  have f112 : Fld Z h76 a76 "com/example/dique/dique/model/Dimension" "table" "Ljava/lang/String;" .null := D76 (Or.inr (W695 hw)) (ty := (.object "java/lang/String")) (by decide)
  have f113 := (f112.keep KK110 nin0)
  have f114 : Fld Z h76 a76 "com/example/dique/dique/model/Dimension" "key" "Ljava/lang/String;" .null := D76 (Or.inr (W697 hw)) (ty := (.object "java/lang/String")) (by decide)
  have f115 := (f114.keep KK110 nin0)
  have f116 : Fld Z h76 a76 "com/example/dique/dique/model/Dimension" "foreignKey" "Ljava/lang/String;" .null := D76 (Or.inr (W699 hw)) (ty := (.object "java/lang/String")) (by decide)
  have f117 := (f116.keep KK110 nin0)
  have f118 : Fld Z h76 a76 "com/example/dique/dique/model/Dimension" "levels" "Ljava/util/List;" .null := D76 (Or.inr (W701 hw)) (ty := (.object "java/util/List")) (by decide)
  have f119 := (f118.keep KK110 nin0)
  have f120 : Fld Z h76 a76 "com/example/dique/dique/model/Dimension" "attributes" "Ljava/util/List;" .null := D76 (Or.inr (W703 hw)) (ty := (.object "java/util/List")) (by decide)
  have f121 := (f120.keep KK110 nin0)
  have f122 := (E76.keep KK110)
  have KK123 := (kT (kT (kT (kR h77 []) K85 all0) K93 all0) K101 all0)
  have f124 := (E77.keep KK123)
  have f125 := (F77.keep KK123 nin0)
  have f126 := (f77.keep KK123 nin0)
  have KK127 := (kT (kT (kR h85 []) K93 all0) K101 all0)
  have KK134 := (kT (kT (kT (kT (kT (kT (kT (kR h70 []) K71 all0) K75 (allS (Or.inr ge71) all0)) K76 all0) K77 all0) K85 all0) K93 all0) K101 all0)
  have f135 := (E70_0.keep KK134)
  have f137 := (F70_0_1.keep KK134 nin0)
  have f138 := (F70_0_2.keep KK134 nin0)
  have KK139 := (kT (kT (kT (kT (kT (kR h75 []) K76 all0) K77 all0) K85 all0) K93 all0) K101 all0)
  have f140 := (E75_0.keep KK139)
  have f143 := (F75_0_2.keep KK139 nin0)
  have f144 := (V77.keep KK123 nin0)
  have f147 := (E70_1.keep KK134)
  have f148 := (V70_1.keep KK134 nin0)
  have KK149 := (kT (kT (kT (kT (kT (kT (kT (kT (kR h46 [a42]) K70 (allS m0 all0)) K71 all0) K75 (allS (Or.inr (lT K70.1 ge71)) all0)) K76 all0) K77 all0) K85 all0) K93 all0) K101 all0)
  have f150 := (f48.keep KK149)
  have ne151 : a14 ≠ a42 := (nL (lL (lL E14.lt (lT K15.1 K41.1)) ge42))
  have f152 := (f49.keep KK149 (ninS ne151 nin0))
  have f153 := (f50.keep KK149 (ninS ne151 nin0))
  have f154 := (f51.keep KK149)
  have ne155 : q0_41 ≠ a42 := (nL (lL E41_1.lt ge42))
  have f156 := (f52.keep KK149 (ninS ne155 nin0))
  have f157 := (f53.keep KK149 (ninS ne155 nin0))
  have f158 := (f55.keep KK149)
  have ne159 : a15 ≠ a42 := (nL (lL (lL E15.lt K41.1) ge42))
  have f162 := (f58.keep KK149)
  have ne163 : a6 ≠ a42 := (nL (lL (lL E6.lt (lT KK31.1 K41.1)) ge42))
  have f166 := (f62.keep KK149 (ninS (Ne.symm ne66) nin0))
  have f167 := (f63.keep KK149 (ninS (Ne.symm ne67) nin0))
  have f168 := (Z77.keep KK123 nin0 nin0)
  have f169 := (Z85.keep KK127 nin0 nin0)
  have f170 := (Z93.keep K101 nin0 nin0)
  have f171 := (f64.keep KK149 (ninS ne159 nin0) (ninS (Ne.symm ne66) nin0))
  have f172 := (f65.keep KK149 (ninS ne163 nin0) (ninS (Ne.symm ne67) nin0))
  refine C101.special (y := ⟨"com/example/dique/dique/model/Dimension", "<init>", "(Ljava/lang/String;Ljava/lang/String;Ljava/lang/String;Ljava/lang/String;Ljava/util/List;Ljava/util/List;)V"⟩) (W := 1) rfl (wd hw 469 rfl) (wd hw 470 rfl) (wd hw 471 rfl) (wd hw 464 rfl) (by decide) (rm_au36_init l Z a0 EL G a76 a77 a85 a93 a101 a42 a71 b77 b85 b93 b101 q0_70 a14 q0_41 a15 a6 b15 b6 kA77 kA85 kA93 kA101 kq0_70 kA15 kA6 h101 C101.old f122 f121 f117 f115 f119 f111 f113 zg76 f124 f125 f126 f135 f137 f138 f140 f143 f144 f147 f148 f150 f152 f153 f154 f156 f157 f158 f162 f166 f167 f168 f169 f170 Z101 f171 f172) (fun z => nomatch z) rfl all0 (by decide) (by decide) (by decide) (by decide) (lenOf pd_49 rfl) rfl (nb rfl) rfl (Y50 34 rfl) (pc' := 65) rfl ?_
  intro vm217 T217 h217 v217 C217 A217 M217 q217
  obtain ⟨q0_217, rfl, K217, ge_q0_217, zg_q0_217, E217_0, F217_0_0, F217_0_1, F217_0_2, F217_0_3, F217_0_4, F217_0_5, E217_1, F217_1_0, F217_1_1⟩ := q217
  have KK218 := (kT (kT (kT (kT (kT (kT (kT (kT (kT (kT (kT (kT (kT (kT (kT (kT (kT (kT (kR h []) K1 all0) K5 (allS (Or.inr ge1) all0)) K6 all0) K13 (allS (Or.inr ge1) all0)) K14 all0) K15 all0) K41 (allS (Or.inr (lT (lT K1.1 (lT K5.1 (lT K6.1 K13.1))) ge14)) all0)) K42 all0) K46 (allS (Or.inr (lT (lT K1.1 (lT K5.1 (lT K6.1 (lT K13.1 (lT K14.1 (lT K15.1 K41.1)))))) ge42)) all0)) K70 (allS (Or.inr (lT (lT K1.1 (lT K5.1 (lT K6.1 (lT K13.1 (lT K14.1 (lT K15.1 K41.1)))))) ge42)) all0)) K71 all0) K75 (allS (Or.inr (lT (lT K1.1 (lT K5.1 (lT K6.1 (lT K13.1 (lT K14.1 (lT K15.1 (lT K41.1 (lT K42.1 (lT K46.1 K70.1))))))))) ge71)) all0)) K76 all0) K77 all0) K85 all0) K93 all0) K101 all0) K217 (allS (Or.inr (lT (lT K1.1 (lT K5.1 (lT K6.1 (lT K13.1 (lT K14.1 (lT K15.1 (lT K41.1 (lT K42.1 (lT K46.1 (lT K70.1 (lT K71.1 K75.1))))))))))) ge76)) all0))
  exact C217.retA (t := (.object "com/example/dique/dique/model/Dimension")) rfl rfl rfl rfl (Y50 35 rfl) (by decide) (by decide) ⟨a76, rfl, KK218⟩
theorem rm_au77_requireNonNull (G : Glob Z a0 EL) (p0 p1 : Addr) (h : Heap) (O : Ext Z.heap h)  :
    Met l Z EL true ⟨"java/util/Objects", "requireNonNull", "(Ljava/lang/Object;Ljava/lang/String;)Ljava/lang/Object;"⟩ jdk_31_method_11_code 2 (some (.object "java/lang/Object")) [] ⟨0, 0, 0, 0⟩ #[(.ref p0), (.ref p1)] h [] (fun r h' => r = some (.ref p0) ∧ h = h') := by
  refine Met.of (plainFor_of_name pn_626a65637473_29) G.ew O ?_
  intro p e s m below meth c T0 C0 S0
  refine Endw.eq (g' := mkF m 0 #[.val (.ref p0), .val (.ref p1)] []) rfl ?_
  refine C0.aL (Y104 0 rfl) rfl rfl ?_
  refine Endw.st (T' := T0) (g' := (mkF m 13 #[.val (.ref p0), .val (.ref p1)] [])) (fun _ k_ => XS.ifnonnullYes C0.here C0.hx rfl (pc0 := 1) rfl (C0.dec (Y104 1 rfl)) rfl (by decide) rfl k_) ?_
  refine C0.aL (Y104 2 rfl) rfl rfl ?_
  exact C0.retA (t := (.object "java/lang/Object")) rfl rfl rfl rfl (Y104 3 rfl) (by decide) (by decide) ⟨rfl, rfl⟩
theorem rm_au76_init (G : Glob Z a0 EL) (p0 p1 : Addr) (v2 : Value) (hv2 : v2.isRef = true) (v3 : Value) (hv3 : v3.isRef = true) (h : Heap) (O : Ext Z.heap h) (e_0 : Exa Z h p0 "com/example/dique/dique/query/TableRef") (f_0_0 : Fld Z h p0 "com/example/dique/dique/query/TableRef" "alias" "Ljava/lang/String;" .null) (f_0_1 : Fld Z h p0 "com/example/dique/dique/query/TableRef" "dimension" "Lcom/example/dique/dique/model/Dimension;" .null) (f_0_2 : Fld Z h p0 "com/example/dique/dique/query/TableRef" "name" "Ljava/lang/String;" .null) (z_0 : Z.heap.size ≤ p0) :
    Met l Z EL false ⟨"com/example/dique/dique/query/TableRef", "<init>", "(Ljava/lang/String;Ljava/lang/String;Lcom/example/dique/dique/model/Dimension;)V"⟩ prog_81_method_1_code 4 none [] ⟨2, 2, 20, 24⟩ #[(.ref p0), (.ref p1), v2, v3] h [] (fun r h' => r = none ∧ Keep h h' [p0] ∧ Exa Z h' p0 "com/example/dique/dique/query/TableRef" ∧ Fld Z h' p0 "com/example/dique/dique/query/TableRef" "alias" "Ljava/lang/String;" v2 ∧ Fld Z h' p0 "com/example/dique/dique/query/TableRef" "dimension" "Lcom/example/dique/dique/model/Dimension;" v3 ∧ Fld Z h' p0 "com/example/dique/dique/query/TableRef" "name" "Ljava/lang/String;" (.ref p1)) := by
  have hw := G.hw
  refine Met.of (plainFor_of_name pn_626c65526566_3) G.ew O ?_
  intro p e s m below meth c T0 C0 S0
  refine Endw.eq (g' := mkF m 0 #[.val (.ref p0), .val (.ref p1), .val v2, .val v3] []) (by first | rfl | (simp [entryFrame, mkF, argsToLocals, own_cI, own_cR, own_cN, own_cJ, own_cD, maxLocals, XT.cat1 hv2, XT.cat1 hv3]; done)) ?_
  refine C0.aL (Y103 0 rfl) rfl rfl ?_
  refine C0.special (y := ⟨"java/lang/Record", "<init>", "()V"⟩) (W := 0) rfl (wd hw 710 rfl) (wd hw 100 rfl) (wd hw 103 rfl) (wd hw 102 rfl) (by decide) (rm_au8_init l Z a0 EL G p0 h C0.old ) (fun _ => rfl) rfl all0 (by decide) (by decide) (by decide) (by decide) (lenOf pd_282956 rfl) rfl (nb rfl) rfl (Y103 1 rfl) (pc' := 4) rfl ?_
  intro vm1 T1 h1 v1 C1 A1 M1 q1
  obtain ⟨rfl, rfl⟩ := q1
  refine C1.aL (Y103 2 rfl) rfl rfl ?_
  refine C1.ldcC (N := 16) (vs := (bys [(110 : Int32), (97 : Int32), (109 : Int32), (101 : Int32)])) (z := (4 : Int32)) (W711 hw) G.wS (by rw [G.el]; decide) ⟨by decide, by decide⟩ (by decide) (by decide) (by decide) (by decide) (by decide) (by decide) (Y103 3 rfl) (pc' := 7) rfl rfl ?_
  intro vm2 T2 h2 a2 b2 kA2 C2 K2 A2 E2 F2 f2 V2 r2
  have Z2 : Str Z h2 a2 b2 kA2 [(110 : Int32), (97 : Int32), (109 : Int32), (101 : Int32)] := ⟨E2, F2, f2, V2, (own_cS ⟨by decide, by decide⟩ (own_cS ⟨by decide, by decide⟩ (own_cS ⟨by decide, by decide⟩ (own_cS ⟨by decide, by decide⟩ own_c0)))), by decide⟩
  refine C2.static (W := 0) (wd hw 712 rfl) (wd hw 713 rfl) (wd hw 714 rfl) (wd hw 276 rfl) (by decide) (rm_au77_requireNonNull l Z a0 EL G p1 a2 h2 C2.old ) (fun _ => rfl) rfl all0 (by decide) (by decide) (by decide) (by decide) (lenOf pd_40 rfl) rfl (nb rfl) rfl (Y103 4 rfl) (pc' := 10) rfl ?_
  intro vm6 T6 h6 v6 C6 A6 M6 q6
  obtain ⟨rfl, rfl⟩ := q6
  refine Endw.st (T' := T6) (g' := (mkF m 11 #[.val (.ref p0), .val (.ref p1), .val v2, .val v3] [])) (fun _ k_ => XS.pop C6.here C6.hx rfl (C6.dec (Y103 5 rfl)) rfl rfl k_) ?_
  refine C6.aL (Y103 6 rfl) rfl rfl (C6.aL (Y103 7 rfl) rfl rfl ?_)
  have f7 := (e_0.keep K2)
  have f8 := (f_0_2.keep K2 nin0)
  have f10 := (f_0_0.keep K2 nin0)
  have f11 := (f_0_1.keep K2 nin0)
  refine C6.putF (v := (.ref p1)) (wd hw 715 rfl) f8 f7 (Or.inr ⟨(W716 hw), rfl, rfl⟩) (W705 hw) (ty := (.object "java/lang/String")) (by decide) rfl rfl z_0 (Safe.exa C6.warm.alike f7 (by decide) (by decide)) (Y103 8 rfl) (pc' := 16) rfl ?_
  intro T9 h9 C9 K9 A9 Wr9
  have f12 := f8.same Wr9
  have f13 := f10.other Wr9 (Or.inr (slot_ne (Or.inr (W718 hw)) (Or.inr (W716 hw)) (by decide) (t := (.object "java/lang/String")) (t' := (.object "java/lang/String")) (by decide) (by decide)))
  have f14 := f11.other Wr9 (Or.inr (slot_ne (Or.inr (W720 hw)) (Or.inr (W716 hw)) (by decide) (t := (.object "com/example/dique/dique/model/Dimension")) (t' := (.object "java/lang/String")) (by decide) (by decide)))
  refine C9.aL (Y103 9 rfl) rfl rfl (C9.aL (Y103 10 rfl) rfl hv2 ?_)
  have f15 := (f7.keep K9)
  refine C9.putF (v := v2) (wd hw 717 rfl) f13 f15 (Or.inr ⟨(W718 hw), rfl, rfl⟩) (W705 hw) (ty := (.object "java/lang/String")) (by decide) (own_nar_ref hv2) (own_fits_ref hv2) z_0 (Safe.exa C9.warm.alike f15 (by decide) (by decide)) (Y103 11 rfl) (pc' := 21) rfl ?_
  intro T16 h16 C16 K16 A16 Wr16
  have f17 := f13.same Wr16
  have f18 := f14.other Wr16 (Or.inr (slot_ne (Or.inr (W720 hw)) (Or.inr (W718 hw)) (by decide) (t := (.object "com/example/dique/dique/model/Dimension")) (t' := (.object "java/lang/String")) (by decide) (by decide)))
  have f19 := f12.other Wr16 (Or.inr (slot_ne (Or.inr (W716 hw)) (Or.inr (W718 hw)) (by decide) (t := (.object "java/lang/String")) (t' := (.object "java/lang/String")) (by decide) (by decide)))
  refine C16.aL (Y103 12 rfl) rfl rfl (C16.aL (Y103 13 rfl) rfl hv3 ?_)
  have f20 := (f15.keep K16)
  refine C16.putF (v := v3) (wd hw 719 rfl) f18 f20 (Or.inr ⟨(W720 hw), rfl, rfl⟩) (W705 hw) (ty := (.object "com/example/dique/dique/model/Dimension")) (by decide) (own_nar_ref hv3) (own_fits_ref hv3) z_0 (Safe.exa C16.warm.alike f20 (by decide) (by decide)) (Y103 14 rfl) (pc' := 26) rfl ?_
  intro T21 h21 C21 K21 A21 Wr21
  have f22 := f18.same Wr21
  have f23 := f17.other Wr21 (Or.inr (slot_ne (Or.inr (W718 hw)) (Or.inr (W720 hw)) (by decide) (t := (.object "java/lang/String")) (t' := (.object "com/example/dique/dique/model/Dimension")) (by decide) (by decide)))
  have f24 := f19.other Wr21 (Or.inr (slot_ne (Or.inr (W716 hw)) (Or.inr (W720 hw)) (by decide) (t := (.object "java/lang/String")) (t' := (.object "com/example/dique/dique/model/Dimension")) (by decide) (by decide)))
  have f25 := (f20.keep K21)
  have KK28 := (kT (kT (kT (kT (kR h [p0]) K2 all0) K9 (allS m0 all0)) K16 (allS m0 all0)) K21 (allS m0 all0))
  exact C21.retV (Y103 15 rfl) (by decide) (by decide) ⟨rfl, KK28, f25, f23, f22, f24⟩
theorem rm_au78_isFact (G : Glob Z a0 EL) (p0 p2 : Addr) (h : Heap) (O : Ext Z.heap h) (f_0_1 : Fld Z h p0 "com/example/dique/dique/query/TableRef" "dimension" "Lcom/example/dique/dique/model/Dimension;" (.ref p2)) :
    Met l Z EL true ⟨"com/example/dique/dique/query/TableRef", "isFact", "()Z"⟩ prog_81_method_3_code 1 (some .boolean) [] ⟨0, 0, 0, 0⟩ #[(.ref p0)] h [] (fun r h' => r = some (.int 0) ∧ h = h') := by
  have hw := G.hw
  refine Met.of (plainFor_of_name pn_626c65526566_3) G.ew O ?_
  intro p e s m below meth c T0 C0 S0
  refine Endw.eq (g' := mkF m 0 #[.val (.ref p0)] []) rfl ?_
  refine C0.aL (Y105 0 rfl) rfl rfl ?_
  refine C0.getF (wd hw 719 rfl) f_0_1 (Y105 1 rfl) (pc' := 4) rfl ?_
  intro T1 C1
  refine Endw.st (T' := T1) (g' := (mkF m 11 #[.val (.ref p0)] [])) (fun _ k_ => XS.ifnonnullYes C1.here C1.hx rfl (pc0 := 4) rfl (C1.dec (Y105 2 rfl)) rfl (by decide) rfl k_) ?_
  refine C1.ic (z := 0) (Y105 5 rfl) rfl ?_
  exact C1.retI (t := .boolean) rfl (by simp) rfl (Y105 6 rfl) (by decide) (by decide) ⟨rfl, rfl⟩
theorem rm_au79_isFact (G : Glob Z a0 EL) (p0 : Addr) (h : Heap) (O : Ext Z.heap h) (f_0_1 : Fld Z h p0 "com/example/dique/dique/query/TableRef" "dimension" "Lcom/example/dique/dique/model/Dimension;" .null) :
    Met l Z EL true ⟨"com/example/dique/dique/query/TableRef", "isFact", "()Z"⟩ prog_81_method_3_code 1 (some .boolean) [] ⟨0, 0, 0, 0⟩ #[(.ref p0)] h [] (fun r h' => r = some (.int 1) ∧ h = h') := by
  have hw := G.hw
  refine Met.of (plainFor_of_name pn_626c65526566_3) G.ew O ?_
  intro p e s m below meth c T0 C0 S0
  refine Endw.eq (g' := mkF m 0 #[.val (.ref p0)] []) rfl ?_
  refine C0.aL (Y105 0 rfl) rfl rfl ?_
  refine C0.getF (wd hw 719 rfl) f_0_1 (Y105 1 rfl) (pc' := 4) rfl ?_
  intro T1 C1
  refine Endw.st (T' := T1) (g' := (mkF m 7 #[.val (.ref p0)] [])) (fun _ k_ => XS.ifnonnullNo C1.here C1.hx rfl (C1.dec (Y105 2 rfl)) rfl k_) ?_
  refine C1.ic (z := 1) (Y105 3 rfl) rfl (C1.go (pc' := 12) (Y105 4 rfl) (by decide) rfl ?_)
  exact C1.retI (t := .boolean) rfl (by simp) rfl (Y105 6 rfl) (by decide) (by decide) ⟨rfl, rfl⟩
theorem rm_law (G : Glob Z a0 EL) (i0 i1 i2 i3 : Int32) (h : Heap) (O : Ext Z.heap h)  :
    Met l Z EL false x code maxLocals ret tables_1 room_1 #[(.int i0), (.int i1), (.int i2), (.int i3)] h [] (fun r h' => r = some (.int 1)) := by
  have hw := G.hw
  obtain ⟨zc, Sc, hzc⟩ := G.cs
  refine Met.of (plainFor_of_name pn_50696e4c6177_4) G.ew O ?_
  intro p e s m below meth c T0 C0 S0
  refine Endw.eq (g' := mkF m 0 #[.val (.int i0), .val (.int i1), .val (.int i2), .val (.int i3), .unset, .unset, .unset, .unset, .unset, .unset, .unset] []) rfl ?_
  refine C0.ic (z := 2) at_0 rfl ?_
  refine C0.newAE (aty := .char) (z := (2 : Int32)) (cap := 2) (vs := [(.int 0), (.int 0)]) (ad := "[C") (by decide +kernel) (wd hw 0 rfl) at_1 (pc' := 3) rfl (by decide) (by decide) (by decide) (by decide) (by decide) rfl ?_
  intro T1 h1 a1 kA1 C1 K1 A1 ge1 zg1 V1 S1 E1
  refine C1.du at_3 rfl (C1.ic (z := 0) at_4 rfl (C1.iL at_5 rfl (C1.si (z := 255) at_6 rfl (C1.an (z := (i0 &&& (255 : Int32))) at_9 rfl ?_))))
  refine Endw.st (T' := T1) (g' := (mkF m 11 #[.val (.int i0), .val (.int i1), .val (.int i2), .val (.int i3), .unset, .unset, .unset, .unset, .unset, .unset, .unset] [(.int ((i0 &&& (255 : Int32)).toUInt32.toUInt16.toUInt32.toInt32)), (.int 0), (.ref a1), (.ref a1)])) (fun _ k_ => XS.i2c C1.here C1.hx rfl (C1.dec at_10) rfl k_) ?_
  rw [show (i0 &&& (255 : Int32)).toUInt32.toUInt16.toUInt32.toInt32 = (i0 &&& (255 : Int32)) from i2c_mask _]
  refine C1.castore V1 ⟨by decide, by decide⟩ 0 (by decide) (nb rfl) (x' := (i0 &&& (255 : Int32))) (i2c_mask _) zg1 (vs' := [(.int (i0 &&& (255 : Int32))), (.int 0)]) rfl at_11 (pc' := 12) rfl ?_
  intro T2 h2 C2 K2 A2 V2
  refine C2.du at_12 rfl (C2.ic (z := 1) at_13 rfl (C2.iL at_14 rfl (C2.si (z := 255) at_15 rfl (C2.an (z := (i1 &&& (255 : Int32))) at_18 rfl ?_))))
  refine Endw.st (T' := T2) (g' := (mkF m 20 #[.val (.int i0), .val (.int i1), .val (.int i2), .val (.int i3), .unset, .unset, .unset, .unset, .unset, .unset, .unset] [(.int ((i1 &&& (255 : Int32)).toUInt32.toUInt16.toUInt32.toInt32)), (.int 1), (.ref a1), (.ref a1)])) (fun _ k_ => XS.i2c C2.here C2.hx rfl (C2.dec at_19) rfl k_) ?_
  rw [show (i1 &&& (255 : Int32)).toUInt32.toUInt16.toUInt32.toInt32 = (i1 &&& (255 : Int32)) from i2c_mask _]
  refine C2.castore V2 ⟨by decide, by decide⟩ 1 (by decide) (nb rfl) (x' := (i1 &&& (255 : Int32))) (i2c_mask _) zg1 (vs' := [(.int (i0 &&& (255 : Int32))), (.int (i1 &&& (255 : Int32)))]) rfl at_20 (pc' := 21) rfl ?_
  intro T3 h3 C3 K3 A3 V3
  replace K3 := kT K2 K3 (allS (Or.inl (by simp)) all0)
  replace A3 := CHr.trans A2 A3
  clear C2 V2 K2 A2 T2 h2
  refine C3.aSk at_21 rfl (l' := #[.val (.int i0), .val (.int i1), .val (.int i2), .val (.int i3), .val (.ref a1), .unset, .unset, .unset, .unset, .unset, .unset]) rfl ?_
  refine C3.new (wd hw 1 rfl) (W2 hw) (W3 hw) at_23 (pc' := 26) rfl (by decide) (by decide) ?_
  intro T4 h4 a4 C4 K4 A4 ge4 zg4 E4 D4 S4
  refine C4.du at_26 rfl (C4.aLk at_27 rfl rfl ?_)
  have f5 := (V3.keep K4 nin0)
  have f6 : Fld Z h4 a4 "java/lang/String" "value" "[B" .null := D4 (Or.inr (W29 hw)) (ty := (.array .byte)) (by decide)
  have f7 : Fld Z h4 a4 "java/lang/String" "coder" "B" (.int 0) := D4 (Or.inr (W27 hw)) (ty := .byte) (by decide)
  have hp8 : ∀ c ∈ [(i0 &&& (255 : Int32)), (i1 &&& (255 : Int32))], B8 c := (own_cS (own_mask255 _) (own_cS (own_mask255 _) own_c0))
  refine C4.specialF (y := ⟨"java/lang/String", "<init>", "([C)V"⟩) (ws := [a4]) (W := 1) (a := a4) (argsL := [.ref a1]) (rest := [(.ref a4)]) (ck := 1) (cn := 2) rfl (wd hw 4 rfl) (wd hw 5 rfl) (wd hw 6 rfl) (by decide) (StrChars.Road.backV (W := 1) (n := 2) (n0 := Z.heap.size) (cs := [(i0 &&& (255 : Int32)), (i1 &&& (255 : Int32))]) (bs := [(i0 &&& (255 : Int32)).toInt8.toInt32, (i1 &&& (255 : Int32)).toInt8.toInt32]) C4.warm G.w_backV (kI := 4) (W2 hw) zg4 C4.le E4 f6 f7 f5 (Sc.ext C4.old) hzc rfl rfl (by decide) (by decide) hp8 rfl (by decide) (by decide)) (fun _ _ _ q => ⟨q.2.1, q.2.2.1⟩) (allS zg4 all0) (sfS S4 sf0) rfl (by decide) (by decide) (lenOf pd_285b432956 rfl) rfl (nb rfl) rfl at_29 (pc' := 32) rfl ?_
  intro T8 h8 v8 C8 K8 A8 q8
  obtain ⟨_, rfl, -, -, E8, F8, t8, kb8, zg8, ge8, nt8, f8, V8⟩ := q8
  have Z8 : Str Z h8 a4 t8 kb8 [(i0 &&& (255 : Int32)), (i1 &&& (255 : Int32))] := ⟨E8, F8, f8, V8, hp8, Nat.le_of_ble_eq_true rfl⟩
  refine C8.aSk at_32 rfl (l' := #[.val (.int i0), .val (.int i1), .val (.int i2), .val (.int i3), .val (.ref a1), .val (.ref a4), .unset, .unset, .unset, .unset, .unset]) rfl (C8.ic (z := 1) at_34 rfl ?_)
  refine C8.newAE (aty := .char) (z := (1 : Int32)) (cap := 1) (vs := [(.int 0)]) (ad := "[C") (by decide +kernel) (wd hw 0 rfl) at_35 (pc' := 37) rfl (by decide) (by decide) (by decide) (by decide) (by decide) rfl ?_
  intro T9 h9 a9 kA9 C9 K9 A9 ge9 zg9 V9 S9 E9
  refine C9.du at_37 rfl (C9.ic (z := 0) at_38 rfl (C9.iL at_39 rfl (C9.si (z := 255) at_40 rfl (C9.an (z := (i2 &&& (255 : Int32))) at_43 rfl ?_))))
  refine Endw.st (T' := T9) (g' := (mkF m 45 #[.val (.int i0), .val (.int i1), .val (.int i2), .val (.int i3), .val (.ref a1), .val (.ref a4), .unset, .unset, .unset, .unset, .unset] [(.int ((i2 &&& (255 : Int32)).toUInt32.toUInt16.toUInt32.toInt32)), (.int 0), (.ref a9), (.ref a9)])) (fun _ k_ => XS.i2c C9.here C9.hx rfl (C9.dec at_44) rfl k_) ?_
  rw [show (i2 &&& (255 : Int32)).toUInt32.toUInt16.toUInt32.toInt32 = (i2 &&& (255 : Int32)) from i2c_mask _]
  refine C9.castore V9 ⟨by decide, by decide⟩ 0 (by decide) (nb rfl) (x' := (i2 &&& (255 : Int32))) (i2c_mask _) zg9 (vs' := [(.int (i2 &&& (255 : Int32)))]) rfl at_45 (pc' := 46) rfl ?_
  intro T10 h10 C10 K10 A10 V10
  refine C10.aSk at_46 rfl (l' := #[.val (.int i0), .val (.int i1), .val (.int i2), .val (.int i3), .val (.ref a1), .val (.ref a4), .val (.ref a9), .unset, .unset, .unset, .unset]) rfl (C10.iL at_48 rfl (C10.ic (z := 1) at_49 rfl (C10.an (z := (i3 &&& (1 : Int32))) at_50 rfl ?_)))
  by_cases c11 : (i3 &&& (1 : Int32)) = (0 : Int32)
  · refine C10.fY (pc' := 58) at_51 (XT.i0_eq_t c11) (by decide) rfl ?_
    refine C10.new (wd hw 1 rfl) (W2 hw) (W3 hw) at_58 (pc' := 61) rfl (by decide) (by decide) ?_
    intro T12 h12 a12 C12 K12 A12 ge12 zg12 E12 D12 S12
    refine C12.du at_61 rfl (C12.aLk at_62 rfl rfl ?_)
    have f13 := (V10.keep K12 nin0)
    have f14 : Fld Z h12 a12 "java/lang/String" "value" "[B" .null := D12 (Or.inr (W29 hw)) (ty := (.array .byte)) (by decide)
    have f15 : Fld Z h12 a12 "java/lang/String" "coder" "B" (.int 0) := D12 (Or.inr (W27 hw)) (ty := .byte) (by decide)
    have hp16 : ∀ c ∈ [(i2 &&& (255 : Int32))], B8 c := (own_cS (own_mask255 _) own_c0)
    refine C12.specialF (y := ⟨"java/lang/String", "<init>", "([C)V"⟩) (ws := [a12]) (W := 1) (a := a12) (argsL := [.ref a9]) (rest := [(.ref a12)]) (ck := 1) (cn := 1) rfl (wd hw 4 rfl) (wd hw 5 rfl) (wd hw 6 rfl) (by decide) (StrChars.Road.backV (W := 1) (n := 1) (n0 := Z.heap.size) (cs := [(i2 &&& (255 : Int32))]) (bs := [(i2 &&& (255 : Int32)).toInt8.toInt32]) C12.warm G.w_backV (kI := 4) (W2 hw) zg12 C12.le E12 f14 f15 f13 (Sc.ext C12.old) hzc rfl rfl (by decide) (by decide) hp16 rfl (by decide) (by decide)) (fun _ _ _ q => ⟨q.2.1, q.2.2.1⟩) (allS zg12 all0) (sfS S12 sf0) rfl (by decide) (by decide) (lenOf pd_285b432956 rfl) rfl (nb rfl) rfl at_64 (pc' := 67) rfl ?_
    intro T16 h16 v16 C16 K16 A16 q16
    obtain ⟨_, rfl, -, -, E16, F16, t16, kb16, zg16, ge16, nt16, f16, V16⟩ := q16
    have Z16 : Str Z h16 a12 t16 kb16 [(i2 &&& (255 : Int32))] := ⟨E16, F16, f16, V16, hp16, Nat.le_of_ble_eq_true rfl⟩
    refine C16.aSk at_67 rfl (l' := #[.val (.int i0), .val (.int i1), .val (.int i2), .val (.int i3), .val (.ref a1), .val (.ref a4), .val (.ref a9), .val (.ref a12), .unset, .unset, .unset]) rfl (C16.iL at_69 rfl (C16.ic (z := 2) at_70 rfl (C16.an (z := (i3 &&& (2 : Int32))) at_71 rfl ?_)))
    by_cases c17 : (i3 &&& (2 : Int32)) = (0 : Int32)
    · refine C16.fY (pc' := 79) at_72 (XT.i0_eq_t c17) (by decide) rfl (C16.ic (z := 0) at_79 rfl (C16.iSk at_80 (l' := #[.val (.int i0), .val (.int i1), .val (.int i2), .val (.int i3), .val (.ref a1), .val (.ref a4), .val (.ref a9), .val (.ref a12), .val (.int 0), .unset, .unset]) rfl (C16.iLk at_82 rfl (C16.fY (pc' := 91) at_84 (XT.i0_eq_t (by decide)) (by decide) rfl ?_))))
      refine C16.static (W := 0) (wd hw 30 rfl) (wd hw 31 rfl) (wd hw 33 rfl) (wd hw 32 rfl) (by decide) (rm_dim l Z a0 EL G h16 C16.old) (fun z => nomatch z) rfl all0 (by decide) (by decide) (by decide) (by decide) (lenOf pd_2 rfl) rfl (nb rfl) rfl at_91 (pc' := 94) rfl ?_
      intro vm18 T18 h18 v18 C18 A18 M18 q18
      obtain ⟨x18, rfl, K18⟩ := q18
      refine C18.aSk at_94 rfl (l' := #[.val (.int i0), .val (.int i1), .val (.int i2), .val (.int i3), .val (.ref a1), .val (.ref a4), .val (.ref a9), .val (.ref a12), .val (.int 0), .val (.ref x18), .unset]) rfl ?_
      refine C18.new (wd hw 704 rfl) (W705 hw) (W706 hw) at_96 (pc' := 99) rfl (by decide) (by decide) ?_
      intro T19 h19 a19 C19 K19 A19 ge19 zg19 E19 D19 S19
      refine C19.du at_99 rfl (C19.aLk at_100 rfl rfl (C19.aLk at_102 rfl rfl (C19.aLk at_104 rfl rfl ?_)))
      have f20 : Fld Z h19 a19 "com/example/dique/dique/query/TableRef" "name" "Ljava/lang/String;" .null := D19 (Or.inr (W716 hw)) (ty := (.object "java/lang/String")) (by decide)
      have f21 : Fld Z h19 a19 "com/example/dique/dique/query/TableRef" "alias" "Ljava/lang/String;" .null := D19 (Or.inr (W718 hw)) (ty := (.object "java/lang/String")) (by decide)
      have f22 : Fld Z h19 a19 "com/example/dique/dique/query/TableRef" "dimension" "Lcom/example/dique/dique/model/Dimension;" .null := D19 (Or.inr (W720 hw)) (ty := (.object "com/example/dique/dique/model/Dimension")) (by decide)
      refine C19.special (y := ⟨"com/example/dique/dique/query/TableRef", "<init>", "(Ljava/lang/String;Ljava/lang/String;Lcom/example/dique/dique/model/Dimension;)V"⟩) (W := 1) rfl (wd hw 707 rfl) (wd hw 708 rfl) (wd hw 709 rfl) (W706 hw) (by decide) (rm_au76_init l Z a0 EL G a19 a4 (.ref a12) rfl (.ref x18) rfl h19 C19.old E19 f21 f22 f20 zg19) (fun z => nomatch z) rfl all0 (by decide) (by decide) (by decide) (by decide) (lenOf pd_48 rfl) rfl (nb rfl) rfl at_106 (pc' := 109) rfl ?_
      intro vm25 T25 h25 v25 C25 A25 M25 q25
      obtain ⟨rfl, K25, E25_0, F25_0_0, F25_0_1, F25_0_2⟩ := q25
      refine C25.aSk at_109 rfl (l' := #[.val (.int i0), .val (.int i1), .val (.int i2), .val (.int i3), .val (.ref a1), .val (.ref a4), .val (.ref a9), .val (.ref a12), .val (.int 0), .val (.ref x18), .val (.ref a19)]) rfl (C25.aLk at_111 rfl rfl ?_)
      refine C25.virtual (W := 0) (wd hw 721 rfl) (wd hw 722 rfl) (fun _ q => notFace_of_selects (args := #[]) (mvT q (W724 hw))) (W724 hw) (wd hw 723 rfl) (wd hw 725 rfl) (W706 hw) (by decide) (rm_au78_isFact l Z a0 EL G a19 x18 h25 C25.old F25_0_1) (fun _ => rfl) rfl E25_0 all0 (by decide) (by decide) (by decide) (by decide) (lenOf pd_28295a rfl) rfl (nb rfl) rfl at_113 (pc' := 116) rfl ?_
      intro vm30 T30 h30 v30 C30 A30 M30 q30
      obtain ⟨rfl, rfl⟩ := q30
      refine C30.iLk at_116 rfl (C30.cN at_118 (XT.ii_ne_f (by decide)) (C30.ic (z := 1) at_121 rfl (C30.go (pc' := 126) at_122 (by decide) rfl ?_)))
      exact C30.retI (t := .boolean) rfl (by simp) rfl at_126 (by decide) (by decide) rfl
    · refine C16.fN at_72 (XT.i0_eq_f c17) (C16.ic (z := 1) at_75 rfl (C16.go (pc' := 80) at_76 (by decide) rfl (C16.iSk at_80 (l' := #[.val (.int i0), .val (.int i1), .val (.int i2), .val (.int i3), .val (.ref a1), .val (.ref a4), .val (.ref a9), .val (.ref a12), .val (.int 1), .unset, .unset]) rfl (C16.iLk at_82 rfl (C16.fN at_84 (XT.i0_eq_f (by decide)) (C16.nu at_87 (C16.go (pc' := 94) at_88 (by decide) rfl (C16.aSk at_94 rfl (l' := #[.val (.int i0), .val (.int i1), .val (.int i2), .val (.int i3), .val (.ref a1), .val (.ref a4), .val (.ref a9), .val (.ref a12), .val (.int 1), .val .null, .unset]) rfl ?_))))))))
      refine C16.new (wd hw 704 rfl) (W705 hw) (W706 hw) at_96 (pc' := 99) rfl (by decide) (by decide) ?_
      intro T31 h31 a31 C31 K31 A31 ge31 zg31 E31 D31 S31
      refine C31.du at_99 rfl (C31.aLk at_100 rfl rfl (C31.aLk at_102 rfl rfl (C31.aLk at_104 rfl rfl ?_)))
      have f32 : Fld Z h31 a31 "com/example/dique/dique/query/TableRef" "alias" "Ljava/lang/String;" .null := D31 (Or.inr (W718 hw)) (ty := (.object "java/lang/String")) (by decide)
      have f33 : Fld Z h31 a31 "com/example/dique/dique/query/TableRef" "dimension" "Lcom/example/dique/dique/model/Dimension;" .null := D31 (Or.inr (W720 hw)) (ty := (.object "com/example/dique/dique/model/Dimension")) (by decide)
      have f34 : Fld Z h31 a31 "com/example/dique/dique/query/TableRef" "name" "Ljava/lang/String;" .null := D31 (Or.inr (W716 hw)) (ty := (.object "java/lang/String")) (by decide)
      refine C31.special (y := ⟨"com/example/dique/dique/query/TableRef", "<init>", "(Ljava/lang/String;Ljava/lang/String;Lcom/example/dique/dique/model/Dimension;)V"⟩) (W := 1) rfl (wd hw 707 rfl) (wd hw 708 rfl) (wd hw 709 rfl) (W706 hw) (by decide) (rm_au76_init l Z a0 EL G a31 a4 (.ref a12) rfl .null rfl h31 C31.old E31 f32 f33 f34 zg31) (fun z => nomatch z) rfl all0 (by decide) (by decide) (by decide) (by decide) (lenOf pd_48 rfl) rfl (nb rfl) rfl at_106 (pc' := 109) rfl ?_
      intro vm35 T35 h35 v35 C35 A35 M35 q35
      obtain ⟨rfl, K35, E35_0, F35_0_0, F35_0_1, F35_0_2⟩ := q35
      refine C35.aSk at_109 rfl (l' := #[.val (.int i0), .val (.int i1), .val (.int i2), .val (.int i3), .val (.ref a1), .val (.ref a4), .val (.ref a9), .val (.ref a12), .val (.int 1), .val .null, .val (.ref a31)]) rfl (C35.aLk at_111 rfl rfl ?_)
      refine C35.virtual (W := 0) (wd hw 721 rfl) (wd hw 722 rfl) (fun _ q => notFace_of_selects (args := #[]) (mvT q (W724 hw))) (W724 hw) (wd hw 723 rfl) (wd hw 725 rfl) (W706 hw) (by decide) (rm_au79_isFact l Z a0 EL G a31 h35 C35.old F35_0_1) (fun _ => rfl) rfl E35_0 all0 (by decide) (by decide) (by decide) (by decide) (lenOf pd_28295a rfl) rfl (nb rfl) rfl at_113 (pc' := 116) rfl ?_
      intro vm41 T41 h41 v41 C41 A41 M41 q41
      obtain ⟨rfl, rfl⟩ := q41
      refine C41.iLk at_116 rfl (C41.cN at_118 (XT.ii_ne_f (by decide)) (C41.ic (z := 1) at_121 rfl (C41.go (pc' := 126) at_122 (by decide) rfl ?_)))
      exact C41.retI (t := .boolean) rfl (by simp) rfl at_126 (by decide) (by decide) rfl
  · refine C10.fN at_51 (XT.i0_eq_f c11) (C10.nu at_54 (C10.go (pc' := 67) at_55 (by decide) rfl (C10.aSk at_67 rfl (l' := #[.val (.int i0), .val (.int i1), .val (.int i2), .val (.int i3), .val (.ref a1), .val (.ref a4), .val (.ref a9), .val .null, .unset, .unset, .unset]) rfl (C10.iL at_69 rfl (C10.ic (z := 2) at_70 rfl (C10.an (z := (i3 &&& (2 : Int32))) at_71 rfl ?_))))))
    by_cases c42 : (i3 &&& (2 : Int32)) = (0 : Int32)
    · refine C10.fY (pc' := 79) at_72 (XT.i0_eq_t c42) (by decide) rfl (C10.ic (z := 0) at_79 rfl (C10.iSk at_80 (l' := #[.val (.int i0), .val (.int i1), .val (.int i2), .val (.int i3), .val (.ref a1), .val (.ref a4), .val (.ref a9), .val .null, .val (.int 0), .unset, .unset]) rfl (C10.iLk at_82 rfl (C10.fY (pc' := 91) at_84 (XT.i0_eq_t (by decide)) (by decide) rfl ?_))))
      refine C10.static (W := 0) (wd hw 30 rfl) (wd hw 31 rfl) (wd hw 33 rfl) (wd hw 32 rfl) (by decide) (rm_dim l Z a0 EL G h10 C10.old) (fun z => nomatch z) rfl all0 (by decide) (by decide) (by decide) (by decide) (lenOf pd_2 rfl) rfl (nb rfl) rfl at_91 (pc' := 94) rfl ?_
      intro vm43 T43 h43 v43 C43 A43 M43 q43
      obtain ⟨x43, rfl, K43⟩ := q43
      refine C43.aSk at_94 rfl (l' := #[.val (.int i0), .val (.int i1), .val (.int i2), .val (.int i3), .val (.ref a1), .val (.ref a4), .val (.ref a9), .val .null, .val (.int 0), .val (.ref x43), .unset]) rfl ?_
      refine C43.new (wd hw 704 rfl) (W705 hw) (W706 hw) at_96 (pc' := 99) rfl (by decide) (by decide) ?_
      intro T44 h44 a44 C44 K44 A44 ge44 zg44 E44 D44 S44
      refine C44.du at_99 rfl (C44.aLk at_100 rfl rfl (C44.aLk at_102 rfl rfl (C44.aLk at_104 rfl rfl ?_)))
      have f45 : Fld Z h44 a44 "com/example/dique/dique/query/TableRef" "alias" "Ljava/lang/String;" .null := D44 (Or.inr (W718 hw)) (ty := (.object "java/lang/String")) (by decide)
      have f46 : Fld Z h44 a44 "com/example/dique/dique/query/TableRef" "dimension" "Lcom/example/dique/dique/model/Dimension;" .null := D44 (Or.inr (W720 hw)) (ty := (.object "com/example/dique/dique/model/Dimension")) (by decide)
      have f47 : Fld Z h44 a44 "com/example/dique/dique/query/TableRef" "name" "Ljava/lang/String;" .null := D44 (Or.inr (W716 hw)) (ty := (.object "java/lang/String")) (by decide)
      refine C44.special (y := ⟨"com/example/dique/dique/query/TableRef", "<init>", "(Ljava/lang/String;Ljava/lang/String;Lcom/example/dique/dique/model/Dimension;)V"⟩) (W := 1) rfl (wd hw 707 rfl) (wd hw 708 rfl) (wd hw 709 rfl) (W706 hw) (by decide) (rm_au76_init l Z a0 EL G a44 a4 .null rfl (.ref x43) rfl h44 C44.old E44 f45 f46 f47 zg44) (fun z => nomatch z) rfl all0 (by decide) (by decide) (by decide) (by decide) (lenOf pd_48 rfl) rfl (nb rfl) rfl at_106 (pc' := 109) rfl ?_
      intro vm48 T48 h48 v48 C48 A48 M48 q48
      obtain ⟨rfl, K48, E48_0, F48_0_0, F48_0_1, F48_0_2⟩ := q48
      refine C48.aSk at_109 rfl (l' := #[.val (.int i0), .val (.int i1), .val (.int i2), .val (.int i3), .val (.ref a1), .val (.ref a4), .val (.ref a9), .val .null, .val (.int 0), .val (.ref x43), .val (.ref a44)]) rfl (C48.aLk at_111 rfl rfl ?_)
      refine C48.virtual (W := 0) (wd hw 721 rfl) (wd hw 722 rfl) (fun _ q => notFace_of_selects (args := #[]) (mvT q (W724 hw))) (W724 hw) (wd hw 723 rfl) (wd hw 725 rfl) (W706 hw) (by decide) (rm_au78_isFact l Z a0 EL G a44 x43 h48 C48.old F48_0_1) (fun _ => rfl) rfl E48_0 all0 (by decide) (by decide) (by decide) (by decide) (lenOf pd_28295a rfl) rfl (nb rfl) rfl at_113 (pc' := 116) rfl ?_
      intro vm49 T49 h49 v49 C49 A49 M49 q49
      obtain ⟨rfl, rfl⟩ := q49
      refine C49.iLk at_116 rfl (C49.cN at_118 (XT.ii_ne_f (by decide)) (C49.ic (z := 1) at_121 rfl (C49.go (pc' := 126) at_122 (by decide) rfl ?_)))
      exact C49.retI (t := .boolean) rfl (by simp) rfl at_126 (by decide) (by decide) rfl
    · refine C10.fN at_72 (XT.i0_eq_f c42) (C10.ic (z := 1) at_75 rfl (C10.go (pc' := 80) at_76 (by decide) rfl (C10.iSk at_80 (l' := #[.val (.int i0), .val (.int i1), .val (.int i2), .val (.int i3), .val (.ref a1), .val (.ref a4), .val (.ref a9), .val .null, .val (.int 1), .unset, .unset]) rfl (C10.iLk at_82 rfl (C10.fN at_84 (XT.i0_eq_f (by decide)) (C10.nu at_87 (C10.go (pc' := 94) at_88 (by decide) rfl (C10.aSk at_94 rfl (l' := #[.val (.int i0), .val (.int i1), .val (.int i2), .val (.int i3), .val (.ref a1), .val (.ref a4), .val (.ref a9), .val .null, .val (.int 1), .val .null, .unset]) rfl ?_))))))))
      refine C10.new (wd hw 704 rfl) (W705 hw) (W706 hw) at_96 (pc' := 99) rfl (by decide) (by decide) ?_
      intro T50 h50 a50 C50 K50 A50 ge50 zg50 E50 D50 S50
      refine C50.du at_99 rfl (C50.aLk at_100 rfl rfl (C50.aLk at_102 rfl rfl (C50.aLk at_104 rfl rfl ?_)))
      have f51 : Fld Z h50 a50 "com/example/dique/dique/query/TableRef" "alias" "Ljava/lang/String;" .null := D50 (Or.inr (W718 hw)) (ty := (.object "java/lang/String")) (by decide)
      have f52 : Fld Z h50 a50 "com/example/dique/dique/query/TableRef" "dimension" "Lcom/example/dique/dique/model/Dimension;" .null := D50 (Or.inr (W720 hw)) (ty := (.object "com/example/dique/dique/model/Dimension")) (by decide)
      have f53 : Fld Z h50 a50 "com/example/dique/dique/query/TableRef" "name" "Ljava/lang/String;" .null := D50 (Or.inr (W716 hw)) (ty := (.object "java/lang/String")) (by decide)
      refine C50.special (y := ⟨"com/example/dique/dique/query/TableRef", "<init>", "(Ljava/lang/String;Ljava/lang/String;Lcom/example/dique/dique/model/Dimension;)V"⟩) (W := 1) rfl (wd hw 707 rfl) (wd hw 708 rfl) (wd hw 709 rfl) (W706 hw) (by decide) (rm_au76_init l Z a0 EL G a50 a4 .null rfl .null rfl h50 C50.old E50 f51 f52 f53 zg50) (fun z => nomatch z) rfl all0 (by decide) (by decide) (by decide) (by decide) (lenOf pd_48 rfl) rfl (nb rfl) rfl at_106 (pc' := 109) rfl ?_
      intro vm54 T54 h54 v54 C54 A54 M54 q54
      obtain ⟨rfl, K54, E54_0, F54_0_0, F54_0_1, F54_0_2⟩ := q54
      refine C54.aSk at_109 rfl (l' := #[.val (.int i0), .val (.int i1), .val (.int i2), .val (.int i3), .val (.ref a1), .val (.ref a4), .val (.ref a9), .val .null, .val (.int 1), .val .null, .val (.ref a50)]) rfl (C54.aLk at_111 rfl rfl ?_)
      refine C54.virtual (W := 0) (wd hw 721 rfl) (wd hw 722 rfl) (fun _ q => notFace_of_selects (args := #[]) (mvT q (W724 hw))) (W724 hw) (wd hw 723 rfl) (wd hw 725 rfl) (W706 hw) (by decide) (rm_au79_isFact l Z a0 EL G a50 h54 C54.old F54_0_1) (fun _ => rfl) rfl E54_0 all0 (by decide) (by decide) (by decide) (by decide) (lenOf pd_28295a rfl) rfl (nb rfl) rfl at_113 (pc' := 116) rfl ?_
      intro vm55 T55 h55 v55 C55 A55 M55 q55
      obtain ⟨rfl, rfl⟩ := q55
      refine C55.iLk at_116 rfl (C55.cN at_118 (XT.ii_ne_f (by decide)) (C55.ic (z := 1) at_121 rfl (C55.go (pc' := 126) at_122 (by decide) rfl ?_)))
      exact C55.retI (t := .boolean) rfl (by simp) rfl at_126 (by decide) (by decide) rfl
end Walks
set_option maxRecDepth 65536 in
set_option maxHeartbeats 40000000 in
theorem comes_1 {Post : Tables → Env → Array Value → State → Outcome → State → Prop} (hpost : ∀ tb e args s v u, (limb_1_1.after args s (.returned v) u = true ∧ limb_1_2.after args s (.returned v) u = true ∧ True) → FramedW s (.returned v) u (Jvm.fieldLocs frame_1_writes args s ++ Jvm.arrayLocs frame_1_arrays args s ++ Jvm.staticLocs frame_1_statics s) 192 19776 → Post tb e args s (.returned v) u) :
    ArmFor flags0 classFile x code maxLocals ret World_1 tables_1 room_1 Calls_1 rest_1 Pre_1 Post := by
  intro l hfl _ _ p e ha hc hk s m args below hf hA hF happ hP
  obtain ⟨hcalls, hrest, hpre⟩ := hP
  obtain ⟨-, -, -, hnamed, -, -, -, hat⟩ := (Spec.applies_iff hf).mp happ
  obtain ⟨hg, hn⟩ := and_e (Cond.before_iff.mp (show (Jvm.Cond.and given_1 narrow_1).before args s = true from hpre))
  obtain ⟨h1, g0⟩ := and_e hg
  obtain ⟨a0, g1⟩ := and_e g0
  obtain ⟨a1, g2⟩ := and_e g1
  obtain ⟨a2, g3⟩ := and_e g2
  have a3 := g3
  obtain ⟨w0, w1, w2, w3, rfl⟩ : ∃ w0 w1 w2 w3 : Value, args = #[w0, w1, w2, w3] := by
    have hs : args.size = 4 := by simpa [Cond.value, given_1] using h1
    obtain ⟨L⟩ := args
    match L, hs with
    | [w0, w1, w2, w3], _ => exact ⟨w0, w1, w2, w3, rfl⟩
  have hw := fun d (hd : d ∈ tables_1) => atoms_spec (ws := Jvm.Cond.code x code maxLocals ret :: tables_1) hat d (List.mem_cons_of_mem _ hd)
  obtain ⟨hsets, hown0⟩ := atoms_of _ (rest_1_c_eq ▸ (show rest_1_c.before _ s = true from hrest))
  obtain ⟨i0, e0⟩ := is_v a0
  obtain rfl : w0 = (.int i0) := Option.some.inj e0
  obtain ⟨i1, e1⟩ := is_v a1
  obtain rfl : w1 = (.int i1) := Option.some.inj e1
  obtain ⟨i2, e2⟩ := is_v a2
  obtain rfl : w2 = (.int i2) := Option.some.inj e2
  obtain ⟨i3, e3⟩ := is_v a3
  obtain rfl : w3 = (.int i3) := Option.some.inj e3
  have n5 := not_v (Cond.before_iff.mp (hsets _ (List.mem_of_getElem? (i := 2) rfl)))
  obtain ⟨zc, ec⟩ := is_v (Cond.before_iff.mp (hsets _ (List.mem_of_getElem? (i := 1) rfl)))
  have Sc : Sta s s.heap "java/lang/String" "COMPACT_STRINGS" "Z" (.int zc) := Sta.start ec (Or.inl (hsets _ (List.mem_of_getElem? (i := 0) rfl)))
  have hzc : ¬ (zc = (0 : Int32)) := gotF (Cond.eq_ints ec (Term.int_eval (0))) n5
  obtain ⟨vf, ef, rf⟩ := isR_v (Cond.before_iff.mp (hsets _ (List.mem_of_getElem? (i := 8) rfl)))
  have Sf : Sta s s.heap "jdk/internal/util/Preconditions" "SIOOBE_FORMATTER" "Ljava/util/function/BiFunction;" vf := Sta.start ef (Or.inl (hsets _ (List.mem_of_getElem? (i := 7) rfl)))
  have hFit : RoadKit.Fit s := fun {_ _} hx {_} hi => (heapFits'_iff s).mp hF _ _ hx _ _ (Array.getElem?_eq_getElem hi)
  have g_s1 : Sta s s.heap "java/util/ArrayList" "DEFAULTCAPACITY_EMPTY_ELEMENTDATA" "[Ljava/lang/Object;" (.ref (sDE s)) := Sta.start (own_sR (Cond.before_iff.mp (hsets _ (List.mem_of_getElem? (i := 16) rfl)))) (Or.inr ⟨(W36 hw), (hsets _ (List.mem_of_getElem? (i := 11) rfl))⟩)
  have g_s2 : Sta s s.heap "java/lang/CharacterDataLatin1" "instance" "Ljava/lang/CharacterDataLatin1;" (.ref (sCI s)) := Sta.start (own_sR (Cond.before_iff.mp (hsets _ (List.mem_of_getElem? (i := 20) rfl)))) (Or.inl (hsets _ (List.mem_of_getElem? (i := 19) rfl)))
  have g_s3 : Sta s s.heap "java/lang/CharacterDataLatin1" "A" "[I" (.ref (sCA s)) := Sta.start (own_sR (Cond.before_iff.mp (hsets _ (List.mem_of_getElem? (i := 24) rfl)))) (Or.inl (hsets _ (List.mem_of_getElem? (i := 22) rfl)))
  have g_s4 : Sta s s.heap "java/util/ImmutableCollections" "EMPTY" "Ljava/lang/Object;" (.ref (sEM s)) := Sta.start (own_sR (Cond.before_iff.mp (hsets _ (List.mem_of_getElem? (i := 284) rfl)))) (Or.inl (hsets _ (List.mem_of_getElem? (i := 283) rfl)))
  have g_s5 : Sta s s.heap "java/util/ImmutableCollections" "EMPTY_LIST" "Ljava/util/ImmutableCollections$ListN;" (.ref (sEL s)) := Sta.start (own_sR (Cond.before_iff.mp (hsets _ (List.mem_of_getElem? (i := 290) rfl)))) (Or.inl (hsets _ (List.mem_of_getElem? (i := 289) rfl)))
  have g_t1 : Exa s s.heap (sDE s) "[Ljava/lang/Object;" := Exa.start (own_sR (Cond.before_iff.mp (hsets _ (List.mem_of_getElem? (i := 16) rfl)))) (Cond.before_iff.mp (hsets _ (List.mem_of_getElem? (i := 16) rfl)))
  have g_t2 : Arv s s.heap (sDE s) (own_ka s (sDE s)) (.object "java/lang/Object") (0 : Int32) [] .null := own_arv hFit (own_sR (Cond.before_iff.mp (hsets _ (List.mem_of_getElem? (i := 16) rfl)))) (Cond.before_iff.mp (hsets _ (List.mem_of_getElem? (i := 15) rfl))) (own_eqInt (Cond.before_iff.mp (hsets _ (List.mem_of_getElem? (i := 17) rfl)))) (by decide) rfl (by decide) (fun i hi => absurd hi (Nat.not_lt_zero _))
  have g_t3 : Exa s s.heap (sCI s) "java/lang/CharacterDataLatin1" := Exa.start (own_sR (Cond.before_iff.mp (hsets _ (List.mem_of_getElem? (i := 20) rfl)))) (Cond.before_iff.mp (hsets _ (List.mem_of_getElem? (i := 20) rfl)))
  have g_t4 : Arv s s.heap (sCA s) (own_ka s (sCA s)) .int (256 : Int32) own_tab (.int 0) := own_arv hFit (own_sR (Cond.before_iff.mp (hsets _ (List.mem_of_getElem? (i := 24) rfl)))) (Cond.before_iff.mp (hsets _ (List.mem_of_getElem? (i := 23) rfl))) (own_eqInt (Cond.before_iff.mp (hsets _ (List.mem_of_getElem? (i := 25) rfl)))) (by decide) (by decide +kernel) (by decide +kernel) (fun i hi => (own_eqInt (Cond.before_iff.mp (hsets _ (List.mem_of_getElem? (own_tabW i hi))))).trans (own_mapG own_tabI hi).symm)
  have g_t5 : Exa s s.heap (sEM s) "java/lang/Object" := Exa.start (own_sR (Cond.before_iff.mp (hsets _ (List.mem_of_getElem? (i := 284) rfl)))) (Cond.before_iff.mp (hsets _ (List.mem_of_getElem? (i := 284) rfl)))
  have g_t6 : Exa s s.heap (sEL s) "java/util/ImmutableCollections$ListN" := Exa.start (own_sR (Cond.before_iff.mp (hsets _ (List.mem_of_getElem? (i := 290) rfl)))) (Cond.before_iff.mp (hsets _ (List.mem_of_getElem? (i := 290) rfl)))
  have g_t7 : Fld s s.heap (sEL s) "java/util/ImmutableCollections$ListN" "elements" "[Ljava/lang/Object;" (.ref (sEE s)) := own_fF (own_sR (Cond.before_iff.mp (hsets _ (List.mem_of_getElem? (i := 290) rfl)))) (own_fR (Cond.before_iff.mp (hsets _ (List.mem_of_getElem? (i := 295) rfl))))
  have g_t8 : Fld s s.heap (sEL s) "java/util/ImmutableCollections$ListN" "allowNulls" "Z" (.int (0 : Int32)) := own_fF (own_sR (Cond.before_iff.mp (hsets _ (List.mem_of_getElem? (i := 290) rfl)))) (own_eqInt (Cond.before_iff.mp (hsets _ (List.mem_of_getElem? (i := 297) rfl))))
  have g_t9 : Exa s s.heap (sEE s) "[Ljava/lang/Object;" := Exa.start (own_fR (Cond.before_iff.mp (hsets _ (List.mem_of_getElem? (i := 295) rfl)))) (Cond.before_iff.mp (hsets _ (List.mem_of_getElem? (i := 295) rfl)))
  have g_t10 : Arv s s.heap (sEE s) (own_ka s (sEE s)) (.object "java/lang/Object") (0 : Int32) [] .null := own_arv hFit (own_fR (Cond.before_iff.mp (hsets _ (List.mem_of_getElem? (i := 295) rfl)))) (Cond.before_iff.mp (hsets _ (List.mem_of_getElem? (i := 294) rfl))) (own_eqInt (Cond.before_iff.mp (hsets _ (List.mem_of_getElem? (i := 296) rfl)))) (by decide) rfl (by decide) (fun i hi => absurd hi (Nat.not_lt_zero _))
  have g_m1 : Mi s "[Ljava/lang/Object;" (sMO s) := (by obtain ⟨c_, k_, m_, q1, q2, q3, -⟩ := hcalls.1; exact own_mi ⟨c_, k_, m_, q1, q2, q3⟩)
  have g_ad : Sta s s.heap "java/util/ImmutableCollections" "$assertionsDisabled" "Z" (.int 1) := Sta.start (own_eqInt (Cond.before_iff.mp (hsets _ (List.mem_of_getElem? (i := 287) rfl)))) (Or.inl (hsets _ (List.mem_of_getElem? (i := 286) rfl)))
  have hEW : EW s #[(.int i0), (.int i1), (.int i2), (.int i3)] consts_1 := (EW.cons (W473 hw) (by decide) (EW.cons (W477 hw) (by decide) (EW.cons (W481 hw) (by decide) (EW.cons (W482 hw) (by decide) (EW.cons (W527 hw) (by decide) (EW.cons (W491 hw) (by decide) (EW.cons (W516 hw) (by decide) (EW.cons (W662 hw) (by decide) (EW.cons (W663 hw) (by decide) (EW.cons (W105 hw) (by decide) (EW.cons (W366 hw) (by decide) (EW.cons (W711 hw) (by decide) (EW.cons (W58 hw) (by decide) (EW.cons (W95 hw) (by decide) (EW.cons (W465 hw) (by decide) (EW.cons (W466 hw) (by decide) (EW.cons (W467 hw) (by decide) (EW.cons (W468 hw) (by decide) EW.nil))))))))))))))))))
  have hG : Glob s #[(.int i0), (.int i1), (.int i2), (.int i3)] consts_1 := ⟨hw, hEW, rfl, ⟨zc, Sc, hzc⟩, ⟨vf, Sf, rf⟩, g_s1, g_s2, g_s3, g_s4, g_s5, g_t1, g_t2, g_t3, g_t4, g_t5, g_t6, g_t7, g_t8, g_t9, g_t10, g_m1, g_ad⟩
  have hCH : CHv s consts_1 s.vm s.heap := CHv.start hEW hcalls.2.1 (hsets _ (List.mem_of_getElem? (i := 2) rfl)) (W19 hw) (W2 hw)
  obtain ⟨n, o, h1, h2, h3, v, L, rfl, ⟨rfl, N, -⟩, ⟨-, hwm⟩, hq⟩ := rm_law l s _ consts_1 hG i0 i1 i2 i3 s.heap ⟨Nat.le_refl _, fun _ _ q => q⟩ p e ha hc hk s m _ below hf ((Spec.applies_iff_loose hf).mp happ).1 ⟨rfl, State.Warmed39.refl s, rfl, hCH, all0⟩ trivial
  refine ⟨n, _, h1, h2, h3, hpost _ _ _ _ _ _ ⟨Cond.after_iff.mpr rfl, Cond.after_iff.mpr (eq_i res_at (Term.int_eval (1)) rfl), trivial⟩ ⟨hq.1, hq.2.1, hq.2.2.1, (hq.2.2.2.sift fun y hy => Or.inr (N y hy)).mono (by decide) (by decide)⟩⟩
theorem main_1_1 : Claimed_1_1 := comes_1 fun _ _ _ _ _ _ h hF => ⟨h.1, hF⟩
theorem main_1_2 : Claimed_1_2 := comes_1 fun _ _ _ _ _ _ h hF => ⟨h.2.1, hF⟩
end Jvm.Pilot.@@N@@
namespace Jvm.Pilot.@@N@@
open Jvm Jvm.ClassFile Sem Op Lib Jvm.Free Jvm.Stand Jvm.Pilot.@@N@@.Jvm.D
namespace start1
open Jvm.ClassFile
def u (s : String) : CpInfo := .utf8 (stringToUtf16 s)
def gap : Nat → List CpInfo → List CpInfo
  | 0, r => r
  | n + 1, r => .unusable :: gap n r
def poolList (es : List (Nat × CpInfo)) (last : Nat) : List CpInfo := es.foldr (fun e r => gap e.1 (e.2 :: r)) (gap last [])
def pool (es : List (Nat × CpInfo)) (last : Nat) : Array CpInfo := ⟨poolList es last⟩
def fileOf (pool : Array CpInfo) (this : Nat) (attrs : Array Attribute := #[]) (ms : Array MethodInfo := #[]) (fl : Nat := 33) (sup : Nat := 0) (ifs : Array Nat := #[]) (fds : Array FieldInfo := #[]) : ClassFile where
  minorVersion := 0
  majorVersion := 65
  constantPool := pool
  accessFlags := fl
  thisClass := this
  superClass := sup
  interfaces := ifs
  fields := fds
  methods := ms
  attributes := attrs
def plain (name : String) (sup : Option ClassId) : Class where
  name := name
  kind := .ordinary
  loader := none
  accessFlags := 33
  super := sup
  interfaces := #[]
  cf := none
  fields := #[]
  methods := #[]
  instanceTypes := #[]
  staticTypes := #[]
  resolved := #[]
  callSites := []
  init := .initialized
  statics := none
  mirror := none

def pool0 : Array CpInfo := pool [(5, u "<init>"), (0, u "()V"), (1, .class_ 10), (1, u "java/lang/Object"), (0, u "getClass"), (0, u "()Ljava/lang/Class;"), (14, u "hashCode"), (0, u "()I"), (67, u "clone"), (0, u "()Ljava/lang/Object;")] 26

def k0c0 : Code := { maxStack := 0, maxLocals := 1, code := object_method_1_code, exceptionTable := #[], attributes := #[] }
def k0m0 : Method := { name := "<init>", desc := "()V", sig := { parameters := [], returnType := none }, accessFlags := 1, code := some k0c0 }
def k0m1 : Method := { name := "getClass", desc := "()Ljava/lang/Class;", sig := { parameters := [], returnType := some (.object "java/lang/Class") }, accessFlags := 273, code := none }
def k0m2 : Method := { name := "hashCode", desc := "()I", sig := { parameters := [], returnType := some .int }, accessFlags := 257, code := none }
def k0m3 : Method := { name := "clone", desc := "()Ljava/lang/Object;", sig := { parameters := [], returnType := some (.object "java/lang/Object") }, accessFlags := 260, code := none }
def k0 : Class := { plain "java/lang/Object" none with
  accessFlags := 33
  interfaces := #[]
  cf := some (fileOf pool0 8 #[] #[{ accessFlags := 1, nameIndex := 5, descriptorIndex := 6, attributes := #[] }, { accessFlags := 273, nameIndex := 11, descriptorIndex := 12, attributes := #[] }, { accessFlags := 257, nameIndex := 27, descriptorIndex := 28, attributes := #[] }, { accessFlags := 260, nameIndex := 96, descriptorIndex := 97, attributes := #[] }] 33 0 #[] #[])
  fields := #[]
  methods := #[k0m0, k0m1, k0m2, k0m3]
  instanceTypes := #[]
  staticTypes := #[]
  resolved := Array.replicate 124 none
  statics := none }

def pool1 : Array CpInfo := pool [(2, .class_ 4), (0, .nameAndType 5 6), (0, u "java/lang/Object"), (0, u "<init>"), (0, u "()V"), (0, .class_ 8), (0, u "java/util/ArrayList"), (0, .methodref 7 3), (0, .string 11), (0, u "c"), (0, .methodref 7 13), (0, .nameAndType 14 15), (0, u "add"), (0, u "(Ljava/lang/Object;)Z"), (0, .class_ 17), (0, u "com/example/dique/dique/model/Level"), (0, .string 19), (0, u "l"), (0, .methodref 16 21), (0, .nameAndType 5 22), (0, u "(Ljava/lang/String;Ljava/util/List;)V"), (0, .class_ 24), (0, u "com/example/dique/dique/model/Dimension"), (0, .string 26), (0, u "d"), (0, .string 28), (0, u "t"), (0, .string 30), (0, u "k"), (0, .string 32), (0, u "fk"), (0, .methodref 23 34), (0, .nameAndType 5 35), (0, u "(Ljava/lang/String;Ljava/lang/String;Ljava/lang/String;Ljava/lang/String;Ljava/util/List;Ljava/util/List;)V"), (0, .class_ 37), (0, u "java/lang/String"), (0, .methodref 36 39), (0, .nameAndType 5 40), (0, u "([C)V"), (0, .methodref 42 43), (0, .class_ 44), (0, .nameAndType 45 46), (0, u "com/example/dique/dique/query/TableRefIsFactPinLaw"), (0, u "dimension"), (0, u "()Lcom/example/dique/dique/model/Dimension;"), (0, .class_ 48), (0, u "com/example/dique/dique/query/TableRef"), (0, .methodref 47 50), (0, .nameAndType 5 51), (0, u "(Ljava/lang/String;Ljava/lang/String;Lcom/example/dique/dique/model/Dimension;)V"), (0, .methodref 47 53), (0, .nameAndType 54 55), (0, u "isFact"), (0, u "()Z"), (2, u "law"), (0, u "(IIII)Z")] 5

def k1m0 : Method := { name := "<init>", desc := "()V", sig := { parameters := [], returnType := none }, accessFlags := 2, code := none }
def k1c1 : Code := { maxStack := 8, maxLocals := 4, code := method_2_code, exceptionTable := #[], attributes := #[] }
def k1m1 : Method := { name := "dimension", desc := "()Lcom/example/dique/dique/model/Dimension;", sig := { parameters := [], returnType := some (.object "com/example/dique/dique/model/Dimension") }, accessFlags := 10, code := some k1c1 }
def k1c2 : Code := { maxStack := 5, maxLocals := 11, code := code, exceptionTable := #[], attributes := #[] }
def k1m2 : Method := { name := "law", desc := "(IIII)Z", sig := { parameters := [.int, .int, .int, .int], returnType := some .boolean }, accessFlags := 9, code := some k1c2 }
def k1 : Class := { plain "com/example/dique/dique/query/TableRefIsFactPinLaw" (some 0) with
  accessFlags := 49
  interfaces := #[]
  cf := some (fileOf pool1 42 #[] #[{ accessFlags := 2, nameIndex := 5, descriptorIndex := 6, attributes := #[] }, { accessFlags := 10, nameIndex := 45, descriptorIndex := 46, attributes := #[] }, { accessFlags := 9, nameIndex := 58, descriptorIndex := 59, attributes := #[] }] 49 2 #[] #[])
  fields := #[]
  methods := #[k1m0, k1m1, k1m2]
  instanceTypes := #[]
  staticTypes := #[]
  resolved := Array.replicate 65 none
  statics := none }

def pool2 : Array CpInfo := pool [(1, .class_ 2), (0, u "java/io/Serializable"), (0, .class_ 4), (0, u "java/lang/Object")] 2

def k2 : Class := { plain "java/io/Serializable" (some 0) with
  accessFlags := 1537
  interfaces := #[]
  cf := some (fileOf pool2 1 #[] #[] 1537 3 #[] #[])
  fields := #[]
  methods := #[]
  instanceTypes := #[]
  staticTypes := #[]
  resolved := Array.replicate 7 none
  statics := none }

def pool3 : Array CpInfo := pool [(1, .class_ 2), (0, u "java/lang/Comparable"), (0, .class_ 4), (0, u "java/lang/Object")] 7

def k3 : Class := { plain "java/lang/Comparable" (some 0) with
  accessFlags := 1537
  interfaces := #[]
  cf := some (fileOf pool3 1 #[] #[] 1537 3 #[] #[])
  fields := #[]
  methods := #[]
  instanceTypes := #[]
  staticTypes := #[]
  resolved := Array.replicate 12 none
  statics := none }

def pool4 : Array CpInfo := pool [(2, .class_ 4), (1, u "java/lang/CharSequence"), (42, .class_ 48), (0, u "java/lang/CharSequence$1CodePointIterator"), (10, .class_ 60), (0, u "java/lang/CharSequence$1CharIterator"), (5, .class_ 67), (0, u "java/lang/Object")] 63

def k4 : Class := { plain "java/lang/CharSequence" (some 0) with
  accessFlags := 1537
  interfaces := #[]
  cf := some (fileOf pool4 2 #[.nestMembers #[47, 59]] #[] 1537 66 #[] #[])
  fields := #[]
  methods := #[]
  instanceTypes := #[]
  staticTypes := #[]
  resolved := Array.replicate 131 none
  statics := none }

def pool5 : Array CpInfo := pool [(1, .class_ 2), (0, u "java/lang/constant/Constable"), (0, .class_ 4), (0, u "java/lang/Object")] 6

def k5 : Class := { plain "java/lang/constant/Constable" (some 0) with
  accessFlags := 1537
  interfaces := #[]
  cf := some (fileOf pool5 1 #[] #[] 1537 3 #[] #[])
  fields := #[]
  methods := #[]
  instanceTypes := #[]
  staticTypes := #[]
  resolved := Array.replicate 11 none
  statics := none }

def pool6 : Array CpInfo := pool [(1, .class_ 2), (0, u "java/lang/constant/ConstantDesc"), (0, .class_ 4), (0, u "java/lang/Object")] 32

def k6 : Class := { plain "java/lang/constant/ConstantDesc" (some 0) with
  accessFlags := 1537
  interfaces := #[]
  cf := some (fileOf pool6 1 #[] #[] 1537 3 #[] #[])
  fields := #[]
  methods := #[]
  instanceTypes := #[]
  staticTypes := #[]
  resolved := Array.replicate 37 none
  statics := none }

def pool7 : Array CpInfo := pool [(1, .methodref 2 3), (0, .class_ 4), (0, .nameAndType 5 6), (0, u "java/lang/Object"), (0, u "<init>"), (0, u "()V"), (2, .fieldref 10 11), (0, .class_ 12), (0, .nameAndType 13 14), (0, u "java/lang/String"), (0, u "value"), (0, u "[B"), (0, .fieldref 10 16), (0, .nameAndType 17 18), (0, u "coder"), (0, u "B"), (0, .fieldref 10 20), (0, .nameAndType 21 22), (0, u "hash"), (0, u "I"), (0, .fieldref 10 24), (0, .nameAndType 25 26), (0, u "hashIsZero"), (0, u "Z"), (0, .methodref 10 28), (0, .nameAndType 5 29), (0, u "([CIILjava/lang/Void;)V"), (8, .fieldref 10 39), (0, .nameAndType 40 26), (0, u "COMPACT_STRINGS"), (1, .class_ 44), (1, u "java/lang/StringUTF16"), (0, u "compress"), (1, .methodref 42 48), (0, .nameAndType 49 50), (0, u "coderFromArrayLen"), (0, u "([BI)B"), (3, .methodref 55 56), (0, .class_ 57), (0, .nameAndType 58 59), (0, u "java/util/Arrays"), (0, u "copyOfRange"), (0, u "([BII)[B"), (47, .class_ 109), (1, u "java/lang/StringLatin1"), (32, u "()Z"), (34, .methodref 42 178), (0, .nameAndType 45 179), (0, u "([CII)[B"), (13, .class_ 195), (1, u "java/lang/System"), (16, .methodref 193 213), (0, .nameAndType 214 215), (0, u "arraycopy"), (0, u "(Ljava/lang/Object;ILjava/lang/Object;II)V"), (118, u "()I"), (0, .methodref 10 336), (0, .nameAndType 17 337), (0, u "()B"), (2, u "()[B"), (22, u "([BI)C"), (27, u "(II)V"), (35, u "(I)C"), (36, u "()Ljava/lang/String;"), (24, .methodref 10 490), (0, .nameAndType 5 491), (0, u "(Ljava/lang/AbstractStringBuilder;Ljava/lang/Void;)V"), (0, .methodref 10 493), (0, .nameAndType 494 142), (0, u "isLatin1"), (0, .methodref 107 496), (0, .nameAndType 497 363), (0, u "charAt"), (3, u "checkIndex"), (3, .methodref 10 506), (0, .nameAndType 507 334), (0, u "length"), (24, u "getBytes"), (10, u "equals"), (5, .methodref 550 506), (0, .class_ 551), (0, u "java/lang/AbstractStringBuilder"), (0, .methodref 550 553), (0, .nameAndType 554 340), (0, u "getValue"), (18, u "(Ljava/lang/Object;)Z"), (1, .class_ 576), (0, u "java/lang/CharSequence"), (22, u "CASE_INSENSITIVE_ORDER"), (0, u "Ljava/util/Comparator;"), (27, .methodref 107 629), (0, .nameAndType 630 631), (0, u "hashCode"), (0, u "([B)I"), (1, .methodref 10 634), (0, .nameAndType 635 636), (0, u "indexOf"), (0, u "(II)I"), (0, .methodref 107 638), (0, .nameAndType 635 639), (0, u "([BIII)I"), (125, u "(I)I"), (55, u "([BIB)V"), (40, u "([B)Ljava/lang/String;"), (1, .methodref 107 865), (0, .nameAndType 866 862), (0, u "strip"), (9, .methodref 10 877), (0, .nameAndType 878 334), (0, u "indexOfNonWhitespace"), (45, .methodref 107 925), (0, .nameAndType 878 631), (26, u "isBlank"), (57, u "([C)V"), (36, .methodref 550 493), (5, .fieldref 1054 1055), (0, .class_ 1056), (0, .nameAndType 1057 1058), (0, u "jdk/internal/util/Preconditions"), (0, u "SIOOBE_FORMATTER"), (0, u "Ljava/util/function/BiFunction;"), (0, .methodref 1054 1060), (0, .nameAndType 501 1061), (0, u "(IILjava/util/function/BiFunction;)I"), (39, u "serialPersistentFields"), (0, u "[Ljava/io/ObjectStreamField;"), (0, .class_ 1104), (0, u "java/lang/String$CaseInsensitiveComparator"), (1, .class_ 1107), (0, u "java/io/Serializable"), (0, .class_ 1109), (0, u "java/lang/Comparable"), (0, .class_ 1111), (0, u "java/lang/constant/Constable"), (0, .class_ 1113), (0, u "java/lang/constant/ConstantDesc"), (2, u "serialVersionUID"), (0, u "J"), (3, u "REPL"), (0, u "C"), (2, u "LATIN1"), (1, u "UTF16"), (105, u "(Ljava/lang/StringBuilder;)V")] 217

def k7m0 : Method := { name := "<init>", desc := "()V", sig := { parameters := [], returnType := none }, accessFlags := 1, code := none }
def k7c1 : Code := { maxStack := 5, maxLocals := 2, code := jdk_42_method_3_code, exceptionTable := #[], attributes := #[] }
def k7m1 : Method := { name := "<init>", desc := "([C)V", sig := { parameters := [(.array .char)], returnType := none }, accessFlags := 1, code := some k7c1 }
def k7c2 : Code := { maxStack := 3, maxLocals := 2, code := jdk_42_method_53_code, exceptionTable := #[], attributes := #[] }
def k7m2 : Method := { name := "<init>", desc := "(Ljava/lang/StringBuilder;)V", sig := { parameters := [(.object "java/lang/StringBuilder")], returnType := none }, accessFlags := 1, code := some k7c2 }
def k7c3 : Code := { maxStack := 2, maxLocals := 1, code := jdk_42_method_54_code, exceptionTable := #[], attributes := #[] }
def k7m3 : Method := { name := "length", desc := "()I", sig := { parameters := [], returnType := some .int }, accessFlags := 1, code := some k7c3 }
def k7c4 : Code := { maxStack := 2, maxLocals := 2, code := jdk_42_method_56_code, exceptionTable := #[], attributes := #[] }
def k7m4 : Method := { name := "charAt", desc := "(I)C", sig := { parameters := [.int], returnType := some .char }, accessFlags := 1, code := some k7c4 }
def k7c5 : Code := { maxStack := 2, maxLocals := 3, code := jdk_42_method_66_code, exceptionTable := #[], attributes := #[] }
def k7m5 : Method := { name := "equals", desc := "(Ljava/lang/Object;)Z", sig := { parameters := [(.object "java/lang/Object")], returnType := some .boolean }, accessFlags := 1, code := some k7c5 }
def k7c6 : Code := { maxStack := 2, maxLocals := 2, code := jdk_42_method_78_code, exceptionTable := #[], attributes := #[] }
def k7m6 : Method := { name := "hashCode", desc := "()I", sig := { parameters := [], returnType := some .int }, accessFlags := 1, code := some k7c6 }
def k7c7 : Code := { maxStack := 3, maxLocals := 2, code := jdk_42_method_79_code, exceptionTable := #[], attributes := #[] }
def k7m7 : Method := { name := "indexOf", desc := "(I)I", sig := { parameters := [.int], returnType := some .int }, accessFlags := 1, code := some k7c7 }
def k7c8 : Code := { maxStack := 4, maxLocals := 3, code := jdk_42_method_80_code, exceptionTable := #[], attributes := #[] }
def k7m8 : Method := { name := "indexOf", desc := "(II)I", sig := { parameters := [.int, .int], returnType := some .int }, accessFlags := 1, code := some k7c8 }
def k7c9 : Code := { maxStack := 1, maxLocals := 2, code := jdk_42_method_114_code, exceptionTable := #[], attributes := #[] }
def k7m9 : Method := { name := "strip", desc := "()Ljava/lang/String;", sig := { parameters := [], returnType := some (.object "java/lang/String") }, accessFlags := 1, code := some k7c9 }
def k7c10 : Code := { maxStack := 2, maxLocals := 1, code := jdk_42_method_117_code, exceptionTable := #[], attributes := #[] }
def k7m10 : Method := { name := "isBlank", desc := "()Z", sig := { parameters := [], returnType := some .boolean }, accessFlags := 1, code := some k7c10 }
def k7c11 : Code := { maxStack := 1, maxLocals := 1, code := jdk_42_method_120_code, exceptionTable := #[], attributes := #[] }
def k7m11 : Method := { name := "indexOfNonWhitespace", desc := "()I", sig := { parameters := [], returnType := some .int }, accessFlags := 2, code := some k7c11 }
def k7c12 : Code := { maxStack := 5, maxLocals := 4, code := jdk_42_method_147_code, exceptionTable := #[], attributes := #[] }
def k7m12 : Method := { name := "getBytes", desc := "([BIB)V", sig := { parameters := [(.array .byte), .int, .byte], returnType := none }, accessFlags := 0, code := some k7c12 }
def k7c13 : Code := { maxStack := 4, maxLocals := 6, code := jdk_42_method_149_code, exceptionTable := #[], attributes := #[] }
def k7m13 : Method := { name := "<init>", desc := "([CIILjava/lang/Void;)V", sig := { parameters := [(.array .char), .int, .int, (.object "java/lang/Void")], returnType := none }, accessFlags := 2, code := some k7c13 }
def k7c14 : Code := { maxStack := 5, maxLocals := 5, code := jdk_42_method_150_code, exceptionTable := #[], attributes := #[] }
def k7m14 : Method := { name := "<init>", desc := "(Ljava/lang/AbstractStringBuilder;Ljava/lang/Void;)V", sig := { parameters := [(.object "java/lang/AbstractStringBuilder"), (.object "java/lang/Void")], returnType := none }, accessFlags := 0, code := some k7c14 }
def k7c15 : Code := { maxStack := 1, maxLocals := 1, code := jdk_42_method_152_code, exceptionTable := #[], attributes := #[] }
def k7m15 : Method := { name := "coder", desc := "()B", sig := { parameters := [], returnType := some .byte }, accessFlags := 0, code := some k7c15 }
def k7c16 : Code := { maxStack := 1, maxLocals := 1, code := jdk_42_method_154_code, exceptionTable := #[], attributes := #[] }
def k7m16 : Method := { name := "isLatin1", desc := "()Z", sig := { parameters := [], returnType := some .boolean }, accessFlags := 0, code := some k7c16 }
def k7c17 : Code := { maxStack := 3, maxLocals := 2, code := jdk_42_method_155_code, exceptionTable := #[], attributes := #[] }
def k7m17 : Method := { name := "checkIndex", desc := "(II)V", sig := { parameters := [.int, .int], returnType := none }, accessFlags := 8, code := some k7c17 }
def k7 : Class := { plain "java/lang/String" (some 0) with
  accessFlags := 49
  interfaces := #[2, 3, 4, 5, 6]
  cf := some (fileOf pool7 10 #[.nestMembers #[1103]] #[{ accessFlags := 1, nameIndex := 5, descriptorIndex := 6, attributes := #[] }, { accessFlags := 1, nameIndex := 5, descriptorIndex := 1010, attributes := #[] }, { accessFlags := 1, nameIndex := 5, descriptorIndex := 1233, attributes := #[] }, { accessFlags := 1, nameIndex := 507, descriptorIndex := 334, attributes := #[] }, { accessFlags := 1, nameIndex := 497, descriptorIndex := 427, attributes := #[] }, { accessFlags := 1, nameIndex := 543, descriptorIndex := 573, attributes := #[] }, { accessFlags := 1, nameIndex := 630, descriptorIndex := 334, attributes := #[] }, { accessFlags := 1, nameIndex := 635, descriptorIndex := 765, attributes := #[] }, { accessFlags := 1, nameIndex := 635, descriptorIndex := 636, attributes := #[] }, { accessFlags := 1, nameIndex := 866, descriptorIndex := 464, attributes := #[] }, { accessFlags := 1, nameIndex := 952, descriptorIndex := 142, attributes := #[] }, { accessFlags := 2, nameIndex := 878, descriptorIndex := 334, attributes := #[] }, { accessFlags := 0, nameIndex := 532, descriptorIndex := 821, attributes := #[] }, { accessFlags := 2, nameIndex := 5, descriptorIndex := 29, attributes := #[] }, { accessFlags := 0, nameIndex := 5, descriptorIndex := 491, attributes := #[] }, { accessFlags := 0, nameIndex := 17, descriptorIndex := 337, attributes := #[] }, { accessFlags := 0, nameIndex := 494, descriptorIndex := 142, attributes := #[] }, { accessFlags := 8, nameIndex := 501, descriptorIndex := 391, attributes := #[] }] 49 2 #[1106, 1108, 575, 1110, 1112] #[{ accessFlags := 18, nameIndex := 13, descriptorIndex := 14, attributes := #[] }, { accessFlags := 18, nameIndex := 17, descriptorIndex := 18, attributes := #[] }, { accessFlags := 2, nameIndex := 21, descriptorIndex := 22, attributes := #[] }, { accessFlags := 2, nameIndex := 25, descriptorIndex := 26, attributes := #[] }, { accessFlags := 26, nameIndex := 1116, descriptorIndex := 1117, attributes := #[] }, { accessFlags := 24, nameIndex := 40, descriptorIndex := 26, attributes := #[] }, { accessFlags := 26, nameIndex := 1101, descriptorIndex := 1102, attributes := #[] }, { accessFlags := 26, nameIndex := 1121, descriptorIndex := 1122, attributes := #[] }, { accessFlags := 25, nameIndex := 599, descriptorIndex := 600, attributes := #[] }, { accessFlags := 24, nameIndex := 1125, descriptorIndex := 18, attributes := #[] }, { accessFlags := 24, nameIndex := 1127, descriptorIndex := 18, attributes := #[] }])
  fields := #[{ name := "value", type := (.array .byte), accessFlags := 18, slot := 0, constantValue := 0 }, { name := "coder", type := .byte, accessFlags := 18, slot := 1, constantValue := 0 }, { name := "hash", type := .int, accessFlags := 2, slot := 2, constantValue := 0 }, { name := "hashIsZero", type := .boolean, accessFlags := 2, slot := 3, constantValue := 0 }, { name := "serialVersionUID", type := .long, accessFlags := 26, slot := 0, constantValue := 0 }, { name := "COMPACT_STRINGS", type := .boolean, accessFlags := 24, slot := 1, constantValue := 0 }, { name := "serialPersistentFields", type := (.array (.object "java/io/ObjectStreamField")), accessFlags := 26, slot := 2, constantValue := 0 }, { name := "REPL", type := .char, accessFlags := 26, slot := 3, constantValue := 0 }, { name := "CASE_INSENSITIVE_ORDER", type := (.object "java/util/Comparator"), accessFlags := 25, slot := 4, constantValue := 0 }, { name := "LATIN1", type := .byte, accessFlags := 24, slot := 5, constantValue := 0 }, { name := "UTF16", type := .byte, accessFlags := 24, slot := 6, constantValue := 0 }]
  methods := #[k7m0, k7m1, k7m2, k7m3, k7m4, k7m5, k7m6, k7m7, k7m8, k7m9, k7m10, k7m11, k7m12, k7m13, k7m14, k7m15, k7m16, k7m17]
  instanceTypes := #[(.array .byte), .byte, .int, .boolean]
  staticTypes := #[.long, .boolean, (.array (.object "java/io/ObjectStreamField")), .char, (.object "java/util/Comparator"), .byte, .byte]
  resolved := Array.replicate 1451 none
  statics := some 0 }

def pool8 : Array CpInfo := pool [(6, .class_ 8), (1, u "java/lang/Object"), (0, u "<init>"), (0, u "()V"), (1, .class_ 14), (1, u "java/lang/StringUTF16"), (31, u "$assertionsDisabled"), (0, u "Z"), (13, u "HI_BYTE_SHIFT"), (0, u "I"), (2, u "LO_BYTE_SHIFT"), (49, .methodref 12 116), (0, .nameAndType 117 118), (0, u "compress"), (0, u "([CI[BII)I"), (3, u "([CII)[B"), (138, u "coderFromArrayLen"), (0, u "([BI)B"), (106, .class_ 371), (1, u "java/lang/StringUTF16$LinesSpliterator"), (58, u "MAX_LENGTH"), (196, .class_ 628), (0, u "java/lang/StringUTF16$CodePointsSpliterator"), (0, .class_ 630), (0, u "java/lang/StringUTF16$CharsSpliterator")] 4

def k8m0 : Method := { name := "<init>", desc := "()V", sig := { parameters := [], returnType := none }, accessFlags := 0, code := none }
def k8c1 : Code := { maxStack := 2, maxLocals := 2, code := jdk_52_method_15_code, exceptionTable := #[], attributes := #[] }
def k8m1 : Method := { name := "coderFromArrayLen", desc := "([BI)B", sig := { parameters := [(.array .byte), .int], returnType := some .byte }, accessFlags := 8, code := some k8c1 }
def k8c2 : Code := { maxStack := 5, maxLocals := 6, code := jdk_52_method_16_code, exceptionTable := #[], attributes := #[] }
def k8m2 : Method := { name := "compress", desc := "([CII)[B", sig := { parameters := [(.array .char), .int, .int], returnType := some (.array .byte) }, accessFlags := 9, code := some k8c2 }
def k8c3 : Code := { maxStack := 3, maxLocals := 7, code := jdk_52_method_21_code, exceptionTable := #[], attributes := #[] }
def k8m3 : Method := { name := "compress", desc := "([CI[BII)I", sig := { parameters := [(.array .char), .int, (.array .byte), .int, .int], returnType := some .int }, accessFlags := 9, code := some k8c3 }
def k8 : Class := { plain "java/lang/StringUTF16" (some 0) with
  accessFlags := 48
  interfaces := #[]
  cf := some (fileOf pool8 12 #[.nestMembers #[627, 629, 369]] #[{ accessFlags := 0, nameIndex := 9, descriptorIndex := 10, attributes := #[] }, { accessFlags := 8, nameIndex := 261, descriptorIndex := 262, attributes := #[] }, { accessFlags := 9, nameIndex := 117, descriptorIndex := 122, attributes := #[] }, { accessFlags := 9, nameIndex := 117, descriptorIndex := 118, attributes := #[] }] 48 6 #[] #[{ accessFlags := 26, nameIndex := 61, descriptorIndex := 62, attributes := #[] }, { accessFlags := 26, nameIndex := 65, descriptorIndex := 62, attributes := #[] }, { accessFlags := 24, nameIndex := 430, descriptorIndex := 62, attributes := #[] }, { accessFlags := 4120, nameIndex := 46, descriptorIndex := 47, attributes := #[] }])
  fields := #[{ name := "HI_BYTE_SHIFT", type := .int, accessFlags := 26, slot := 0, constantValue := 0 }, { name := "LO_BYTE_SHIFT", type := .int, accessFlags := 26, slot := 1, constantValue := 0 }, { name := "MAX_LENGTH", type := .int, accessFlags := 24, slot := 2, constantValue := 0 }, { name := "$assertionsDisabled", type := .boolean, accessFlags := 4120, slot := 3, constantValue := 0 }]
  methods := #[k8m0, k8m1, k8m2, k8m3]
  instanceTypes := #[]
  staticTypes := #[.int, .int, .int, .boolean]
  resolved := Array.replicate 635 none
  statics := none }

def pool9 : Array CpInfo := pool [(8, .class_ 10), (1, u "java/lang/Iterable"), (24, .class_ 36), (0, u "java/lang/Object")] 25

def k9 : Class := { plain "java/lang/Iterable" (some 0) with
  accessFlags := 1537
  interfaces := #[]
  cf := some (fileOf pool9 8 #[] #[] 1537 35 #[] #[])
  fields := #[]
  methods := #[]
  instanceTypes := #[]
  staticTypes := #[]
  resolved := Array.replicate 62 none
  statics := none }

def pool10 : Array CpInfo := pool [(10, .class_ 12), (1, u "java/util/Collection"), (0, u "toArray"), (16, u "()Z"), (29, .class_ 61), (0, u "java/lang/Object"), (0, .class_ 63), (0, u "java/lang/Iterable"), (2, u "isEmpty"), (3, u "()[Ljava/lang/Object;")] 44

def k10m0 : Method := { name := "isEmpty", desc := "()Z", sig := { parameters := [], returnType := some .boolean }, accessFlags := 1025, code := none }
def k10m1 : Method := { name := "toArray", desc := "()[Ljava/lang/Object;", sig := { parameters := [], returnType := some (.array (.object "java/lang/Object")) }, accessFlags := 1025, code := none }
def k10 : Class := { plain "java/util/Collection" (some 0) with
  accessFlags := 1537
  interfaces := #[9]
  cf := some (fileOf pool10 10 #[] #[{ accessFlags := 1025, nameIndex := 66, descriptorIndex := 30, attributes := #[] }, { accessFlags := 1025, nameIndex := 13, descriptorIndex := 70, attributes := #[] }] 1537 60 #[62] #[])
  fields := #[]
  methods := #[k10m0, k10m1]
  instanceTypes := #[]
  staticTypes := #[]
  resolved := Array.replicate 115 none
  statics := none }

def pool11 : Array CpInfo := pool [(1, .methodref 2 3), (0, .class_ 4), (0, .nameAndType 5 6), (0, u "java/lang/Object"), (0, u "<init>"), (0, u "()V"), (1, .class_ 10), (1, u "java/util/AbstractCollection"), (0, u "size"), (0, u "()I"), (64, .class_ 78), (0, u "java/util/Collection")] 81

def k11c0 : Code := { maxStack := 1, maxLocals := 1, code := jdk_22_method_1_code, exceptionTable := #[], attributes := #[] }
def k11m0 : Method := { name := "<init>", desc := "()V", sig := { parameters := [], returnType := none }, accessFlags := 4, code := some k11c0 }
def k11m1 : Method := { name := "size", desc := "()I", sig := { parameters := [], returnType := some .int }, accessFlags := 1025, code := none }
def k11 : Class := { plain "java/util/AbstractCollection" (some 0) with
  accessFlags := 1057
  interfaces := #[10]
  cf := some (fileOf pool11 8 #[] #[{ accessFlags := 4, nameIndex := 5, descriptorIndex := 6, attributes := #[] }, { accessFlags := 1025, nameIndex := 11, descriptorIndex := 12, attributes := #[] }] 1057 2 #[77] #[])
  fields := #[]
  methods := #[k11m0, k11m1]
  instanceTypes := #[]
  staticTypes := #[]
  resolved := Array.replicate 160 none
  statics := none }

def pool12 : Array CpInfo := pool [(8, .class_ 10), (1, u "java/util/SequencedCollection"), (15, .class_ 27), (0, u "java/lang/Object"), (0, .class_ 29), (0, u "java/util/Collection")] 27

def k12 : Class := { plain "java/util/SequencedCollection" (some 0) with
  accessFlags := 1537
  interfaces := #[10]
  cf := some (fileOf pool12 8 #[] #[] 1537 26 #[28] #[])
  fields := #[]
  methods := #[]
  instanceTypes := #[]
  staticTypes := #[]
  resolved := Array.replicate 57 none
  statics := none }

def pool13 : Array CpInfo := pool [(8, .class_ 10), (1, u "java/util/List"), (7, u "()Z"), (12, u "(Ljava/lang/Object;)V"), (16, u "<init>"), (18, u "isEmpty"), (7, u "get"), (0, u "(I)Ljava/lang/Object;"), (11, u "of"), (1, .fieldref 91 92), (0, .class_ 93), (0, .nameAndType 94 95), (0, u "java/util/ImmutableCollections"), (0, u "EMPTY_LIST"), (0, u "Ljava/util/ImmutableCollections$ListN;"), (0, .class_ 97), (0, u "java/util/ImmutableCollections$List12"), (0, .methodref 96 99), (0, .nameAndType 48 31), (3, .class_ 104), (0, u "java/lang/Object"), (3, u "([Ljava/lang/Object;)Ljava/util/List;"), (3, .methodref 91 113), (0, .nameAndType 114 115), (0, u "listCopy"), (0, u "(Ljava/util/Collection;)Ljava/util/List;"), (3, u "()Ljava/util/List;"), (0, .class_ 121), (0, u "java/util/SequencedCollection"), (1, u "iterator"), (0, u "()Ljava/util/Iterator;"), (109, u "copyOf")] 16

def k13m0 : Method := { name := "isEmpty", desc := "()Z", sig := { parameters := [], returnType := some .boolean }, accessFlags := 1025, code := none }
def k13m1 : Method := { name := "iterator", desc := "()Ljava/util/Iterator;", sig := { parameters := [], returnType := some (.object "java/util/Iterator") }, accessFlags := 1025, code := none }
def k13m2 : Method := { name := "get", desc := "(I)Ljava/lang/Object;", sig := { parameters := [.int], returnType := some (.object "java/lang/Object") }, accessFlags := 1025, code := none }
def k13c3 : Code := { maxStack := 1, maxLocals := 0, code := jdk_40_method_36_code, exceptionTable := #[], attributes := #[] }
def k13m3 : Method := { name := "of", desc := "()Ljava/util/List;", sig := { parameters := [], returnType := some (.object "java/util/List") }, accessFlags := 9, code := some k13c3 }
def k13c4 : Code := { maxStack := 5, maxLocals := 2, code := jdk_40_method_47_code, exceptionTable := #[], attributes := #[] }
def k13m4 : Method := { name := "of", desc := "([Ljava/lang/Object;)Ljava/util/List;", sig := { parameters := [(.array (.object "java/lang/Object"))], returnType := some (.object "java/util/List") }, accessFlags := 137, code := some k13c4 }
def k13c5 : Code := { maxStack := 1, maxLocals := 1, code := jdk_40_method_48_code, exceptionTable := #[], attributes := #[] }
def k13m5 : Method := { name := "copyOf", desc := "(Ljava/util/Collection;)Ljava/util/List;", sig := { parameters := [(.object "java/util/Collection")], returnType := some (.object "java/util/List") }, accessFlags := 9, code := some k13c5 }
def k13 : Class := { plain "java/util/List" (some 0) with
  accessFlags := 1537
  interfaces := #[12]
  cf := some (fileOf pool13 8 #[] #[{ accessFlags := 1025, nameIndex := 67, descriptorIndex := 18, attributes := #[] }, { accessFlags := 1025, nameIndex := 123, descriptorIndex := 124, attributes := #[] }, { accessFlags := 1025, nameIndex := 75, descriptorIndex := 76, attributes := #[] }, { accessFlags := 9, nameIndex := 88, descriptorIndex := 119, attributes := #[] }, { accessFlags := 137, nameIndex := 88, descriptorIndex := 108, attributes := #[] }, { accessFlags := 9, nameIndex := 234, descriptorIndex := 115, attributes := #[] }] 1537 103 #[120] #[])
  fields := #[]
  methods := #[k13m0, k13m1, k13m2, k13m3, k13m4, k13m5]
  instanceTypes := #[]
  staticTypes := #[]
  resolved := Array.replicate 251 none
  statics := none }

def pool14 : Array CpInfo := pool [(1, .methodref 2 3), (0, .class_ 4), (0, .nameAndType 5 6), (0, u "java/util/AbstractCollection"), (0, u "<init>"), (0, u "()V"), (0, .fieldref 8 9), (0, .class_ 10), (0, .nameAndType 11 12), (0, u "java/util/AbstractList"), (0, u "modCount"), (0, u "I"), (64, .class_ 78), (0, u "java/util/AbstractList$Itr"), (3, .class_ 83), (0, u "java/util/AbstractList$ListItr"), (9, .class_ 94), (0, u "java/util/AbstractList$RandomAccessSubList"), (3, .class_ 99), (0, u "java/util/AbstractList$SubList"), (33, .class_ 134), (0, u "java/util/List"), (73, .class_ 209), (0, u "java/util/AbstractList$SubList$1"), (0, .class_ 211), (0, u "java/util/AbstractList$RandomAccessSpliterator")] 6

def k14c0 : Code := { maxStack := 2, maxLocals := 1, code := jdk_39_method_1_code, exceptionTable := #[], attributes := #[] }
def k14m0 : Method := { name := "<init>", desc := "()V", sig := { parameters := [], returnType := none }, accessFlags := 4, code := some k14c0 }
def k14 : Class := { plain "java/util/AbstractList" (some 11) with
  accessFlags := 1057
  interfaces := #[13]
  cf := some (fileOf pool14 8 #[.nestMembers #[93, 98, 208, 210, 82, 77]] #[{ accessFlags := 4, nameIndex := 5, descriptorIndex := 6, attributes := #[] }] 1057 2 #[133] #[{ accessFlags := 132, nameIndex := 11, descriptorIndex := 12, attributes := #[] }])
  fields := #[{ name := "modCount", type := .int, accessFlags := 132, slot := 0, constantValue := 0 }]
  methods := #[k14m0]
  instanceTypes := #[.int]
  staticTypes := #[]
  resolved := Array.replicate 218 none
  statics := none }

def pool15 : Array CpInfo := pool [(1, .class_ 2), (0, u "java/util/RandomAccess"), (0, .class_ 4), (0, u "java/lang/Object")] 2

def k15 : Class := { plain "java/util/RandomAccess" (some 0) with
  accessFlags := 1537
  interfaces := #[]
  cf := some (fileOf pool15 1 #[] #[] 1537 3 #[] #[])
  fields := #[]
  methods := #[]
  instanceTypes := #[]
  staticTypes := #[]
  resolved := Array.replicate 7 none
  statics := none }

def pool16 : Array CpInfo := pool [(1, .class_ 2), (0, u "java/lang/Cloneable"), (0, .class_ 4), (0, u "java/lang/Object")] 2

def k16 : Class := { plain "java/lang/Cloneable" (some 0) with
  accessFlags := 1537
  interfaces := #[]
  cf := some (fileOf pool16 1 #[] #[] 1537 3 #[] #[])
  fields := #[]
  methods := #[]
  instanceTypes := #[]
  staticTypes := #[]
  resolved := Array.replicate 7 none
  statics := none }

def pool17 : Array CpInfo := pool [(1, .methodref 2 3), (0, .class_ 4), (0, .nameAndType 5 6), (0, u "java/util/AbstractList"), (0, u "<init>"), (0, u "()V"), (0, .class_ 8), (0, u "java/lang/Object"), (0, .fieldref 10 11), (0, .class_ 12), (0, .nameAndType 13 14), (0, u "java/util/ArrayList"), (0, u "elementData"), (0, u "[Ljava/lang/Object;"), (2, u "EMPTY_ELEMENTDATA"), (21, .fieldref 10 40), (0, .nameAndType 41 14), (0, u "DEFAULTCAPACITY_EMPTY_ELEMENTDATA"), (4, u "toArray"), (0, u "()[Ljava/lang/Object;"), (0, .fieldref 10 49), (0, .nameAndType 50 51), (0, u "size"), (0, u "I"), (6, .class_ 60), (1, u "java/util/Arrays"), (0, u "copyOf"), (1, .fieldref 10 64), (0, .nameAndType 65 51), (0, u "modCount"), (0, .methodref 58 67), (0, .nameAndType 61 68), (0, u "([Ljava/lang/Object;I)[Ljava/lang/Object;"), (0, .methodref 10 70), (0, .nameAndType 71 72), (0, u "grow"), (0, u "(I)[Ljava/lang/Object;"), (6, .methodref 80 81), (0, .class_ 82), (0, .nameAndType 83 84), (0, u "java/lang/Math"), (0, u "max"), (0, u "(II)I"), (11, u "(Ljava/lang/Object;)Z"), (32, .methodref 10 130), (0, .nameAndType 71 47), (0, .methodref 10 132), (0, .nameAndType 133 134), (0, u "add"), (0, u "(Ljava/lang/Object;[Ljava/lang/Object;I)V"), (13, .class_ 149), (0, u "java/util/List"), (23, u "()Z"), (88, .class_ 263), (0, u "java/util/ArrayList$ListItr"), (3, .class_ 268), (0, u "java/util/ArrayList$Itr"), (7, .class_ 277), (0, u "java/util/ArrayList$SubList"), (12, .class_ 291), (0, u "java/util/ArrayList$ArrayListSpliterator"), (37, .class_ 330), (0, u "java/util/RandomAccess"), (0, .class_ 332), (0, u "java/lang/Cloneable"), (0, .class_ 334), (0, u "java/io/Serializable"), (0, u "serialVersionUID"), (0, u "J"), (3, u "DEFAULT_CAPACITY"), (22, u "isEmpty"), (136, .class_ 501), (0, u "java/util/ArrayList$SubList$2"), (0, .class_ 503), (0, u "java/util/ArrayList$SubList$1")] 5

def k17c0 : Code := { maxStack := 2, maxLocals := 1, code := jdk_38_method_2_code, exceptionTable := #[], attributes := #[] }
def k17m0 : Method := { name := "<init>", desc := "()V", sig := { parameters := [], returnType := none }, accessFlags := 1, code := some k17c0 }
def k17c1 : Code := { maxStack := 4, maxLocals := 4, code := jdk_38_method_6_code, exceptionTable := #[], attributes := #[] }
def k17m1 : Method := { name := "grow", desc := "(I)[Ljava/lang/Object;", sig := { parameters := [.int], returnType := some (.array (.object "java/lang/Object")) }, accessFlags := 2, code := some k17c1 }
def k17c2 : Code := { maxStack := 3, maxLocals := 1, code := jdk_38_method_7_code, exceptionTable := #[], attributes := #[] }
def k17m2 : Method := { name := "grow", desc := "()[Ljava/lang/Object;", sig := { parameters := [], returnType := some (.array (.object "java/lang/Object")) }, accessFlags := 2, code := some k17c2 }
def k17c3 : Code := { maxStack := 1, maxLocals := 1, code := jdk_38_method_9_code, exceptionTable := #[], attributes := #[] }
def k17m3 : Method := { name := "isEmpty", desc := "()Z", sig := { parameters := [], returnType := some .boolean }, accessFlags := 1, code := some k17c3 }
def k17c4 : Code := { maxStack := 2, maxLocals := 1, code := jdk_38_method_16_code, exceptionTable := #[], attributes := #[] }
def k17m4 : Method := { name := "toArray", desc := "()[Ljava/lang/Object;", sig := { parameters := [], returnType := some (.array (.object "java/lang/Object")) }, accessFlags := 1, code := some k17c4 }
def k17c5 : Code := { maxStack := 3, maxLocals := 4, code := jdk_38_method_24_code, exceptionTable := #[], attributes := #[] }
def k17m5 : Method := { name := "add", desc := "(Ljava/lang/Object;[Ljava/lang/Object;I)V", sig := { parameters := [(.object "java/lang/Object"), (.array (.object "java/lang/Object")), .int], returnType := none }, accessFlags := 2, code := some k17c5 }
def k17c6 : Code := { maxStack := 4, maxLocals := 2, code := jdk_38_method_25_code, exceptionTable := #[], attributes := #[] }
def k17m6 : Method := { name := "add", desc := "(Ljava/lang/Object;)Z", sig := { parameters := [(.object "java/lang/Object")], returnType := some .boolean }, accessFlags := 1, code := some k17c6 }
def k17 : Class := { plain "java/util/ArrayList" (some 14) with
  accessFlags := 33
  interfaces := #[13, 15, 16, 2]
  cf := some (fileOf pool17 10 #[.nestMembers #[290, 276, 500, 502, 262, 267]] #[{ accessFlags := 1, nameIndex := 5, descriptorIndex := 6, attributes := #[] }, { accessFlags := 2, nameIndex := 71, descriptorIndex := 72, attributes := #[] }, { accessFlags := 2, nameIndex := 71, descriptorIndex := 47, attributes := #[] }, { accessFlags := 1, nameIndex := 363, descriptorIndex := 173, attributes := #[] }, { accessFlags := 1, nameIndex := 46, descriptorIndex := 47, attributes := #[] }, { accessFlags := 2, nameIndex := 133, descriptorIndex := 134, attributes := #[] }, { accessFlags := 1, nameIndex := 133, descriptorIndex := 96, attributes := #[] }] 33 2 #[148, 329, 331, 333] #[{ accessFlags := 26, nameIndex := 335, descriptorIndex := 336, attributes := #[] }, { accessFlags := 26, nameIndex := 340, descriptorIndex := 51, attributes := #[] }, { accessFlags := 26, nameIndex := 17, descriptorIndex := 14, attributes := #[] }, { accessFlags := 26, nameIndex := 41, descriptorIndex := 14, attributes := #[] }, { accessFlags := 128, nameIndex := 13, descriptorIndex := 14, attributes := #[] }, { accessFlags := 2, nameIndex := 50, descriptorIndex := 51, attributes := #[] }])
  fields := #[{ name := "serialVersionUID", type := .long, accessFlags := 26, slot := 0, constantValue := 0 }, { name := "DEFAULT_CAPACITY", type := .int, accessFlags := 26, slot := 1, constantValue := 0 }, { name := "EMPTY_ELEMENTDATA", type := (.array (.object "java/lang/Object")), accessFlags := 26, slot := 2, constantValue := 0 }, { name := "DEFAULTCAPACITY_EMPTY_ELEMENTDATA", type := (.array (.object "java/lang/Object")), accessFlags := 26, slot := 3, constantValue := 0 }, { name := "elementData", type := (.array (.object "java/lang/Object")), accessFlags := 128, slot := 1, constantValue := 0 }, { name := "size", type := .int, accessFlags := 2, slot := 2, constantValue := 0 }]
  methods := #[k17m0, k17m1, k17m2, k17m3, k17m4, k17m5, k17m6]
  instanceTypes := #[.int, (.array (.object "java/lang/Object")), .int]
  staticTypes := #[.long, .int, (.array (.object "java/lang/Object")), (.array (.object "java/lang/Object"))]
  resolved := Array.replicate 509 none
  statics := some 1 }

def pool18 : Array CpInfo := pool [(1, .class_ 2), (0, u "java/lang/Math"), (1, .class_ 6), (1, u "java/lang/Object"), (0, u "<init>"), (0, u "()V"), (89, .class_ 100), (1, u "java/lang/Math$RandomNumberGeneratorHolder"), (71, u "negativeZeroFloatBits"), (0, u "J"), (2, u "negativeZeroDoubleBits"), (21, u "max"), (2, u "min"), (43, u "$assertionsDisabled"), (0, u "Z"), (88, u "(II)I"), (2, u "twoToTheDoubleScaleDown"), (0, u "D"), (4, u "twoToTheDoubleScaleUp"), (9, u "E"), (3, u "PI"), (2, u "TAU"), (2, u "DEGREES_TO_RADIANS"), (0, u "RADIANS_TO_DEGREES")] 94

def k18m0 : Method := { name := "<init>", desc := "()V", sig := { parameters := [], returnType := none }, accessFlags := 2, code := none }
def k18c1 : Code := { maxStack := 2, maxLocals := 2, code := jdk_29_method_65_code, exceptionTable := #[], attributes := #[] }
def k18m1 : Method := { name := "max", desc := "(II)I", sig := { parameters := [.int, .int], returnType := some .int }, accessFlags := 9, code := some k18c1 }
def k18c2 : Code := { maxStack := 2, maxLocals := 2, code := jdk_29_method_69_code, exceptionTable := #[], attributes := #[] }
def k18m2 : Method := { name := "min", desc := "(II)I", sig := { parameters := [.int, .int], returnType := some .int }, accessFlags := 9, code := some k18c2 }
def k18 : Class := { plain "java/lang/Math" (some 0) with
  accessFlags := 49
  interfaces := #[]
  cf := some (fileOf pool18 1 #[.nestMembers #[98]] #[{ accessFlags := 2, nameIndex := 7, descriptorIndex := 8, attributes := #[] }, { accessFlags := 9, nameIndex := 198, descriptorIndex := 335, attributes := #[] }, { accessFlags := 9, nameIndex := 201, descriptorIndex := 335, attributes := #[] }] 49 4 #[] #[{ accessFlags := 25, nameIndex := 354, descriptorIndex := 339, attributes := #[] }, { accessFlags := 25, nameIndex := 358, descriptorIndex := 339, attributes := #[] }, { accessFlags := 25, nameIndex := 361, descriptorIndex := 339, attributes := #[] }, { accessFlags := 26, nameIndex := 364, descriptorIndex := 339, attributes := #[] }, { accessFlags := 26, nameIndex := 365, descriptorIndex := 339, attributes := #[] }, { accessFlags := 26, nameIndex := 172, descriptorIndex := 173, attributes := #[] }, { accessFlags := 26, nameIndex := 176, descriptorIndex := 173, attributes := #[] }, { accessFlags := 8, nameIndex := 344, descriptorIndex := 339, attributes := #[] }, { accessFlags := 8, nameIndex := 338, descriptorIndex := 339, attributes := #[] }, { accessFlags := 4120, nameIndex := 245, descriptorIndex := 246, attributes := #[] }])
  fields := #[{ name := "E", type := .double, accessFlags := 25, slot := 0, constantValue := 0 }, { name := "PI", type := .double, accessFlags := 25, slot := 1, constantValue := 0 }, { name := "TAU", type := .double, accessFlags := 25, slot := 2, constantValue := 0 }, { name := "DEGREES_TO_RADIANS", type := .double, accessFlags := 26, slot := 3, constantValue := 0 }, { name := "RADIANS_TO_DEGREES", type := .double, accessFlags := 26, slot := 4, constantValue := 0 }, { name := "negativeZeroFloatBits", type := .long, accessFlags := 26, slot := 5, constantValue := 0 }, { name := "negativeZeroDoubleBits", type := .long, accessFlags := 26, slot := 6, constantValue := 0 }, { name := "twoToTheDoubleScaleUp", type := .double, accessFlags := 8, slot := 7, constantValue := 0 }, { name := "twoToTheDoubleScaleDown", type := .double, accessFlags := 8, slot := 8, constantValue := 0 }, { name := "$assertionsDisabled", type := .boolean, accessFlags := 4120, slot := 9, constantValue := 0 }]
  methods := #[k18m0, k18m1, k18m2]
  instanceTypes := #[]
  staticTypes := #[.double, .double, .double, .double, .double, .long, .long, .double, .double, .boolean]
  resolved := Array.replicate 460 none
  statics := none }

def pool19 : Array CpInfo := pool [(1, .methodref 2 3), (0, .class_ 4), (0, .nameAndType 5 6), (0, u "java/lang/Object"), (0, u "<init>"), (0, u "()V"), (0, .class_ 8), (0, u "java/lang/Record")] 13

def k19c0 : Code := { maxStack := 1, maxLocals := 1, code := jdk_30_method_1_code, exceptionTable := #[], attributes := #[] }
def k19m0 : Method := { name := "<init>", desc := "()V", sig := { parameters := [], returnType := none }, accessFlags := 4, code := some k19c0 }
def k19 : Class := { plain "java/lang/Record" (some 0) with
  accessFlags := 1057
  interfaces := #[]
  cf := some (fileOf pool19 7 #[] #[{ accessFlags := 4, nameIndex := 5, descriptorIndex := 6, attributes := #[] }] 1057 2 #[] #[])
  fields := #[]
  methods := #[k19m0]
  instanceTypes := #[]
  staticTypes := #[]
  resolved := Array.replicate 22 none
  statics := none }

def pool20 : Array CpInfo := pool [(1, .methodref 2 3), (0, .class_ 4), (0, .nameAndType 5 6), (0, u "java/lang/Record"), (0, u "<init>"), (0, u "()V"), (0, .string 8), (0, u "level name"), (0, .methodref 10 11), (0, .class_ 12), (0, .nameAndType 13 14), (0, u "com/example/dique/dique/model/Names"), (0, u "requirePart"), (0, u "(Ljava/lang/String;Ljava/lang/String;)V"), (0, .interfaceMethodref 16 17), (0, .class_ 18), (0, .nameAndType 19 20), (0, u "java/util/List"), (0, u "copyOf"), (0, u "(Ljava/util/Collection;)Ljava/util/List;"), (0, .interfaceMethodref 16 22), (0, .nameAndType 23 24), (0, u "isEmpty"), (0, u "()Z"), (2, .class_ 28), (0, u "java/lang/StringBuilder"), (0, .methodref 27 3), (2, .methodref 27 33), (0, .nameAndType 34 35), (0, u "append"), (0, u "(Ljava/lang/String;)Ljava/lang/StringBuilder;"), (2, .methodref 27 39), (0, .nameAndType 40 41), (0, u "toString"), (0, u "()Ljava/lang/String;"), (3, .interfaceMethodref 16 46), (0, .nameAndType 47 48), (0, u "iterator"), (0, u "()Ljava/util/Iterator;"), (0, .interfaceMethodref 50 51), (0, .class_ 52), (0, .nameAndType 53 24), (0, u "java/util/Iterator"), (0, u "hasNext"), (0, .interfaceMethodref 50 55), (0, .nameAndType 56 57), (0, u "next"), (0, u "()Ljava/lang/Object;"), (0, .class_ 59), (0, u "java/lang/String"), (0, .string 61), (0, u "a column of level "), (0, .methodref 63 64), (0, .class_ 65), (0, .nameAndType 66 14), (0, u "com/example/dique/dique/util/Identifiers"), (0, u "require"), (0, .fieldref 68 69), (0, .class_ 70), (0, .nameAndType 71 72), (0, u "com/example/dique/dique/model/Level"), (0, u "name"), (0, u "Ljava/lang/String;"), (0, .fieldref 68 74), (0, .nameAndType 75 76), (0, u "columns"), (0, u "Ljava/util/List;"), (13, u "(Ljava/lang/String;Ljava/util/List;)V"), (7, u "()Ljava/util/List;")] 22

def k20c0 : Code := { maxStack := 4, maxLocals := 5, code := prog_14_method_1_code, exceptionTable := #[], attributes := #[] }
def k20m0 : Method := { name := "<init>", desc := "(Ljava/lang/String;Ljava/util/List;)V", sig := { parameters := [(.object "java/lang/String"), (.object "java/util/List")], returnType := none }, accessFlags := 1, code := some k20c0 }
def k20c1 : Code := { maxStack := 1, maxLocals := 1, code := prog_14_method_5_code, exceptionTable := #[], attributes := #[] }
def k20m1 : Method := { name := "name", desc := "()Ljava/lang/String;", sig := { parameters := [], returnType := some (.object "java/lang/String") }, accessFlags := 1, code := some k20c1 }
def k20c2 : Code := { maxStack := 1, maxLocals := 1, code := prog_14_method_6_code, exceptionTable := #[], attributes := #[] }
def k20m2 : Method := { name := "columns", desc := "()Ljava/util/List;", sig := { parameters := [], returnType := some (.object "java/util/List") }, accessFlags := 1, code := some k20c2 }
def k20 : Class := { plain "com/example/dique/dique/model/Level" (some 19) with
  accessFlags := 49
  interfaces := #[]
  cf := some (fileOf pool20 68 #[] #[{ accessFlags := 1, nameIndex := 5, descriptorIndex := 90, attributes := #[] }, { accessFlags := 1, nameIndex := 71, descriptorIndex := 41, attributes := #[] }, { accessFlags := 1, nameIndex := 75, descriptorIndex := 98, attributes := #[] }] 49 2 #[] #[{ accessFlags := 18, nameIndex := 71, descriptorIndex := 72, attributes := #[] }, { accessFlags := 18, nameIndex := 75, descriptorIndex := 76, attributes := #[] }])
  fields := #[{ name := "name", type := (.object "java/lang/String"), accessFlags := 18, slot := 0, constantValue := 0 }, { name := "columns", type := (.object "java/util/List"), accessFlags := 18, slot := 1, constantValue := 0 }]
  methods := #[k20m0, k20m1, k20m2]
  instanceTypes := #[(.object "java/lang/String"), (.object "java/util/List")]
  staticTypes := #[]
  resolved := Array.replicate 121 none
  statics := none }

def pool21 : Array CpInfo := pool [(1, .methodref 2 3), (0, .class_ 4), (0, .nameAndType 5 6), (0, u "java/lang/Object"), (0, u "<init>"), (0, u "()V"), (0, .class_ 8), (0, u "java/util/HashMap"), (0, .methodref 7 3), (0, .fieldref 11 12), (0, .class_ 13), (0, .nameAndType 14 15), (0, u "com/example/dique/dique/model/Names"), (0, u "owners"), (0, u "Ljava/util/Map;"), (0, .fieldref 11 17), (0, .nameAndType 18 19), (0, u "kind"), (0, u "Ljava/lang/String;"), (0, .methodref 21 22), (0, .class_ 23), (0, .nameAndType 24 25), (0, u "com/example/dique/dique/util/Identifiers"), (0, u "fold"), (0, u "(Ljava/lang/String;)Ljava/lang/String;"), (0, .interfaceMethodref 27 28), (0, .class_ 29), (0, .nameAndType 30 31), (0, u "java/util/Map"), (0, u "putIfAbsent"), (0, u "(Ljava/lang/Object;Ljava/lang/Object;)Ljava/lang/Object;"), (0, .class_ 33), (0, u "java/lang/String"), (27, u "(Ljava/lang/String;)V"), (0, .interfaceMethodref 27 63), (0, .nameAndType 64 65), (0, u "get"), (0, u "(Ljava/lang/Object;)Ljava/lang/Object;"), (0, .methodref 21 67), (0, .nameAndType 68 69), (0, u "require"), (0, u "(Ljava/lang/String;Ljava/lang/String;)V"), (0, .methodref 32 71), (0, .nameAndType 72 73), (0, u "indexOf"), (0, u "(I)I"), (8, u "claim"), (1, u "ownerOf"), (0, u "requirePart")] 2

def k21c0 : Code := { maxStack := 3, maxLocals := 2, code := prog_17_method_1_code, exceptionTable := #[], attributes := #[] }
def k21m0 : Method := { name := "<init>", desc := "(Ljava/lang/String;)V", sig := { parameters := [(.object "java/lang/String")], returnType := none }, accessFlags := 0, code := some k21c0 }
def k21c1 : Code := { maxStack := 4, maxLocals := 5, code := prog_17_method_2_code, exceptionTable := #[], attributes := #[] }
def k21m1 : Method := { name := "claim", desc := "(Ljava/lang/String;Ljava/lang/String;)V", sig := { parameters := [(.object "java/lang/String"), (.object "java/lang/String")], returnType := none }, accessFlags := 0, code := some k21c1 }
def k21c2 : Code := { maxStack := 2, maxLocals := 2, code := prog_17_method_3_code, exceptionTable := #[], attributes := #[] }
def k21m2 : Method := { name := "ownerOf", desc := "(Ljava/lang/String;)Ljava/lang/String;", sig := { parameters := [(.object "java/lang/String")], returnType := some (.object "java/lang/String") }, accessFlags := 0, code := some k21c2 }
def k21c3 : Code := { maxStack := 4, maxLocals := 2, code := prog_17_method_4_code, exceptionTable := #[], attributes := #[] }
def k21m3 : Method := { name := "requirePart", desc := "(Ljava/lang/String;Ljava/lang/String;)V", sig := { parameters := [(.object "java/lang/String"), (.object "java/lang/String")], returnType := none }, accessFlags := 8, code := some k21c3 }
def k21 : Class := { plain "com/example/dique/dique/model/Names" (some 0) with
  accessFlags := 32
  interfaces := #[]
  cf := some (fileOf pool21 11 #[] #[{ accessFlags := 0, nameIndex := 5, descriptorIndex := 61, attributes := #[] }, { accessFlags := 0, nameIndex := 82, descriptorIndex := 69, attributes := #[] }, { accessFlags := 0, nameIndex := 84, descriptorIndex := 25, attributes := #[] }, { accessFlags := 8, nameIndex := 85, descriptorIndex := 69, attributes := #[] }] 32 2 #[] #[{ accessFlags := 18, nameIndex := 18, descriptorIndex := 19, attributes := #[] }, { accessFlags := 18, nameIndex := 14, descriptorIndex := 15, attributes := #[] }])
  fields := #[{ name := "kind", type := (.object "java/lang/String"), accessFlags := 18, slot := 0, constantValue := 0 }, { name := "owners", type := (.object "java/util/Map"), accessFlags := 18, slot := 1, constantValue := 0 }]
  methods := #[k21m0, k21m1, k21m2, k21m3]
  instanceTypes := #[(.object "java/lang/String"), (.object "java/util/Map")]
  staticTypes := #[]
  resolved := Array.replicate 88 none
  statics := none }

def pool22 : Array CpInfo := pool [(2, .class_ 4), (1, u "java/lang/Object"), (0, u "<init>"), (0, u "()V"), (0, .class_ 8), (0, u "java/lang/StringBuilder"), (0, .methodref 10 11), (0, .class_ 12), (0, .nameAndType 13 14), (0, u "java/lang/String"), (0, u "length"), (0, u "()I"), (0, .methodref 7 16), (0, .nameAndType 5 17), (0, u "(I)V"), (0, .methodref 10 19), (0, .nameAndType 20 21), (0, u "charAt"), (0, u "(I)C"), (0, .methodref 23 24), (0, .class_ 25), (0, .nameAndType 26 27), (0, u "com/example/dique/dique/util/Identifiers"), (0, u "fold"), (0, u "(C)C"), (0, .methodref 7 29), (0, .nameAndType 30 31), (0, u "append"), (0, u "(C)Ljava/lang/StringBuilder;"), (0, .methodref 7 33), (0, .nameAndType 34 35), (0, u "toString"), (0, u "()Ljava/lang/String;"), (0, .methodref 10 37), (0, .nameAndType 38 39), (0, u "isBlank"), (0, u "()Z"), (0, .methodref 10 41), (0, .nameAndType 42 35), (0, u "strip"), (0, .methodref 10 44), (0, .nameAndType 45 46), (0, u "equals"), (0, u "(Ljava/lang/Object;)Z"), (15, u "(Ljava/lang/String;)Ljava/lang/String;"), (3, u "require"), (0, u "(Ljava/lang/String;Ljava/lang/String;)V")] 2

def k22m0 : Method := { name := "<init>", desc := "()V", sig := { parameters := [], returnType := none }, accessFlags := 2, code := none }
def k22c1 : Code := { maxStack := 3, maxLocals := 3, code := prog_91_method_2_code, exceptionTable := #[], attributes := #[] }
def k22m1 : Method := { name := "fold", desc := "(Ljava/lang/String;)Ljava/lang/String;", sig := { parameters := [(.object "java/lang/String")], returnType := some (.object "java/lang/String") }, accessFlags := 9, code := some k22c1 }
def k22c2 : Code := { maxStack := 2, maxLocals := 1, code := prog_91_method_4_code, exceptionTable := #[], attributes := #[] }
def k22m2 : Method := { name := "fold", desc := "(C)C", sig := { parameters := [.char], returnType := some .char }, accessFlags := 10, code := some k22c2 }
def k22c3 : Code := { maxStack := 4, maxLocals := 2, code := prog_91_method_5_code, exceptionTable := #[], attributes := #[] }
def k22m3 : Method := { name := "require", desc := "(Ljava/lang/String;Ljava/lang/String;)V", sig := { parameters := [(.object "java/lang/String"), (.object "java/lang/String")], returnType := none }, accessFlags := 9, code := some k22c3 }
def k22 : Class := { plain "com/example/dique/dique/util/Identifiers" (some 0) with
  accessFlags := 33
  interfaces := #[]
  cf := some (fileOf pool22 23 #[] #[{ accessFlags := 2, nameIndex := 5, descriptorIndex := 6, attributes := #[] }, { accessFlags := 9, nameIndex := 26, descriptorIndex := 62, attributes := #[] }, { accessFlags := 10, nameIndex := 26, descriptorIndex := 27, attributes := #[] }, { accessFlags := 9, nameIndex := 66, descriptorIndex := 67, attributes := #[] }] 33 2 #[] #[])
  fields := #[]
  methods := #[k22m0, k22m1, k22m2, k22m3]
  instanceTypes := #[]
  staticTypes := #[]
  resolved := Array.replicate 70 none
  statics := none }

def pool23 : Array CpInfo := pool [(1, .class_ 2), (0, u "java/lang/String"), (1, .class_ 6), (1, u "java/lang/Object"), (0, u "<init>"), (0, u "()V"), (0, .methodref 1 10), (0, .nameAndType 11 12), (0, u "checkIndex"), (0, u "(II)V"), (1, .class_ 16), (1, u "java/lang/StringLatin1"), (21, .methodref 39 40), (0, .class_ 41), (0, .nameAndType 42 43), (0, u "java/lang/Math"), (0, u "min"), (0, u "(II)I"), (6, .methodref 14 51), (0, .nameAndType 52 53), (0, u "getChar"), (0, u "([BI)C"), (3, u "([B)I"), (8, .fieldref 67 68), (0, .class_ 69), (0, .nameAndType 70 71), (0, u "java/lang/CharacterDataLatin1"), (0, u "instance"), (0, u "Ljava/lang/CharacterDataLatin1;"), (16, .methodref 14 89), (0, .nameAndType 90 91), (0, u "canEncode"), (0, u "(I)Z"), (0, .methodref 39 93), (0, .nameAndType 94 43), (0, u "max"), (0, .methodref 14 96), (0, .nameAndType 97 98), (0, u "indexOfChar"), (0, u "([BIII)I"), (2, u "indexOf"), (3, u "(C)Z"), (15, u "$assertionsDisabled"), (0, u "Z"), (88, .methodref 67 212), (0, .nameAndType 213 91), (0, u "isWhitespace"), (0, .methodref 14 215), (0, .nameAndType 216 57), (0, u "indexOfNonWhitespace"), (0, .methodref 14 218), (0, .nameAndType 219 57), (0, u "lastIndexOfNonWhitespace"), (1, .class_ 223), (1, u "java/lang/StringLatin1$LinesSpliterator"), (28, u "charAt"), (45, u "hashCode"), (68, u "([B)Ljava/lang/String;"), (3, u "strip"), (18, .class_ 391), (0, u "java/lang/StringLatin1$CharsSpliterator")] 3

def k23m0 : Method := { name := "<init>", desc := "()V", sig := { parameters := [], returnType := none }, accessFlags := 0, code := none }
def k23c1 : Code := { maxStack := 2, maxLocals := 2, code := jdk_43_method_2_code, exceptionTable := #[], attributes := #[] }
def k23m1 : Method := { name := "charAt", desc := "([BI)C", sig := { parameters := [(.array .byte), .int], returnType := some .char }, accessFlags := 9, code := some k23c1 }
def k23c2 : Code := { maxStack := 2, maxLocals := 1, code := jdk_43_method_3_code, exceptionTable := #[], attributes := #[] }
def k23m2 : Method := { name := "canEncode", desc := "(C)Z", sig := { parameters := [.char], returnType := some .boolean }, accessFlags := 9, code := some k23c2 }
def k23c3 : Code := { maxStack := 2, maxLocals := 1, code := jdk_43_method_4_code, exceptionTable := #[], attributes := #[] }
def k23m3 : Method := { name := "canEncode", desc := "(I)Z", sig := { parameters := [.int], returnType := some .boolean }, accessFlags := 9, code := some k23c3 }
def k23c4 : Code := { maxStack := 5, maxLocals := 1, code := jdk_43_method_21_code, exceptionTable := #[], attributes := #[] }
def k23m4 : Method := { name := "hashCode", desc := "([B)I", sig := { parameters := [(.array .byte)], returnType := some .int }, accessFlags := 9, code := some k23c4 }
def k23c5 : Code := { maxStack := 4, maxLocals := 4, code := jdk_43_method_22_code, exceptionTable := #[], attributes := #[] }
def k23m5 : Method := { name := "indexOf", desc := "([BIII)I", sig := { parameters := [(.array .byte), .int, .int, .int], returnType := some .int }, accessFlags := 9, code := some k23c5 }
def k23c6 : Code := { maxStack := 2, maxLocals := 6, code := jdk_43_method_23_code, exceptionTable := #[], attributes := #[] }
def k23m6 : Method := { name := "indexOfChar", desc := "([BIII)I", sig := { parameters := [(.array .byte), .int, .int, .int], returnType := some .int }, accessFlags := 10, code := some k23c6 }
def k23c7 : Code := { maxStack := 2, maxLocals := 4, code := jdk_43_method_37_code, exceptionTable := #[], attributes := #[] }
def k23m7 : Method := { name := "indexOfNonWhitespace", desc := "([B)I", sig := { parameters := [(.array .byte)], returnType := some .int }, accessFlags := 9, code := some k23c7 }
def k23c8 : Code := { maxStack := 3, maxLocals := 4, code := jdk_43_method_38_code, exceptionTable := #[], attributes := #[] }
def k23m8 : Method := { name := "lastIndexOfNonWhitespace", desc := "([B)I", sig := { parameters := [(.array .byte)], returnType := some .int }, accessFlags := 9, code := some k23c8 }
def k23c9 : Code := { maxStack := 4, maxLocals := 4, code := jdk_43_method_39_code, exceptionTable := #[], attributes := #[] }
def k23m9 : Method := { name := "strip", desc := "([B)Ljava/lang/String;", sig := { parameters := [(.array .byte)], returnType := some (.object "java/lang/String") }, accessFlags := 9, code := some k23c9 }
def k23c10 : Code := { maxStack := 2, maxLocals := 2, code := jdk_43_method_44_code, exceptionTable := #[], attributes := #[] }
def k23m10 : Method := { name := "getChar", desc := "([BI)C", sig := { parameters := [(.array .byte), .int], returnType := some .char }, accessFlags := 9, code := some k23c10 }
def k23 : Class := { plain "java/lang/StringLatin1" (some 0) with
  accessFlags := 48
  interfaces := #[]
  cf := some (fileOf pool23 14 #[.nestMembers #[390, 221]] #[{ accessFlags := 0, nameIndex := 7, descriptorIndex := 8, attributes := #[] }, { accessFlags := 9, nameIndex := 252, descriptorIndex := 53, attributes := #[] }, { accessFlags := 9, nameIndex := 90, descriptorIndex := 105, attributes := #[] }, { accessFlags := 9, nameIndex := 90, descriptorIndex := 91, attributes := #[] }, { accessFlags := 9, nameIndex := 298, descriptorIndex := 57, attributes := #[] }, { accessFlags := 9, nameIndex := 101, descriptorIndex := 98, attributes := #[] }, { accessFlags := 10, nameIndex := 97, descriptorIndex := 98, attributes := #[] }, { accessFlags := 9, nameIndex := 216, descriptorIndex := 57, attributes := #[] }, { accessFlags := 9, nameIndex := 219, descriptorIndex := 57, attributes := #[] }, { accessFlags := 9, nameIndex := 371, descriptorIndex := 367, attributes := #[] }, { accessFlags := 9, nameIndex := 52, descriptorIndex := 53, attributes := #[] }] 48 4 #[] #[{ accessFlags := 4120, nameIndex := 121, descriptorIndex := 122, attributes := #[] }])
  fields := #[{ name := "$assertionsDisabled", type := .boolean, accessFlags := 4120, slot := 0, constantValue := 0 }]
  methods := #[k23m0, k23m1, k23m2, k23m3, k23m4, k23m5, k23m6, k23m7, k23m8, k23m9, k23m10]
  instanceTypes := #[]
  staticTypes := #[.boolean]
  resolved := Array.replicate 395 none
  statics := none }

def pool24 : Array CpInfo := pool [(2, .class_ 4), (1, u "java/lang/Object"), (0, u "<init>"), (0, u "()V"), (1, .class_ 10), (1, u "java/lang/CharacterData")] 75

def k24m0 : Method := { name := "<init>", desc := "()V", sig := { parameters := [], returnType := none }, accessFlags := 0, code := none }
def k24 : Class := { plain "java/lang/CharacterData" (some 0) with
  accessFlags := 1056
  interfaces := #[]
  cf := some (fileOf pool24 8 #[] #[{ accessFlags := 0, nameIndex := 5, descriptorIndex := 6, attributes := #[] }] 1056 2 #[] #[])
  fields := #[]
  methods := #[k24m0]
  instanceTypes := #[]
  staticTypes := #[]
  resolved := Array.replicate 86 none
  statics := none }

def pool25 : Array CpInfo := pool [(1, .fieldref 2 3), (0, .class_ 4), (0, .nameAndType 5 6), (0, u "java/lang/CharacterDataLatin1"), (0, u "A"), (0, u "[I"), (2, u "B"), (0, u "[C"), (3, u "(I)I"), (0, .methodref 2 16), (0, .nameAndType 17 14), (0, u "getProperties"), (3, u "(I)Z"), (5, u "DIGITS"), (0, u "[B"), (8, u "sharpsMap"), (1, .class_ 41), (1, u "java/lang/CharacterData"), (0, u "<init>"), (0, u "()V"), (3, u "instance"), (0, u "Ljava/lang/CharacterDataLatin1;"), (78, u "isWhitespace")] 13

def k25c0 : Code := { maxStack := 2, maxLocals := 4, code := jdk_116_method_1_code, exceptionTable := #[], attributes := #[] }
def k25m0 : Method := { name := "getProperties", desc := "(I)I", sig := { parameters := [.int], returnType := some .int }, accessFlags := 0, code := some k25c0 }
def k25c1 : Code := { maxStack := 2, maxLocals := 3, code := jdk_116_method_26_code, exceptionTable := #[], attributes := #[] }
def k25m1 : Method := { name := "isWhitespace", desc := "(I)Z", sig := { parameters := [.int], returnType := some .boolean }, accessFlags := 0, code := some k25c1 }
def k25m2 : Method := { name := "<init>", desc := "()V", sig := { parameters := [], returnType := none }, accessFlags := 2, code := none }
def k25 : Class := { plain "java/lang/CharacterDataLatin1" (some 24) with
  accessFlags := 32
  interfaces := #[]
  cf := some (fileOf pool25 2 #[] #[{ accessFlags := 0, nameIndex := 17, descriptorIndex := 14, attributes := #[] }, { accessFlags := 0, nameIndex := 127, descriptorIndex := 21, attributes := #[] }, { accessFlags := 2, nameIndex := 42, descriptorIndex := 43, attributes := #[] }] 32 39 #[] #[{ accessFlags := 26, nameIndex := 27, descriptorIndex := 28, attributes := #[] }, { accessFlags := 8, nameIndex := 37, descriptorIndex := 10, attributes := #[] }, { accessFlags := 24, nameIndex := 47, descriptorIndex := 48, attributes := #[] }, { accessFlags := 24, nameIndex := 5, descriptorIndex := 6, attributes := #[] }, { accessFlags := 24, nameIndex := 9, descriptorIndex := 10, attributes := #[] }])
  fields := #[{ name := "DIGITS", type := (.array .byte), accessFlags := 26, slot := 0, constantValue := 0 }, { name := "sharpsMap", type := (.array .char), accessFlags := 8, slot := 1, constantValue := 0 }, { name := "instance", type := (.object "java/lang/CharacterDataLatin1"), accessFlags := 24, slot := 2, constantValue := 0 }, { name := "A", type := (.array .int), accessFlags := 24, slot := 3, constantValue := 0 }, { name := "B", type := (.array .char), accessFlags := 24, slot := 4, constantValue := 0 }]
  methods := #[k25m0, k25m1, k25m2]
  instanceTypes := #[]
  staticTypes := #[(.array .byte), (.array .char), (.object "java/lang/CharacterDataLatin1"), (.array .int), (.array .char)]
  resolved := Array.replicate 141 none
  statics := some 2 }

def pool26 : Array CpInfo := pool [(2, .class_ 4), (1, u "java/lang/Object"), (0, u "<init>"), (0, u "()V"), (3, .class_ 11), (0, u "java/util/ImmutableCollections$List12"), (0, .class_ 13), (0, u "java/util/ImmutableCollections$ListN"), (3, u "Z"), (0, .class_ 19), (0, u "java/util/List"), (0, .interfaceMethodref 21 22), (0, .class_ 23), (0, .nameAndType 24 25), (0, u "java/util/Collection"), (0, u "isEmpty"), (0, u "()Z"), (0, .interfaceMethodref 18 27), (0, .nameAndType 28 29), (0, u "of"), (0, u "()Ljava/util/List;"), (0, .interfaceMethodref 21 31), (0, .nameAndType 32 33), (0, u "toArray"), (0, u "()[Ljava/lang/Object;"), (0, .interfaceMethodref 18 35), (0, .nameAndType 28 36), (0, u "([Ljava/lang/Object;)Ljava/util/List;"), (10, .class_ 49), (1, u "java/util/ImmutableCollections"), (0, u "$assertionsDisabled"), (5, u "[Ljava/lang/Object;"), (5, u "EMPTY_LIST"), (0, u "Ljava/util/ImmutableCollections$ListN;"), (8, u "EMPTY_LIST_NULLS"), (22, u "SALT32L"), (0, u "J"), (2, u "REVERSE"), (6, u "archivedObjects"), (2, u "EMPTY"), (0, u "Ljava/lang/Object;"), (0, .class_ 112), (0, u "java/util/ImmutableCollections$SetN"), (5, u "EMPTY_SET"), (0, u "Ljava/util/ImmutableCollections$SetN;"), (0, .class_ 121), (0, u "java/util/ImmutableCollections$MapN"), (3, u "EMPTY_MAP"), (0, u "Ljava/util/ImmutableCollections$MapN;"), (4, u "EXPAND_FACTOR"), (0, u "I"), (9, u "listCopy"), (0, u "(Ljava/util/Collection;)Ljava/util/List;"), (25, .class_ 170), (0, u "java/util/ImmutableCollections$MapN$MapNIterator"), (0, .class_ 172), (0, u "java/util/ImmutableCollections$MapN$1"), (0, .class_ 174), (0, u "java/util/ImmutableCollections$Map1"), (0, .class_ 176), (0, u "java/util/ImmutableCollections$AbstractImmutableMap"), (0, .class_ 178), (0, u "java/util/ImmutableCollections$SetN$SetNIterator"), (0, .class_ 180), (0, u "java/util/ImmutableCollections$Set12"), (0, .class_ 182), (0, u "java/util/ImmutableCollections$Set12$1"), (0, .class_ 184), (0, u "java/util/ImmutableCollections$AbstractImmutableSet"), (0, .class_ 186), (0, u "java/util/ImmutableCollections$SubList"), (0, .class_ 188), (0, u "java/util/ImmutableCollections$ListItr"), (0, .class_ 190), (0, u "java/util/ImmutableCollections$AbstractImmutableList"), (0, .class_ 192), (0, u "java/util/ImmutableCollections$AbstractImmutableCollection"), (0, .class_ 194), (0, u "java/util/ImmutableCollections$Access"), (0, .class_ 196), (0, u "java/util/ImmutableCollections$Access$1")] 16

def k26m0 : Method := { name := "<init>", desc := "()V", sig := { parameters := [], returnType := none }, accessFlags := 2, code := none }
def k26c1 : Code := { maxStack := 1, maxLocals := 2, code := jdk_56_method_3_code, exceptionTable := #[], attributes := #[] }
def k26m1 : Method := { name := "listCopy", desc := "(Ljava/util/Collection;)Ljava/util/List;", sig := { parameters := [(.object "java/util/Collection")], returnType := some (.object "java/util/List") }, accessFlags := 8, code := some k26c1 }
def k26 : Class := { plain "java/util/ImmutableCollections" (some 0) with
  accessFlags := 32
  interfaces := #[]
  cf := some (fileOf pool26 47 #[.nestMembers #[120, 169, 171, 173, 175, 111, 177, 179, 181, 183, 12, 10, 185, 187, 189, 191, 193, 195]] #[{ accessFlags := 2, nameIndex := 5, descriptorIndex := 6, attributes := #[] }, { accessFlags := 8, nameIndex := 142, descriptorIndex := 143, attributes := #[] }] 32 2 #[] #[{ accessFlags := 26, nameIndex := 95, descriptorIndex := 96, attributes := #[] }, { accessFlags := 26, nameIndex := 99, descriptorIndex := 17, attributes := #[] }, { accessFlags := 10, nameIndex := 106, descriptorIndex := 56, attributes := #[] }, { accessFlags := 26, nameIndex := 109, descriptorIndex := 110, attributes := #[] }, { accessFlags := 24, nameIndex := 62, descriptorIndex := 63, attributes := #[] }, { accessFlags := 24, nameIndex := 72, descriptorIndex := 63, attributes := #[] }, { accessFlags := 24, nameIndex := 118, descriptorIndex := 119, attributes := #[] }, { accessFlags := 24, nameIndex := 125, descriptorIndex := 126, attributes := #[] }, { accessFlags := 24, nameIndex := 131, descriptorIndex := 132, attributes := #[] }, { accessFlags := 4120, nameIndex := 50, descriptorIndex := 17, attributes := #[] }])
  fields := #[{ name := "SALT32L", type := .long, accessFlags := 26, slot := 0, constantValue := 0 }, { name := "REVERSE", type := .boolean, accessFlags := 26, slot := 1, constantValue := 0 }, { name := "archivedObjects", type := (.array (.object "java/lang/Object")), accessFlags := 10, slot := 2, constantValue := 0 }, { name := "EMPTY", type := (.object "java/lang/Object"), accessFlags := 26, slot := 3, constantValue := 0 }, { name := "EMPTY_LIST", type := (.object "java/util/ImmutableCollections$ListN"), accessFlags := 24, slot := 4, constantValue := 0 }, { name := "EMPTY_LIST_NULLS", type := (.object "java/util/ImmutableCollections$ListN"), accessFlags := 24, slot := 5, constantValue := 0 }, { name := "EMPTY_SET", type := (.object "java/util/ImmutableCollections$SetN"), accessFlags := 24, slot := 6, constantValue := 0 }, { name := "EMPTY_MAP", type := (.object "java/util/ImmutableCollections$MapN"), accessFlags := 24, slot := 7, constantValue := 0 }, { name := "EXPAND_FACTOR", type := .int, accessFlags := 24, slot := 8, constantValue := 0 }, { name := "$assertionsDisabled", type := .boolean, accessFlags := 4120, slot := 9, constantValue := 0 }]
  methods := #[k26m0, k26m1]
  instanceTypes := #[]
  staticTypes := #[.long, .boolean, (.array (.object "java/lang/Object")), (.object "java/lang/Object"), (.object "java/util/ImmutableCollections$ListN"), (.object "java/util/ImmutableCollections$ListN"), (.object "java/util/ImmutableCollections$SetN"), (.object "java/util/ImmutableCollections$MapN"), .int, .boolean]
  resolved := Array.replicate 213 none
  statics := some 3 }

def pool27 : Array CpInfo := pool [(1, .methodref 2 3), (0, .class_ 4), (0, .nameAndType 5 6), (0, u "java/util/AbstractCollection"), (0, u "<init>"), (0, u "()V"), (1, .class_ 10), (1, u "java/util/ImmutableCollections"), (2, .class_ 14), (0, u "java/util/ImmutableCollections$AbstractImmutableCollection")] 41

def k27c0 : Code := { maxStack := 1, maxLocals := 1, code := jdk_47_method_1_code, exceptionTable := #[], attributes := #[] }
def k27m0 : Method := { name := "<init>", desc := "()V", sig := { parameters := [], returnType := none }, accessFlags := 0, code := some k27c0 }
def k27 : Class := { plain "java/util/ImmutableCollections$AbstractImmutableCollection" (some 11) with
  accessFlags := 1056
  interfaces := #[]
  cf := some (fileOf pool27 13 #[.nestHost 8] #[{ accessFlags := 0, nameIndex := 5, descriptorIndex := 6, attributes := #[] }] 1056 2 #[] #[])
  fields := #[]
  methods := #[k27m0]
  instanceTypes := #[]
  staticTypes := #[]
  resolved := Array.replicate 56 none
  statics := none }

def pool28 : Array CpInfo := pool [(1, .methodref 2 3), (0, .class_ 4), (0, .nameAndType 5 6), (0, u "java/util/ImmutableCollections$AbstractImmutableCollection"), (0, u "<init>"), (0, u "()V"), (1, .class_ 10), (1, u "java/util/ImmutableCollections"), (2, .methodref 14 15), (0, .class_ 16), (0, .nameAndType 17 18), (0, u "java/util/ImmutableCollections$AbstractImmutableList"), (0, u "size"), (0, u "()I"), (42, .class_ 62), (0, u "java/util/ImmutableCollections$ListItr"), (0, .methodref 61 64), (0, .nameAndType 5 65), (0, u "(Ljava/util/List;I)V"), (11, .class_ 78), (0, u "java/util/List"), (2, u "iterator"), (0, u "()Ljava/util/Iterator;"), (41, .class_ 125), (0, u "java/util/RandomAccess")] 70

def k28c0 : Code := { maxStack := 1, maxLocals := 1, code := jdk_46_method_1_code, exceptionTable := #[], attributes := #[] }
def k28m0 : Method := { name := "<init>", desc := "()V", sig := { parameters := [], returnType := none }, accessFlags := 0, code := some k28c0 }
def k28c1 : Code := { maxStack := 4, maxLocals := 1, code := jdk_46_method_10_code, exceptionTable := #[], attributes := #[] }
def k28m1 : Method := { name := "iterator", desc := "()Ljava/util/Iterator;", sig := { parameters := [], returnType := some (.object "java/util/Iterator") }, accessFlags := 1, code := some k28c1 }
def k28 : Class := { plain "java/util/ImmutableCollections$AbstractImmutableList" (some 27) with
  accessFlags := 1056
  interfaces := #[13, 15]
  cf := some (fileOf pool28 14 #[.nestHost 8] #[{ accessFlags := 0, nameIndex := 5, descriptorIndex := 6, attributes := #[] }, { accessFlags := 1, nameIndex := 81, descriptorIndex := 82, attributes := #[] }] 1056 2 #[77, 124] #[])
  fields := #[]
  methods := #[k28m0, k28m1]
  instanceTypes := #[]
  staticTypes := #[]
  resolved := Array.replicate 196 none
  statics := none }

def pool29 : Array CpInfo := pool [(1, .methodref 2 3), (0, .class_ 4), (0, .nameAndType 5 6), (0, u "java/util/ImmutableCollections$AbstractImmutableList"), (0, u "<init>"), (0, u "()V"), (0, .methodref 8 9), (0, .class_ 10), (0, .nameAndType 11 12), (0, u "java/util/Objects"), (0, u "requireNonNull"), (0, u "(Ljava/lang/Object;)Ljava/lang/Object;"), (0, .fieldref 14 15), (0, .class_ 16), (0, .nameAndType 17 18), (0, u "java/util/ImmutableCollections$List12"), (0, u "e0"), (0, u "Ljava/lang/Object;"), (0, .fieldref 20 21), (0, .class_ 22), (0, .nameAndType 23 18), (0, u "java/util/ImmutableCollections"), (0, u "EMPTY"), (0, .fieldref 14 25), (0, .nameAndType 26 18), (0, u "e1"), (24, u "size"), (0, u "()I"), (17, .class_ 71), (0, u "java/io/Serializable"), (4, u "(Ljava/lang/Object;)V"), (11, u "isEmpty"), (0, u "()Z"), (0, u "get"), (0, u "(I)Ljava/lang/Object;")] 33

def k29c0 : Code := { maxStack := 2, maxLocals := 2, code := jdk_44_method_1_code, exceptionTable := #[], attributes := #[] }
def k29m0 : Method := { name := "<init>", desc := "(Ljava/lang/Object;)V", sig := { parameters := [(.object "java/lang/Object")], returnType := none }, accessFlags := 0, code := some k29c0 }
def k29c1 : Code := { maxStack := 2, maxLocals := 1, code := jdk_44_method_3_code, exceptionTable := #[], attributes := #[] }
def k29m1 : Method := { name := "size", desc := "()I", sig := { parameters := [], returnType := some .int }, accessFlags := 1, code := some k29c1 }
def k29c2 : Code := { maxStack := 1, maxLocals := 1, code := jdk_44_method_4_code, exceptionTable := #[], attributes := #[] }
def k29m2 : Method := { name := "isEmpty", desc := "()Z", sig := { parameters := [], returnType := some .boolean }, accessFlags := 1, code := some k29c2 }
def k29c3 : Code := { maxStack := 2, maxLocals := 2, code := jdk_44_method_5_code, exceptionTable := #[], attributes := #[] }
def k29m3 : Method := { name := "get", desc := "(I)Ljava/lang/Object;", sig := { parameters := [.int], returnType := some (.object "java/lang/Object") }, accessFlags := 1, code := some k29c3 }
def k29 : Class := { plain "java/util/ImmutableCollections$List12" (some 28) with
  accessFlags := 48
  interfaces := #[2]
  cf := some (fileOf pool29 14 #[.nestHost 20] #[{ accessFlags := 0, nameIndex := 5, descriptorIndex := 76, attributes := #[] }, { accessFlags := 1, nameIndex := 51, descriptorIndex := 52, attributes := #[] }, { accessFlags := 1, nameIndex := 88, descriptorIndex := 89, attributes := #[] }, { accessFlags := 1, nameIndex := 90, descriptorIndex := 91, attributes := #[] }] 48 2 #[70] #[{ accessFlags := 18, nameIndex := 17, descriptorIndex := 18, attributes := #[] }, { accessFlags := 18, nameIndex := 26, descriptorIndex := 18, attributes := #[] }])
  fields := #[{ name := "e0", type := (.object "java/lang/Object"), accessFlags := 18, slot := 0, constantValue := 0 }, { name := "e1", type := (.object "java/lang/Object"), accessFlags := 18, slot := 1, constantValue := 0 }]
  methods := #[k29m0, k29m1, k29m2, k29m3]
  instanceTypes := #[(.object "java/lang/Object"), (.object "java/lang/Object")]
  staticTypes := #[]
  resolved := Array.replicate 125 none
  statics := none }

def pool30 : Array CpInfo := pool [(2, .class_ 4), (1, u "java/util/ImmutableCollections$AbstractImmutableList"), (2, .fieldref 8 9), (0, .class_ 10), (0, .nameAndType 11 12), (0, u "java/util/ImmutableCollections$ListN"), (0, u "elements"), (0, u "[Ljava/lang/Object;"), (2, u "allowNulls"), (0, u "Z"), (42, .class_ 60), (0, u "java/io/Serializable"), (16, u "size"), (0, u "()I"), (35, .class_ 115), (0, u "java/util/ImmutableCollections")] 3

def k30c0 : Code := { maxStack := 1, maxLocals := 1, code := jdk_45_method_3_code, exceptionTable := #[], attributes := #[] }
def k30m0 : Method := { name := "size", desc := "()I", sig := { parameters := [], returnType := some .int }, accessFlags := 1, code := some k30c0 }
def k30 : Class := { plain "java/util/ImmutableCollections$ListN" (some 28) with
  accessFlags := 48
  interfaces := #[2]
  cf := some (fileOf pool30 8 #[.nestHost 114] #[{ accessFlags := 1, nameIndex := 77, descriptorIndex := 78, attributes := #[] }] 48 2 #[59] #[{ accessFlags := 18, nameIndex := 11, descriptorIndex := 12, attributes := #[] }, { accessFlags := 18, nameIndex := 15, descriptorIndex := 16, attributes := #[] }])
  fields := #[{ name := "elements", type := (.array (.object "java/lang/Object")), accessFlags := 18, slot := 0, constantValue := 0 }, { name := "allowNulls", type := .boolean, accessFlags := 18, slot := 1, constantValue := 0 }]
  methods := #[k30m0]
  instanceTypes := #[(.array (.object "java/lang/Object")), .boolean]
  staticTypes := #[]
  resolved := Array.replicate 119 none
  statics := none }

def pool31 : Array CpInfo := pool [(2, .class_ 4), (1, u "java/lang/Object"), (0, u "<init>"), (0, u "()V"), (7, .class_ 16), (1, u "java/util/Arrays"), (57, .class_ 76), (1, u "java/util/Arrays$NaturalOrder"), (9, .methodref 2 87), (0, .nameAndType 88 89), (0, u "getClass"), (0, u "()Ljava/lang/Class;"), (19, u "()Ljava/lang/Object;"), (0, .class_ 111), (0, u "[Ljava/lang/Object;"), (1, .class_ 115), (1, u "java/util/Arrays$LegacyMergeSort"), (1, u "Z"), (10, .nameAndType 129 109), (0, u "clone"), (9, u "copyOfRange"), (10, .methodref 151 152), (0, .class_ 153), (0, .nameAndType 154 155), (0, u "java/lang/System"), (0, u "arraycopy"), (0, u "(Ljava/lang/Object;ILjava/lang/Object;II)V"), (144, .methodref 14 301), (0, .nameAndType 302 303), (0, u "copyOf"), (0, u "([Ljava/lang/Object;ILjava/lang/Class;)[Ljava/lang/Object;"), (0, .methodref 305 306), (0, .class_ 307), (0, .nameAndType 308 309), (0, u "java/lang/Math"), (0, u "min"), (0, u "(II)I"), (0, .methodref 311 128), (0, .class_ 312), (0, u "[B"), (26, .methodref 14 340), (0, .nameAndType 341 342), (0, u "copyOfRangeByte"), (0, u "([BII)[B"), (0, .methodref 14 344), (0, .nameAndType 345 346), (0, u "checkLength"), (0, u "(II)V"), (28, .class_ 376), (0, u "java/util/Arrays$ArrayList"), (68, u "$assertionsDisabled"), (269, u "MIN_ARRAY_SORT_GRAN"), (0, u "I"), (2, u "INSERTIONSORT_THRESHOLD"), (140, u "([Ljava/lang/Object;I)[Ljava/lang/Object;"), (8, u "([BI)[B"), (105, .class_ 976), (0, u "java/util/Arrays$ArrayItr")] 52

def k31m0 : Method := { name := "<init>", desc := "()V", sig := { parameters := [], returnType := none }, accessFlags := 2, code := none }
def k31c1 : Code := { maxStack := 3, maxLocals := 2, code := jdk_65_method_119_code, exceptionTable := #[], attributes := #[] }
def k31m1 : Method := { name := "copyOf", desc := "([Ljava/lang/Object;I)[Ljava/lang/Object;", sig := { parameters := [(.array (.object "java/lang/Object")), .int], returnType := some (.array (.object "java/lang/Object")) }, accessFlags := 9, code := some k31c1 }
def k31c2 : Code := { maxStack := 6, maxLocals := 4, code := jdk_65_method_120_code, exceptionTable := #[], attributes := #[] }
def k31m2 : Method := { name := "copyOf", desc := "([Ljava/lang/Object;ILjava/lang/Class;)[Ljava/lang/Object;", sig := { parameters := [(.array (.object "java/lang/Object")), .int, (.object "java/lang/Class")], returnType := some (.array (.object "java/lang/Object")) }, accessFlags := 9, code := some k31c2 }
def k31c3 : Code := { maxStack := 6, maxLocals := 3, code := jdk_65_method_121_code, exceptionTable := #[], attributes := #[] }
def k31m3 : Method := { name := "copyOf", desc := "([BI)[B", sig := { parameters := [(.array .byte), .int], returnType := some (.array .byte) }, accessFlags := 9, code := some k31c3 }
def k31c4 : Code := { maxStack := 4, maxLocals := 2, code := jdk_65_method_131_code, exceptionTable := #[], attributes := #[] }
def k31m4 : Method := { name := "checkLength", desc := "(II)V", sig := { parameters := [.int, .int], returnType := none }, accessFlags := 10, code := some k31c4 }
def k31c5 : Code := { maxStack := 3, maxLocals := 3, code := jdk_65_method_132_code, exceptionTable := #[], attributes := #[] }
def k31m5 : Method := { name := "copyOfRange", desc := "([BII)[B", sig := { parameters := [(.array .byte), .int, .int], returnType := some (.array .byte) }, accessFlags := 9, code := some k31c5 }
def k31c6 : Code := { maxStack := 6, maxLocals := 5, code := jdk_65_method_133_code, exceptionTable := #[], attributes := #[] }
def k31m6 : Method := { name := "copyOfRangeByte", desc := "([BII)[B", sig := { parameters := [(.array .byte), .int, .int], returnType := some (.array .byte) }, accessFlags := 10, code := some k31c6 }
def k31 : Class := { plain "java/util/Arrays" (some 0) with
  accessFlags := 49
  interfaces := #[]
  cf := some (fileOf pool31 14 #[.nestMembers #[975, 375, 113, 74]] #[{ accessFlags := 2, nameIndex := 5, descriptorIndex := 6, attributes := #[] }, { accessFlags := 9, nameIndex := 302, descriptorIndex := 860, attributes := #[] }, { accessFlags := 9, nameIndex := 302, descriptorIndex := 303, attributes := #[] }, { accessFlags := 9, nameIndex := 302, descriptorIndex := 869, attributes := #[] }, { accessFlags := 10, nameIndex := 345, descriptorIndex := 346, attributes := #[] }, { accessFlags := 9, nameIndex := 139, descriptorIndex := 342, attributes := #[] }, { accessFlags := 10, nameIndex := 341, descriptorIndex := 342, attributes := #[] }] 49 2 #[] #[{ accessFlags := 26, nameIndex := 715, descriptorIndex := 716, attributes := #[] }, { accessFlags := 26, nameIndex := 719, descriptorIndex := 716, attributes := #[] }, { accessFlags := 4120, nameIndex := 445, descriptorIndex := 117, attributes := #[] }])
  fields := #[{ name := "MIN_ARRAY_SORT_GRAN", type := .int, accessFlags := 26, slot := 0, constantValue := 0 }, { name := "INSERTIONSORT_THRESHOLD", type := .int, accessFlags := 26, slot := 1, constantValue := 0 }, { name := "$assertionsDisabled", type := .boolean, accessFlags := 4120, slot := 2, constantValue := 0 }]
  methods := #[k31m0, k31m1, k31m2, k31m3, k31m4, k31m5, k31m6]
  instanceTypes := #[]
  staticTypes := #[.int, .int, .boolean]
  resolved := Array.replicate 1029 none
  statics := none }

def pool32 : Array CpInfo := pool [(2, .class_ 4), (1, u "java/lang/Object"), (0, u "<init>"), (0, u "()V"), (1, .class_ 10), (1, u "java/lang/System"), (0, u "allowSecurityManager"), (0, u "I"), (16, u "cons"), (0, u "Ljava/io/Console;"), (77, .class_ 110), (1, u "java/lang/System$CallersHolder"), (43, u "initialErrStream"), (0, u "Ljava/io/PrintStream;"), (19, u "security"), (0, u "Ljava/lang/SecurityManager;"), (31, .class_ 209), (0, u "java/lang/System$1"), (7, u "props"), (0, u "Ljava/util/Properties;"), (2, u "lineSeparator"), (0, u "Ljava/lang/String;"), (96, .class_ 321), (1, u "java/lang/System$LoggerFinder"), (5, .class_ 328), (0, u "java/lang/System$Logger"), (67, u "err"), (2, u "out"), (91, u "notSupportedJnuEncoding"), (15, u "in"), (17, u "initialIn"), (0, u "Ljava/io/InputStream;"), (35, u "bootLayer"), (0, u "Ljava/lang/ModuleLayer;"), (99, .class_ 664), (0, u "java/lang/System$2"), (9, u "NEVER"), (2, u "MAYBE"), (49, u "arraycopy"), (0, u "(Ljava/lang/Object;ILjava/lang/Object;II)V"), (72, .class_ 802), (0, u "java/lang/System$Logger$Level")] 31

def k32m0 : Method := { name := "<init>", desc := "()V", sig := { parameters := [], returnType := none }, accessFlags := 2, code := none }
def k32m1 : Method := { name := "arraycopy", desc := "(Ljava/lang/Object;ILjava/lang/Object;II)V", sig := { parameters := [(.object "java/lang/Object"), .int, (.object "java/lang/Object"), .int, .int], returnType := none }, accessFlags := 265, code := none }
def k32 : Class := { plain "java/lang/System" (some 0) with
  accessFlags := 49
  interfaces := #[]
  cf := some (fileOf pool32 8 #[.nestMembers #[319, 327, 801, 108, 663, 208]] #[{ accessFlags := 2, nameIndex := 5, descriptorIndex := 6, attributes := #[] }, { accessFlags := 265, nameIndex := 727, descriptorIndex := 728, attributes := #[] }] 49 2 #[] #[{ accessFlags := 25, nameIndex := 507, descriptorIndex := 526, attributes := #[] }, { accessFlags := 25, nameIndex := 399, descriptorIndex := 155, attributes := #[] }, { accessFlags := 25, nameIndex := 396, descriptorIndex := 155, attributes := #[] }, { accessFlags := 10, nameIndex := 525, descriptorIndex := 526, attributes := #[] }, { accessFlags := 26, nameIndex := 674, descriptorIndex := 12, attributes := #[] }, { accessFlags := 26, nameIndex := 677, descriptorIndex := 12, attributes := #[] }, { accessFlags := 10, nameIndex := 11, descriptorIndex := 12, attributes := #[] }, { accessFlags := 74, nameIndex := 175, descriptorIndex := 176, attributes := #[] }, { accessFlags := 10, nameIndex := 491, descriptorIndex := 222, attributes := #[] }, { accessFlags := 74, nameIndex := 29, descriptorIndex := 30, attributes := #[] }, { accessFlags := 74, nameIndex := 154, descriptorIndex := 155, attributes := #[] }, { accessFlags := 10, nameIndex := 217, descriptorIndex := 218, attributes := #[] }, { accessFlags := 10, nameIndex := 221, descriptorIndex := 222, attributes := #[] }, { accessFlags := 8, nameIndex := 562, descriptorIndex := 563, attributes := #[] }])
  fields := #[{ name := "in", type := (.object "java/io/InputStream"), accessFlags := 25, slot := 0, constantValue := 0 }, { name := "out", type := (.object "java/io/PrintStream"), accessFlags := 25, slot := 1, constantValue := 0 }, { name := "err", type := (.object "java/io/PrintStream"), accessFlags := 25, slot := 2, constantValue := 0 }, { name := "initialIn", type := (.object "java/io/InputStream"), accessFlags := 10, slot := 3, constantValue := 0 }, { name := "NEVER", type := .int, accessFlags := 26, slot := 4, constantValue := 0 }, { name := "MAYBE", type := .int, accessFlags := 26, slot := 5, constantValue := 0 }, { name := "allowSecurityManager", type := .int, accessFlags := 10, slot := 6, constantValue := 0 }, { name := "security", type := (.object "java/lang/SecurityManager"), accessFlags := 74, slot := 7, constantValue := 0 }, { name := "notSupportedJnuEncoding", type := (.object "java/lang/String"), accessFlags := 10, slot := 8, constantValue := 0 }, { name := "cons", type := (.object "java/io/Console"), accessFlags := 74, slot := 9, constantValue := 0 }, { name := "initialErrStream", type := (.object "java/io/PrintStream"), accessFlags := 74, slot := 10, constantValue := 0 }, { name := "props", type := (.object "java/util/Properties"), accessFlags := 10, slot := 11, constantValue := 0 }, { name := "lineSeparator", type := (.object "java/lang/String"), accessFlags := 10, slot := 12, constantValue := 0 }, { name := "bootLayer", type := (.object "java/lang/ModuleLayer"), accessFlags := 8, slot := 13, constantValue := 0 }]
  methods := #[k32m0, k32m1]
  instanceTypes := #[]
  staticTypes := #[(.object "java/io/InputStream"), (.object "java/io/PrintStream"), (.object "java/io/PrintStream"), (.object "java/io/InputStream"), .int, .int, .int, (.object "java/lang/SecurityManager"), (.object "java/lang/String"), (.object "java/io/Console"), (.object "java/io/PrintStream"), (.object "java/util/Properties"), (.object "java/lang/String"), (.object "java/lang/ModuleLayer")]
  resolved := Array.replicate 834 none
  statics := none }

def pool33 : Array CpInfo := pool [(2, .class_ 4), (1, u "java/lang/Object"), (0, u "<init>"), (0, u "()V"), (35, .class_ 44), (1, u "java/util/Objects"), (0, u "requireNonNull"), (0, u "(Ljava/lang/Object;)Ljava/lang/Object;"), (47, u "(Ljava/lang/Object;Ljava/lang/String;)Ljava/lang/Object;")] 89

def k33m0 : Method := { name := "<init>", desc := "()V", sig := { parameters := [], returnType := none }, accessFlags := 2, code := none }
def k33c1 : Code := { maxStack := 2, maxLocals := 1, code := jdk_31_method_10_code, exceptionTable := #[], attributes := #[] }
def k33m1 : Method := { name := "requireNonNull", desc := "(Ljava/lang/Object;)Ljava/lang/Object;", sig := { parameters := [(.object "java/lang/Object")], returnType := some (.object "java/lang/Object") }, accessFlags := 9, code := some k33c1 }
def k33c2 : Code := { maxStack := 3, maxLocals := 2, code := jdk_31_method_11_code, exceptionTable := #[], attributes := #[] }
def k33m2 : Method := { name := "requireNonNull", desc := "(Ljava/lang/Object;Ljava/lang/String;)Ljava/lang/Object;", sig := { parameters := [(.object "java/lang/Object"), (.object "java/lang/String")], returnType := some (.object "java/lang/Object") }, accessFlags := 9, code := some k33c2 }
def k33 : Class := { plain "java/util/Objects" (some 0) with
  accessFlags := 49
  interfaces := #[]
  cf := some (fileOf pool33 42 #[] #[{ accessFlags := 2, nameIndex := 5, descriptorIndex := 6, attributes := #[] }, { accessFlags := 9, nameIndex := 45, descriptorIndex := 46, attributes := #[] }, { accessFlags := 9, nameIndex := 45, descriptorIndex := 94, attributes := #[] }] 49 2 #[] #[])
  fields := #[]
  methods := #[k33m0, k33m1, k33m2]
  instanceTypes := #[]
  staticTypes := #[]
  resolved := Array.replicate 184 none
  statics := none }

def pool34 : Array CpInfo := pool [(16, .class_ 18), (1, u "java/util/Iterator"), (0, u "hasNext"), (0, u "()Z"), (2, u "next"), (0, u "()Ljava/lang/Object;"), (6, .class_ 32), (0, u "java/lang/Object")] 20

def k34m0 : Method := { name := "hasNext", desc := "()Z", sig := { parameters := [], returnType := some .boolean }, accessFlags := 1025, code := none }
def k34m1 : Method := { name := "next", desc := "()Ljava/lang/Object;", sig := { parameters := [], returnType := some (.object "java/lang/Object") }, accessFlags := 1025, code := none }
def k34 : Class := { plain "java/util/Iterator" (some 0) with
  accessFlags := 1537
  interfaces := #[]
  cf := some (fileOf pool34 16 #[] #[{ accessFlags := 1025, nameIndex := 19, descriptorIndex := 20, attributes := #[] }, { accessFlags := 1025, nameIndex := 23, descriptorIndex := 24, attributes := #[] }] 1537 31 #[] #[])
  fields := #[]
  methods := #[k34m0, k34m1]
  instanceTypes := #[]
  staticTypes := #[]
  resolved := Array.replicate 53 none
  statics := none }

def pool35 : Array CpInfo := pool [(1, .class_ 2), (0, u "java/util/ListIterator"), (0, .class_ 4), (0, u "java/lang/Object"), (0, .class_ 6), (0, u "java/util/Iterator")] 20

def k35 : Class := { plain "java/util/ListIterator" (some 0) with
  accessFlags := 1537
  interfaces := #[34]
  cf := some (fileOf pool35 1 #[] #[] 1537 3 #[5] #[])
  fields := #[]
  methods := #[]
  instanceTypes := #[]
  staticTypes := #[]
  resolved := Array.replicate 27 none
  statics := none }

def pool36 : Array CpInfo := pool [(1, .methodref 2 3), (0, .class_ 4), (0, .nameAndType 5 6), (0, u "java/lang/Object"), (0, u "<init>"), (0, u "()V"), (0, .fieldref 8 9), (0, .class_ 10), (0, .nameAndType 11 12), (0, u "java/util/ImmutableCollections$ListItr"), (0, u "list"), (0, u "Ljava/util/List;"), (0, .fieldref 8 14), (0, .nameAndType 15 16), (0, u "size"), (0, u "I"), (0, .fieldref 8 18), (0, .nameAndType 19 16), (0, u "cursor"), (0, .fieldref 8 21), (0, .nameAndType 22 23), (0, u "isListIterator"), (0, u "Z"), (0, .interfaceMethodref 25 26), (0, .class_ 27), (0, .nameAndType 28 29), (0, u "java/util/List"), (0, u "get"), (0, u "(I)Ljava/lang/Object;"), (6, .class_ 38), (1, u "java/util/ImmutableCollections"), (2, .class_ 42), (0, u "java/util/ListIterator"), (4, u "(Ljava/util/List;I)V"), (11, u "hasNext"), (0, u "()Z"), (1, u "next"), (0, u "()Ljava/lang/Object;")] 22

def k36c0 : Code := { maxStack := 2, maxLocals := 3, code := jdk_53_method_1_code, exceptionTable := #[], attributes := #[] }
def k36m0 : Method := { name := "<init>", desc := "(Ljava/util/List;I)V", sig := { parameters := [(.object "java/util/List"), .int], returnType := none }, accessFlags := 0, code := some k36c0 }
def k36c1 : Code := { maxStack := 2, maxLocals := 1, code := jdk_53_method_3_code, exceptionTable := #[], attributes := #[] }
def k36m1 : Method := { name := "hasNext", desc := "()Z", sig := { parameters := [], returnType := some .boolean }, accessFlags := 1, code := some k36c1 }
def k36c2 : Code := { maxStack := 3, maxLocals := 3, code := jdk_53_method_4_code, exceptionTable := #[{ startPc := 0, endPc := 24, handlerPc := 25, catchType := 30 }], attributes := #[] }
def k36m2 : Method := { name := "next", desc := "()Ljava/lang/Object;", sig := { parameters := [], returnType := some (.object "java/lang/Object") }, accessFlags := 1, code := some k36c2 }
def k36 : Class := { plain "java/util/ImmutableCollections$ListItr" (some 0) with
  accessFlags := 48
  interfaces := #[35]
  cf := some (fileOf pool36 8 #[.nestHost 36] #[{ accessFlags := 0, nameIndex := 5, descriptorIndex := 47, attributes := #[] }, { accessFlags := 1, nameIndex := 59, descriptorIndex := 60, attributes := #[] }, { accessFlags := 1, nameIndex := 62, descriptorIndex := 63, attributes := #[] }] 48 2 #[41] #[{ accessFlags := 18, nameIndex := 11, descriptorIndex := 12, attributes := #[] }, { accessFlags := 18, nameIndex := 15, descriptorIndex := 16, attributes := #[] }, { accessFlags := 18, nameIndex := 22, descriptorIndex := 23, attributes := #[] }, { accessFlags := 2, nameIndex := 19, descriptorIndex := 16, attributes := #[] }])
  fields := #[{ name := "list", type := (.object "java/util/List"), accessFlags := 18, slot := 0, constantValue := 0 }, { name := "size", type := .int, accessFlags := 18, slot := 1, constantValue := 0 }, { name := "isListIterator", type := .boolean, accessFlags := 18, slot := 2, constantValue := 0 }, { name := "cursor", type := .int, accessFlags := 2, slot := 3, constantValue := 0 }]
  methods := #[k36m0, k36m1, k36m2]
  instanceTypes := #[(.object "java/util/List"), .int, .boolean, .int]
  staticTypes := #[]
  resolved := Array.replicate 86 none
  statics := none }

def pool37 : Array CpInfo := pool [(1, .class_ 2), (0, u "java/lang/Appendable"), (0, .class_ 4), (0, u "java/lang/Object")] 9

def k37 : Class := { plain "java/lang/Appendable" (some 0) with
  accessFlags := 1537
  interfaces := #[]
  cf := some (fileOf pool37 1 #[] #[] 1537 3 #[] #[])
  fields := #[]
  methods := #[]
  instanceTypes := #[]
  staticTypes := #[]
  resolved := Array.replicate 14 none
  statics := none }

def pool38 : Array CpInfo := pool [(1, .class_ 2), (0, u "java/lang/String"), (0, .methodref 4 5), (0, .class_ 6), (0, .nameAndType 7 8), (0, u "java/lang/Object"), (0, u "<init>"), (0, u "()V"), (1, .class_ 12), (1, u "java/lang/AbstractStringBuilder"), (0, u "EMPTYVALUE"), (0, u "[B"), (0, .fieldref 10 16), (0, .nameAndType 17 14), (0, u "value"), (0, .fieldref 1 19), (0, .nameAndType 20 21), (0, u "COMPACT_STRINGS"), (0, u "Z"), (0, .fieldref 10 23), (0, .nameAndType 24 25), (0, u "coder"), (0, u "B"), (6, .methodref 1 33), (0, .nameAndType 34 35), (0, u "length"), (0, u "()I"), (3, .integer 2147483647), (0, .methodref 1 41), (0, .nameAndType 24 42), (0, u "()B"), (2, u "append"), (0, u "(Ljava/lang/String;)Ljava/lang/AbstractStringBuilder;"), (1, .class_ 49), (0, u "java/lang/CharSequence"), (19, u "(Ljava/lang/String;)V"), (5, u "maybeLatin1"), (3, .fieldref 10 80), (0, .nameAndType 81 82), (0, u "count"), (0, u "I"), (0, .methodref 10 84), (0, .nameAndType 85 86), (0, u "isLatin1"), (0, u "()Z"), (1, .class_ 90), (1, u "java/lang/StringLatin1"), (9, .methodref 10 101), (0, .nameAndType 102 103), (0, u "ensureCapacityInternal"), (0, u "(I)V"), (0, .methodref 10 105), (0, .nameAndType 106 107), (0, u "newCapacity"), (0, u "(I)I"), (0, .methodref 109 110), (0, .class_ 111), (0, .nameAndType 112 113), (0, u "java/util/Arrays"), (0, u "copyOf"), (0, u "([BI)[B"), (0, .methodref 115 116), (0, .class_ 117), (0, .nameAndType 118 119), (0, u "jdk/internal/util/ArraysSupport"), (0, u "newLength"), (0, u "(III)I"), (71, .methodref 88 192), (0, .nameAndType 193 194), (0, u "canEncode"), (0, u "(C)Z"), (13, .methodref 10 209), (0, .nameAndType 210 211), (0, u "putStringAt"), (0, u "(ILjava/lang/String;)V"), (5, u "inflateIfNeededFor"), (2, .nameAndType 221 222), (0, u "getBytes"), (0, u "([BIB)V"), (69, u "(C)Ljava/lang/AbstractStringBuilder;"), (104, .methodref 10 398), (0, .nameAndType 217 69), (0, .methodref 1 220), (3, u "()[B"), (40, .class_ 445), (0, u "java/lang/Appendable"), (106, u "getValue")] 56

def k38m0 : Method := { name := "<init>", desc := "()V", sig := { parameters := [], returnType := none }, accessFlags := 0, code := none }
def k38c1 : Code := { maxStack := 2, maxLocals := 2, code := jdk_68_method_2_code, exceptionTable := #[], attributes := #[] }
def k38m1 : Method := { name := "<init>", desc := "(I)V", sig := { parameters := [.int], returnType := none }, accessFlags := 0, code := some k38c1 }
def k38c2 : Code := { maxStack := 1, maxLocals := 1, code := jdk_68_method_6_code, exceptionTable := #[], attributes := #[] }
def k38m2 : Method := { name := "length", desc := "()I", sig := { parameters := [], returnType := some .int }, accessFlags := 1, code := some k38c2 }
def k38c3 : Code := { maxStack := 4, maxLocals := 3, code := jdk_68_method_9_code, exceptionTable := #[], attributes := #[] }
def k38m3 : Method := { name := "ensureCapacityInternal", desc := "(I)V", sig := { parameters := [.int], returnType := none }, accessFlags := 2, code := some k38c3 }
def k38c4 : Code := { maxStack := 5, maxLocals := 6, code := jdk_68_method_10_code, exceptionTable := #[], attributes := #[] }
def k38m4 : Method := { name := "newCapacity", desc := "(I)I", sig := { parameters := [.int], returnType := some .int }, accessFlags := 2, code := some k38c4 }
def k38c5 : Code := { maxStack := 3, maxLocals := 3, code := jdk_68_method_22_code, exceptionTable := #[], attributes := #[] }
def k38m5 : Method := { name := "append", desc := "(Ljava/lang/String;)Ljava/lang/AbstractStringBuilder;", sig := { parameters := [(.object "java/lang/String")], returnType := some (.object "java/lang/AbstractStringBuilder") }, accessFlags := 1, code := some k38c5 }
def k38c6 : Code := { maxStack := 5, maxLocals := 2, code := jdk_68_method_31_code, exceptionTable := #[], attributes := #[] }
def k38m6 : Method := { name := "append", desc := "(C)Ljava/lang/AbstractStringBuilder;", sig := { parameters := [.char], returnType := some (.object "java/lang/AbstractStringBuilder") }, accessFlags := 1, code := some k38c6 }
def k38c7 : Code := { maxStack := 1, maxLocals := 1, code := jdk_68_method_64_code, exceptionTable := #[], attributes := #[] }
def k38m7 : Method := { name := "getValue", desc := "()[B", sig := { parameters := [], returnType := some (.array .byte) }, accessFlags := 16, code := some k38c7 }
def k38c8 : Code := { maxStack := 1, maxLocals := 1, code := jdk_68_method_68_code, exceptionTable := #[], attributes := #[] }
def k38m8 : Method := { name := "isLatin1", desc := "()Z", sig := { parameters := [], returnType := some .boolean }, accessFlags := 16, code := some k38c8 }
def k38c9 : Code := { maxStack := 2, maxLocals := 2, code := jdk_68_method_71_code, exceptionTable := #[], attributes := #[] }
def k38m9 : Method := { name := "inflateIfNeededFor", desc := "(Ljava/lang/String;)V", sig := { parameters := [(.object "java/lang/String")], returnType := none }, accessFlags := 2, code := some k38c9 }
def k38c10 : Code := { maxStack := 4, maxLocals := 3, code := jdk_68_method_73_code, exceptionTable := #[], attributes := #[] }
def k38m10 : Method := { name := "putStringAt", desc := "(ILjava/lang/String;)V", sig := { parameters := [.int, (.object "java/lang/String")], returnType := none }, accessFlags := 2, code := some k38c10 }
def k38 : Class := { plain "java/lang/AbstractStringBuilder" (some 0) with
  accessFlags := 1056
  interfaces := #[37, 4]
  cf := some (fileOf pool38 10 #[] #[{ accessFlags := 0, nameIndex := 7, descriptorIndex := 8, attributes := #[] }, { accessFlags := 0, nameIndex := 7, descriptorIndex := 103, attributes := #[] }, { accessFlags := 1, nameIndex := 34, descriptorIndex := 35, attributes := #[] }, { accessFlags := 2, nameIndex := 102, descriptorIndex := 103, attributes := #[] }, { accessFlags := 2, nameIndex := 106, descriptorIndex := 107, attributes := #[] }, { accessFlags := 1, nameIndex := 45, descriptorIndex := 46, attributes := #[] }, { accessFlags := 1, nameIndex := 45, descriptorIndex := 292, attributes := #[] }, { accessFlags := 16, nameIndex := 552, descriptorIndex := 403, attributes := #[] }, { accessFlags := 16, nameIndex := 85, descriptorIndex := 86, attributes := #[] }, { accessFlags := 2, nameIndex := 217, descriptorIndex := 69, attributes := #[] }, { accessFlags := 2, nameIndex := 210, descriptorIndex := 211, attributes := #[] }] 1056 4 #[444, 48] #[{ accessFlags := 0, nameIndex := 17, descriptorIndex := 14, attributes := #[] }, { accessFlags := 0, nameIndex := 24, descriptorIndex := 25, attributes := #[] }, { accessFlags := 0, nameIndex := 75, descriptorIndex := 21, attributes := #[] }, { accessFlags := 0, nameIndex := 81, descriptorIndex := 82, attributes := #[] }, { accessFlags := 26, nameIndex := 13, descriptorIndex := 14, attributes := #[] }])
  fields := #[{ name := "value", type := (.array .byte), accessFlags := 0, slot := 0, constantValue := 0 }, { name := "coder", type := .byte, accessFlags := 0, slot := 1, constantValue := 0 }, { name := "maybeLatin1", type := .boolean, accessFlags := 0, slot := 2, constantValue := 0 }, { name := "count", type := .int, accessFlags := 0, slot := 3, constantValue := 0 }, { name := "EMPTYVALUE", type := (.array .byte), accessFlags := 26, slot := 0, constantValue := 0 }]
  methods := #[k38m0, k38m1, k38m2, k38m3, k38m4, k38m5, k38m6, k38m7, k38m8, k38m9, k38m10]
  instanceTypes := #[(.array .byte), .byte, .boolean, .int]
  staticTypes := #[(.array .byte)]
  resolved := Array.replicate 609 none
  statics := none }

def pool39 : Array CpInfo := pool [(1, .methodref 2 3), (0, .class_ 4), (0, .nameAndType 5 6), (0, u "java/lang/AbstractStringBuilder"), (0, u "<init>"), (0, u "(I)V"), (11, .class_ 20), (1, u "java/lang/String"), (3, .class_ 26), (1, u "java/lang/StringBuilder"), (0, u "append"), (0, u "(Ljava/lang/String;)Ljava/lang/StringBuilder;"), (0, .methodref 2 30), (0, .nameAndType 27 31), (0, u "(Ljava/lang/String;)Ljava/lang/AbstractStringBuilder;"), (18, .methodref 2 51), (0, .nameAndType 27 52), (0, u "(C)Ljava/lang/AbstractStringBuilder;"), (84, .methodref 18 138), (0, .nameAndType 5 139), (0, u "(Ljava/lang/StringBuilder;)V"), (5, u "()V"), (10, u "()I"), (129, u "(C)Ljava/lang/StringBuilder;"), (56, .methodref 2 344), (0, .nameAndType 345 156), (0, u "length"), (3, .class_ 350), (0, u "java/lang/Appendable"), (0, .class_ 352), (0, u "java/io/Serializable"), (0, .class_ 354), (0, u "java/lang/Comparable"), (0, .class_ 356), (0, u "java/lang/CharSequence"), (0, u "serialVersionUID"), (0, u "J"), (40, u "toString"), (0, u "()Ljava/lang/String;")] 21

def k39c0 : Code := { maxStack := 2, maxLocals := 1, code := jdk_67_method_1_code, exceptionTable := #[], attributes := #[] }
def k39m0 : Method := { name := "<init>", desc := "()V", sig := { parameters := [], returnType := none }, accessFlags := 1, code := some k39c0 }
def k39c1 : Code := { maxStack := 2, maxLocals := 2, code := jdk_67_method_2_code, exceptionTable := #[], attributes := #[] }
def k39m1 : Method := { name := "<init>", desc := "(I)V", sig := { parameters := [.int], returnType := none }, accessFlags := 1, code := some k39c1 }
def k39c2 : Code := { maxStack := 2, maxLocals := 2, code := jdk_67_method_7_code, exceptionTable := #[], attributes := #[] }
def k39m2 : Method := { name := "append", desc := "(Ljava/lang/String;)Ljava/lang/StringBuilder;", sig := { parameters := [(.object "java/lang/String")], returnType := some (.object "java/lang/StringBuilder") }, accessFlags := 1, code := some k39c2 }
def k39c3 : Code := { maxStack := 2, maxLocals := 2, code := jdk_67_method_14_code, exceptionTable := #[], attributes := #[] }
def k39m3 : Method := { name := "append", desc := "(C)Ljava/lang/StringBuilder;", sig := { parameters := [.char], returnType := some (.object "java/lang/StringBuilder") }, accessFlags := 1, code := some k39c3 }
def k39c4 : Code := { maxStack := 3, maxLocals := 1, code := jdk_67_method_42_code, exceptionTable := #[], attributes := #[] }
def k39m4 : Method := { name := "toString", desc := "()Ljava/lang/String;", sig := { parameters := [], returnType := some (.object "java/lang/String") }, accessFlags := 1, code := some k39c4 }
def k39c5 : Code := { maxStack := 1, maxLocals := 1, code := jdk_67_method_93_code, exceptionTable := #[], attributes := #[] }
def k39m5 : Method := { name := "length", desc := "()I", sig := { parameters := [], returnType := some .int }, accessFlags := 4161, code := some k39c5 }
def k39 : Class := { plain "java/lang/StringBuilder" (some 38) with
  accessFlags := 49
  interfaces := #[37, 2, 3, 4]
  cf := some (fileOf pool39 24 #[] #[{ accessFlags := 1, nameIndex := 5, descriptorIndex := 145, attributes := #[] }, { accessFlags := 1, nameIndex := 5, descriptorIndex := 6, attributes := #[] }, { accessFlags := 1, nameIndex := 27, descriptorIndex := 28, attributes := #[] }, { accessFlags := 1, nameIndex := 27, descriptorIndex := 286, attributes := #[] }, { accessFlags := 1, nameIndex := 399, descriptorIndex := 400, attributes := #[] }, { accessFlags := 4161, nameIndex := 345, descriptorIndex := 156, attributes := #[] }] 49 2 #[349, 351, 353, 355] #[{ accessFlags := 24, nameIndex := 357, descriptorIndex := 358, attributes := #[] }])
  fields := #[{ name := "serialVersionUID", type := .long, accessFlags := 24, slot := 0, constantValue := 0 }]
  methods := #[k39m0, k39m1, k39m2, k39m3, k39m4, k39m5]
  instanceTypes := #[(.array .byte), .byte, .boolean, .int]
  staticTypes := #[.long]
  resolved := Array.replicate 422 none
  statics := none }

def pool40 : Array CpInfo := pool [(9, u "<init>"), (6, .class_ 18), (1, u "java/lang/Object"), (0, u "()V"), (1, .class_ 23), (1, u "jdk/internal/util/ArraysSupport"), (0, u "LOG2_ARRAY_LONG_INDEX_SCALE"), (0, u "I"), (2, u "U"), (0, u "Ljdk/internal/misc/Unsafe;"), (8, u "BIG_ENDIAN"), (0, u "Z"), (8, u "LOG2_BYTE_BIT_SIZE"), (4, u "LOG2_ARRAY_INT_INDEX_SCALE"), (54, u "JLA"), (0, u "Ljdk/internal/access/JavaLangAccess;"), (11, u "LOG2_ARRAY_BOOLEAN_INDEX_SCALE"), (9, u "LOG2_ARRAY_BYTE_INDEX_SCALE"), (5, u "LOG2_ARRAY_CHAR_INDEX_SCALE"), (5, u "LOG2_ARRAY_SHORT_INDEX_SCALE"), (18, u "LOG2_ARRAY_FLOAT_INDEX_SCALE"), (24, u "LOG2_ARRAY_DOUBLE_INDEX_SCALE"), (6, .methodref 195 196), (0, .class_ 197), (0, .nameAndType 198 199), (0, u "java/lang/Math"), (0, u "max"), (0, u "(II)I"), (0, .integer 2147483639), (76, u "T_BOOLEAN"), (2, u "T_CHAR"), (1, u "T_FLOAT"), (1, u "T_DOUBLE"), (1, u "T_BYTE"), (1, u "T_SHORT"), (1, u "T_INT"), (1, u "T_LONG"), (1, u "SOFT_MAX_ARRAY_LENGTH"), (56, u "newLength"), (0, u "(III)I")] 25

def k40m0 : Method := { name := "<init>", desc := "()V", sig := { parameters := [], returnType := none }, accessFlags := 2, code := none }
def k40c1 : Code := { maxStack := 3, maxLocals := 4, code := jdk_48_method_27_code, exceptionTable := #[], attributes := #[] }
def k40m1 : Method := { name := "newLength", desc := "(III)I", sig := { parameters := [.int, .int, .int], returnType := some .int }, accessFlags := 9, code := some k40c1 }
def k40 : Class := { plain "jdk/internal/util/ArraysSupport" (some 0) with
  accessFlags := 33
  interfaces := #[]
  cf := some (fileOf pool40 21 #[] #[{ accessFlags := 2, nameIndex := 9, descriptorIndex := 19, attributes := #[] }, { accessFlags := 9, nameIndex := 351, descriptorIndex := 352, attributes := #[] }] 33 16 #[] #[{ accessFlags := 24, nameIndex := 28, descriptorIndex := 29, attributes := #[] }, { accessFlags := 26, nameIndex := 38, descriptorIndex := 39, attributes := #[] }, { accessFlags := 25, nameIndex := 121, descriptorIndex := 25, attributes := #[] }, { accessFlags := 25, nameIndex := 131, descriptorIndex := 25, attributes := #[] }, { accessFlags := 25, nameIndex := 137, descriptorIndex := 25, attributes := #[] }, { accessFlags := 25, nameIndex := 143, descriptorIndex := 25, attributes := #[] }, { accessFlags := 25, nameIndex := 53, descriptorIndex := 25, attributes := #[] }, { accessFlags := 25, nameIndex := 24, descriptorIndex := 25, attributes := #[] }, { accessFlags := 25, nameIndex := 162, descriptorIndex := 25, attributes := #[] }, { accessFlags := 25, nameIndex := 187, descriptorIndex := 25, attributes := #[] }, { accessFlags := 26, nameIndex := 48, descriptorIndex := 25, attributes := #[] }, { accessFlags := 25, nameIndex := 277, descriptorIndex := 25, attributes := #[] }, { accessFlags := 25, nameIndex := 280, descriptorIndex := 25, attributes := #[] }, { accessFlags := 25, nameIndex := 282, descriptorIndex := 25, attributes := #[] }, { accessFlags := 25, nameIndex := 284, descriptorIndex := 25, attributes := #[] }, { accessFlags := 25, nameIndex := 286, descriptorIndex := 25, attributes := #[] }, { accessFlags := 25, nameIndex := 288, descriptorIndex := 25, attributes := #[] }, { accessFlags := 25, nameIndex := 290, descriptorIndex := 25, attributes := #[] }, { accessFlags := 25, nameIndex := 292, descriptorIndex := 25, attributes := #[] }, { accessFlags := 26, nameIndex := 108, descriptorIndex := 109, attributes := #[] }, { accessFlags := 25, nameIndex := 294, descriptorIndex := 25, attributes := #[] }])
  fields := #[{ name := "U", type := (.object "jdk/internal/misc/Unsafe"), accessFlags := 24, slot := 0, constantValue := 0 }, { name := "BIG_ENDIAN", type := .boolean, accessFlags := 26, slot := 1, constantValue := 0 }, { name := "LOG2_ARRAY_BOOLEAN_INDEX_SCALE", type := .int, accessFlags := 25, slot := 2, constantValue := 0 }, { name := "LOG2_ARRAY_BYTE_INDEX_SCALE", type := .int, accessFlags := 25, slot := 3, constantValue := 0 }, { name := "LOG2_ARRAY_CHAR_INDEX_SCALE", type := .int, accessFlags := 25, slot := 4, constantValue := 0 }, { name := "LOG2_ARRAY_SHORT_INDEX_SCALE", type := .int, accessFlags := 25, slot := 5, constantValue := 0 }, { name := "LOG2_ARRAY_INT_INDEX_SCALE", type := .int, accessFlags := 25, slot := 6, constantValue := 0 }, { name := "LOG2_ARRAY_LONG_INDEX_SCALE", type := .int, accessFlags := 25, slot := 7, constantValue := 0 }, { name := "LOG2_ARRAY_FLOAT_INDEX_SCALE", type := .int, accessFlags := 25, slot := 8, constantValue := 0 }, { name := "LOG2_ARRAY_DOUBLE_INDEX_SCALE", type := .int, accessFlags := 25, slot := 9, constantValue := 0 }, { name := "LOG2_BYTE_BIT_SIZE", type := .int, accessFlags := 26, slot := 10, constantValue := 0 }, { name := "T_BOOLEAN", type := .int, accessFlags := 25, slot := 11, constantValue := 0 }, { name := "T_CHAR", type := .int, accessFlags := 25, slot := 12, constantValue := 0 }, { name := "T_FLOAT", type := .int, accessFlags := 25, slot := 13, constantValue := 0 }, { name := "T_DOUBLE", type := .int, accessFlags := 25, slot := 14, constantValue := 0 }, { name := "T_BYTE", type := .int, accessFlags := 25, slot := 15, constantValue := 0 }, { name := "T_SHORT", type := .int, accessFlags := 25, slot := 16, constantValue := 0 }, { name := "T_INT", type := .int, accessFlags := 25, slot := 17, constantValue := 0 }, { name := "T_LONG", type := .int, accessFlags := 25, slot := 18, constantValue := 0 }, { name := "JLA", type := (.object "jdk/internal/access/JavaLangAccess"), accessFlags := 26, slot := 19, constantValue := 0 }, { name := "SOFT_MAX_ARRAY_LENGTH", type := .int, accessFlags := 25, slot := 20, constantValue := 0 }]
  methods := #[k40m0, k40m1]
  instanceTypes := #[]
  staticTypes := #[(.object "jdk/internal/misc/Unsafe"), .boolean, .int, .int, .int, .int, .int, .int, .int, .int, .int, .int, .int, .int, .int, .int, .int, .int, .int, (.object "jdk/internal/access/JavaLangAccess"), .int]
  resolved := Array.replicate 378 none
  statics := none }

def pool41 : Array CpInfo := pool [(1, .methodref 2 3), (0, .class_ 4), (0, .nameAndType 5 6), (0, u "java/lang/Record"), (0, u "<init>"), (0, u "()V"), (0, .string 8), (0, u "dimension name"), (0, .methodref 10 11), (0, .class_ 12), (0, .nameAndType 13 14), (0, u "com/example/dique/dique/model/Names"), (0, u "requirePart"), (0, u "(Ljava/lang/String;Ljava/lang/String;)V"), (0, .class_ 16), (0, u "java/lang/StringBuilder"), (0, .methodref 15 3), (0, .string 19), (0, u "the table of dimension "), (0, .methodref 15 21), (0, .nameAndType 22 23), (0, u "append"), (0, u "(Ljava/lang/String;)Ljava/lang/StringBuilder;"), (0, .methodref 15 25), (0, .nameAndType 26 27), (0, u "toString"), (0, u "()Ljava/lang/String;"), (0, .methodref 29 30), (0, .class_ 31), (0, .nameAndType 32 14), (0, u "com/example/dique/dique/util/Identifiers"), (0, u "require"), (0, .string 34), (0, u "the key of dimension "), (0, .string 36), (0, u "the foreign key of dimension "), (0, .interfaceMethodref 38 39), (0, .class_ 40), (0, .nameAndType 41 42), (0, u "java/util/List"), (0, u "copyOf"), (0, u "(Ljava/util/Collection;)Ljava/util/List;"), (0, .interfaceMethodref 38 44), (0, .nameAndType 45 46), (0, u "isEmpty"), (0, u "()Z"), (2, .string 50), (0, u "dimension "), (3, .nameAndType 5 55), (0, u "(Ljava/lang/String;)V"), (0, .string 57), (0, u "level"), (0, .methodref 10 54), (0, .string 60), (0, u "column"), (0, .interfaceMethodref 38 62), (0, .nameAndType 63 64), (0, u "iterator"), (0, u "()Ljava/util/Iterator;"), (0, .interfaceMethodref 66 67), (0, .class_ 68), (0, .nameAndType 69 46), (0, u "java/util/Iterator"), (0, u "hasNext"), (0, .interfaceMethodref 66 71), (0, .nameAndType 72 73), (0, u "next"), (0, u "()Ljava/lang/Object;"), (0, .class_ 75), (0, u "com/example/dique/dique/model/Level"), (0, .methodref 74 77), (0, .nameAndType 78 27), (0, u "name"), (0, .methodref 10 80), (0, .nameAndType 81 14), (0, u "claim"), (0, .methodref 74 83), (0, .nameAndType 84 85), (0, u "columns"), (0, u "()Ljava/util/List;"), (0, .class_ 87), (0, u "java/lang/String"), (0, .methodref 89 90), (0, .class_ 91), (0, .nameAndType 92 93), (0, u "com/example/dique/dique/model/Dimension"), (0, u "owner"), (0, u "(Ljava/lang/String;Lcom/example/dique/dique/model/Level;)Ljava/lang/String;"), (4, .interfaceMethodref 38 99), (0, .nameAndType 100 101), (0, u "get"), (0, u "(I)Ljava/lang/Object;"), (0, .methodref 10 103), (0, .nameAndType 104 105), (0, u "ownerOf"), (0, u "(Ljava/lang/String;)Ljava/lang/String;"), (0, .methodref 86 107), (0, .nameAndType 108 109), (0, u "equals"), (0, u "(Ljava/lang/Object;)Z"), (8, .fieldref 89 119), (0, .nameAndType 78 120), (0, u "Ljava/lang/String;"), (0, .fieldref 89 122), (0, .nameAndType 123 120), (0, u "table"), (0, .fieldref 89 125), (0, .nameAndType 126 120), (0, u "key"), (0, .fieldref 89 128), (0, .nameAndType 129 120), (0, u "foreignKey"), (0, .fieldref 89 131), (0, .nameAndType 132 133), (0, u "levels"), (0, u "Ljava/util/List;"), (0, .fieldref 89 135), (0, .nameAndType 136 133), (0, u "attributes"), (59, .string 197), (0, u "level "), (0, .string 199), (0, u "."), (13, u "(Ljava/lang/String;Ljava/lang/String;Ljava/lang/String;Ljava/lang/String;Ljava/util/List;Ljava/util/List;)V")] 54

def k41c0 : Code := { maxStack := 4, maxLocals := 13, code := prog_12_method_1_code, exceptionTable := #[], attributes := #[] }
def k41m0 : Method := { name := "<init>", desc := "(Ljava/lang/String;Ljava/lang/String;Ljava/lang/String;Ljava/lang/String;Ljava/util/List;Ljava/util/List;)V", sig := { parameters := [(.object "java/lang/String"), (.object "java/lang/String"), (.object "java/lang/String"), (.object "java/lang/String"), (.object "java/util/List"), (.object "java/util/List")], returnType := none }, accessFlags := 1, code := some k41c0 }
def k41c1 : Code := { maxStack := 2, maxLocals := 2, code := prog_12_method_7_code, exceptionTable := #[], attributes := #[] }
def k41m1 : Method := { name := "owner", desc := "(Ljava/lang/String;Lcom/example/dique/dique/model/Level;)Ljava/lang/String;", sig := { parameters := [(.object "java/lang/String"), (.object "com/example/dique/dique/model/Level")], returnType := some (.object "java/lang/String") }, accessFlags := 10, code := some k41c1 }
def k41 : Class := { plain "com/example/dique/dique/model/Dimension" (some 19) with
  accessFlags := 49
  interfaces := #[]
  cf := some (fileOf pool41 89 #[] #[{ accessFlags := 1, nameIndex := 5, descriptorIndex := 213, attributes := #[] }, { accessFlags := 10, nameIndex := 92, descriptorIndex := 93, attributes := #[] }] 49 2 #[] #[{ accessFlags := 18, nameIndex := 78, descriptorIndex := 120, attributes := #[] }, { accessFlags := 18, nameIndex := 123, descriptorIndex := 120, attributes := #[] }, { accessFlags := 18, nameIndex := 126, descriptorIndex := 120, attributes := #[] }, { accessFlags := 18, nameIndex := 129, descriptorIndex := 120, attributes := #[] }, { accessFlags := 18, nameIndex := 132, descriptorIndex := 133, attributes := #[] }, { accessFlags := 18, nameIndex := 136, descriptorIndex := 133, attributes := #[] }])
  fields := #[{ name := "name", type := (.object "java/lang/String"), accessFlags := 18, slot := 0, constantValue := 0 }, { name := "table", type := (.object "java/lang/String"), accessFlags := 18, slot := 1, constantValue := 0 }, { name := "key", type := (.object "java/lang/String"), accessFlags := 18, slot := 2, constantValue := 0 }, { name := "foreignKey", type := (.object "java/lang/String"), accessFlags := 18, slot := 3, constantValue := 0 }, { name := "levels", type := (.object "java/util/List"), accessFlags := 18, slot := 4, constantValue := 0 }, { name := "attributes", type := (.object "java/util/List"), accessFlags := 18, slot := 5, constantValue := 0 }]
  methods := #[k41m0, k41m1]
  instanceTypes := #[(.object "java/lang/String"), (.object "java/lang/String"), (.object "java/lang/String"), (.object "java/lang/String"), (.object "java/util/List"), (.object "java/util/List")]
  staticTypes := #[]
  resolved := Array.replicate 268 none
  statics := none }

def pool42 : Array CpInfo := pool [(2, .class_ 4), (1, u "java/util/Map"), (0, u "get"), (0, u "(Ljava/lang/Object;)Ljava/lang/Object;"), (29, .class_ 37), (0, u "java/util/Map$Entry"), (25, u "(Ljava/lang/Object;Ljava/lang/Object;)Ljava/lang/Object;"), (29, .class_ 94), (0, u "java/lang/Object"), (77, u "putIfAbsent")] 90

def k42m0 : Method := { name := "get", desc := "(Ljava/lang/Object;)Ljava/lang/Object;", sig := { parameters := [(.object "java/lang/Object")], returnType := some (.object "java/lang/Object") }, accessFlags := 1025, code := none }
def k42c1 : Code := { maxStack := 3, maxLocals := 4, code := ⟨#[0x2a, 0x2b, 0xb9, 0x00, 0x01, 0x02, 0x00, 0x4e, 0x2d, 0xc7, 0x00, 0x0c, 0x2a, 0x2b, 0x2c, 0xb9, 0x00, 0x43, 0x03, 0x00, 0x4e, 0x2d, 0xb0]⟩, exceptionTable := #[], attributes := #[] }
def k42m1 : Method := { name := "putIfAbsent", desc := "(Ljava/lang/Object;Ljava/lang/Object;)Ljava/lang/Object;", sig := { parameters := [(.object "java/lang/Object"), (.object "java/lang/Object")], returnType := some (.object "java/lang/Object") }, accessFlags := 1, code := some k42c1 }
def k42 : Class := { plain "java/util/Map" (some 0) with
  accessFlags := 1537
  interfaces := #[]
  cf := some (fileOf pool42 2 #[.nestMembers #[36]] #[{ accessFlags := 1025, nameIndex := 5, descriptorIndex := 6, attributes := #[] }, { accessFlags := 1, nameIndex := 172, descriptorIndex := 63, attributes := #[] }] 1537 93 #[] #[])
  fields := #[]
  methods := #[k42m0, k42m1]
  instanceTypes := #[]
  staticTypes := #[]
  resolved := Array.replicate 263 none
  statics := none }

def pool43 : Array CpInfo := pool [(1, .methodref 2 3), (0, .class_ 4), (0, .nameAndType 5 6), (0, u "java/lang/Object"), (0, u "<init>"), (0, u "()V"), (1, .class_ 10), (1, u "java/util/AbstractMap"), (42, .class_ 54), (0, u "java/util/Map"), (9, u "keySet"), (0, u "Ljava/util/Set;"), (0, .class_ 67), (0, u "java/util/AbstractMap$1"), (5, u "values"), (0, u "Ljava/util/Collection;"), (0, .class_ 76), (0, u "java/util/AbstractMap$2"), (104, .class_ 182), (0, u "java/util/AbstractMap$ViewCollection"), (0, .class_ 184), (0, u "java/util/AbstractMap$SimpleImmutableEntry"), (0, .class_ 186), (0, u "java/util/AbstractMap$SimpleEntry"), (0, .class_ 188), (0, u "java/util/AbstractMap$2$1"), (0, .class_ 190), (0, u "java/util/AbstractMap$1$1")] 5

def k43c0 : Code := { maxStack := 1, maxLocals := 1, code := jdk_71_method_1_code, exceptionTable := #[], attributes := #[] }
def k43m0 : Method := { name := "<init>", desc := "()V", sig := { parameters := [], returnType := none }, accessFlags := 4, code := some k43c0 }
def k43 : Class := { plain "java/util/AbstractMap" (some 0) with
  accessFlags := 1057
  interfaces := #[42]
  cf := some (fileOf pool43 8 #[.nestMembers #[181, 183, 185, 75, 187, 66, 189]] #[{ accessFlags := 4, nameIndex := 5, descriptorIndex := 6, attributes := #[] }] 1057 2 #[53] #[{ accessFlags := 128, nameIndex := 64, descriptorIndex := 65, attributes := #[] }, { accessFlags := 128, nameIndex := 73, descriptorIndex := 74, attributes := #[] }])
  fields := #[{ name := "keySet", type := (.object "java/util/Set"), accessFlags := 128, slot := 0, constantValue := 0 }, { name := "values", type := (.object "java/util/Collection"), accessFlags := 128, slot := 1, constantValue := 0 }]
  methods := #[k43m0]
  instanceTypes := #[(.object "java/util/Set"), (.object "java/util/Collection")]
  staticTypes := #[]
  resolved := Array.replicate 196 none
  statics := none }

def pool44 : Array CpInfo := pool [(1, .methodref 2 3), (0, .class_ 4), (0, .nameAndType 5 6), (0, u "java/lang/Object"), (0, u "hashCode"), (0, u "()I"), (26, u "(Ljava/lang/Object;)I"), (6, .class_ 41), (0, u "java/util/HashMap"), (1, .methodref 44 45), (0, .class_ 46), (0, .nameAndType 47 48), (0, u "java/util/AbstractMap"), (0, u "<init>"), (0, u "()V"), (32, .fieldref 40 82), (0, .nameAndType 83 84), (0, u "loadFactor"), (0, u "F"), (3, .fieldref 40 89), (0, .nameAndType 90 91), (0, u "threshold"), (0, u "I"), (0, .float 1061158912), (8, .class_ 103), (1, u "java/util/Map"), (0, u "size"), (0, .fieldref 40 106), (0, .nameAndType 107 108), (0, u "table"), (0, u "[Ljava/util/HashMap$Node;"), (8, .methodref 40 118), (0, .nameAndType 119 120), (0, u "resize"), (0, u "()[Ljava/util/HashMap$Node;"), (2, u "entrySet"), (25, .methodref 40 150), (0, .nameAndType 151 33), (0, u "hash"), (0, .methodref 40 153), (0, .nameAndType 154 155), (0, u "putVal"), (0, u "(ILjava/lang/Object;Ljava/lang/Object;ZZ)Ljava/lang/Object;"), (0, .fieldref 40 157), (0, .nameAndType 104 91), (0, .methodref 40 159), (0, .nameAndType 160 161), (0, u "getNode"), (0, u "(Ljava/lang/Object;)Ljava/util/HashMap$Node;"), (1, .class_ 165), (1, u "java/util/HashMap$Node"), (14, .class_ 181), (0, u "java/util/HashMap$TreeNode"), (4, .methodref 40 187), (0, .nameAndType 188 189), (0, u "newNode"), (0, u "(ILjava/lang/Object;Ljava/lang/Object;Ljava/util/HashMap$Node;)Ljava/util/HashMap$Node;"), (12, .fieldref 40 203), (0, .nameAndType 204 91), (0, u "modCount"), (0, .methodref 40 206), (0, .nameAndType 207 208), (0, u "afterNodeInsertion"), (0, u "(Z)V"), (33, u "Ljava/util/Set;"), (0, .class_ 244), (0, u "java/util/HashMap$KeySet"), (18, .class_ 264), (0, u "java/util/HashMap$Values"), (3, .class_ 269), (0, u "java/util/HashMap$EntrySet"), (9, u "(Ljava/lang/Object;)Ljava/lang/Object;"), (7, u "(Ljava/lang/Object;Ljava/lang/Object;)Ljava/lang/Object;"), (46, u "get"), (11, .class_ 348), (1, u "java/util/HashMap$UnsafeHolder"), (26, .methodref 163 376), (0, .nameAndType 47 377), (0, u "(ILjava/lang/Object;Ljava/lang/Object;Ljava/util/HashMap$Node;)V"), (14, .class_ 393), (0, u "java/lang/Cloneable"), (0, .class_ 395), (0, u "java/io/Serializable"), (0, u "serialVersionUID"), (0, u "J"), (3, u "DEFAULT_INITIAL_CAPACITY"), (1, u "MAXIMUM_CAPACITY"), (0, u "DEFAULT_LOAD_FACTOR"), (0, u "TREEIFY_THRESHOLD"), (1, u "UNTREEIFY_THRESHOLD"), (1, u "MIN_TREEIFY_CAPACITY"), (117, u "putIfAbsent"), (68, .class_ 597), (0, u "java/util/HashMap$EntrySpliterator"), (0, .class_ 599), (0, u "java/util/HashMap$ValueSpliterator"), (0, .class_ 601), (0, u "java/util/HashMap$KeySpliterator"), (0, .class_ 603), (0, u "java/util/HashMap$HashMapSpliterator"), (0, .class_ 605), (0, u "java/util/HashMap$EntryIterator"), (0, .class_ 607), (0, u "java/util/HashMap$ValueIterator"), (0, .class_ 609), (0, u "java/util/HashMap$KeyIterator"), (0, .class_ 611), (0, u "java/util/HashMap$HashIterator")] 17

def k44c0 : Code := { maxStack := 3, maxLocals := 2, code := jdk_69_method_1_code, exceptionTable := #[], attributes := #[] }
def k44m0 : Method := { name := "hash", desc := "(Ljava/lang/Object;)I", sig := { parameters := [(.object "java/lang/Object")], returnType := some .int }, accessFlags := 24, code := some k44c0 }
def k44c1 : Code := { maxStack := 2, maxLocals := 1, code := jdk_69_method_7_code, exceptionTable := #[], attributes := #[] }
def k44m1 : Method := { name := "<init>", desc := "()V", sig := { parameters := [], returnType := none }, accessFlags := 1, code := some k44c1 }
def k44c2 : Code := { maxStack := 2, maxLocals := 3, code := jdk_69_method_12_code, exceptionTable := #[], attributes := #[] }
def k44m2 : Method := { name := "get", desc := "(Ljava/lang/Object;)Ljava/lang/Object;", sig := { parameters := [(.object "java/lang/Object")], returnType := some (.object "java/lang/Object") }, accessFlags := 1, code := some k44c2 }
def k44c3 : Code := { maxStack := 4, maxLocals := 8, code := jdk_69_method_13_code, exceptionTable := #[], attributes := #[] }
def k44m3 : Method := { name := "getNode", desc := "(Ljava/lang/Object;)Ljava/util/HashMap$Node;", sig := { parameters := [(.object "java/lang/Object")], returnType := some (.object "java/util/HashMap$Node") }, accessFlags := 16, code := some k44c3 }
def k44c4 : Code := { maxStack := 7, maxLocals := 13, code := jdk_69_method_16_code, exceptionTable := #[], attributes := #[] }
def k44m4 : Method := { name := "putVal", desc := "(ILjava/lang/Object;Ljava/lang/Object;ZZ)Ljava/lang/Object;", sig := { parameters := [.int, (.object "java/lang/Object"), (.object "java/lang/Object"), .boolean, .boolean], returnType := some (.object "java/lang/Object") }, accessFlags := 16, code := some k44c4 }
def k44c5 : Code := { maxStack := 5, maxLocals := 14, code := jdk_69_method_17_code, exceptionTable := #[], attributes := #[] }
def k44m5 : Method := { name := "resize", desc := "()[Ljava/util/HashMap$Node;", sig := { parameters := [], returnType := some (.array (.object "java/util/HashMap$Node")) }, accessFlags := 16, code := some k44c5 }
def k44c6 : Code := { maxStack := 6, maxLocals := 3, code := jdk_69_method_31_code, exceptionTable := #[], attributes := #[] }
def k44m6 : Method := { name := "putIfAbsent", desc := "(Ljava/lang/Object;Ljava/lang/Object;)Ljava/lang/Object;", sig := { parameters := [(.object "java/lang/Object"), (.object "java/lang/Object")], returnType := some (.object "java/lang/Object") }, accessFlags := 1, code := some k44c6 }
def k44c7 : Code := { maxStack := 6, maxLocals := 5, code := jdk_69_method_46_code, exceptionTable := #[], attributes := #[] }
def k44m7 : Method := { name := "newNode", desc := "(ILjava/lang/Object;Ljava/lang/Object;Ljava/util/HashMap$Node;)Ljava/util/HashMap$Node;", sig := { parameters := [.int, (.object "java/lang/Object"), (.object "java/lang/Object"), (.object "java/util/HashMap$Node")], returnType := some (.object "java/util/HashMap$Node") }, accessFlags := 0, code := some k44c7 }
def k44c8 : Code := { maxStack := 0, maxLocals := 2, code := jdk_69_method_52_code, exceptionTable := #[], attributes := #[] }
def k44m8 : Method := { name := "afterNodeInsertion", desc := "(Z)V", sig := { parameters := [.boolean], returnType := none }, accessFlags := 0, code := some k44c8 }
def k44 : Class := { plain "java/util/HashMap" (some 43) with
  accessFlags := 33
  interfaces := #[42, 16, 2]
  cf := some (fileOf pool44 40 #[.nestMembers #[180, 596, 598, 600, 602, 604, 606, 608, 610, 346, 268, 263, 243, 163]] #[{ accessFlags := 24, nameIndex := 151, descriptorIndex := 33, attributes := #[] }, { accessFlags := 1, nameIndex := 47, descriptorIndex := 48, attributes := #[] }, { accessFlags := 1, nameIndex := 334, descriptorIndex := 279, attributes := #[] }, { accessFlags := 16, nameIndex := 160, descriptorIndex := 161, attributes := #[] }, { accessFlags := 16, nameIndex := 154, descriptorIndex := 155, attributes := #[] }, { accessFlags := 16, nameIndex := 119, descriptorIndex := 120, attributes := #[] }, { accessFlags := 1, nameIndex := 527, descriptorIndex := 287, attributes := #[] }, { accessFlags := 0, nameIndex := 188, descriptorIndex := 189, attributes := #[] }, { accessFlags := 0, nameIndex := 207, descriptorIndex := 208, attributes := #[] }] 33 44 #[101, 392, 394] #[{ accessFlags := 26, nameIndex := 396, descriptorIndex := 397, attributes := #[] }, { accessFlags := 24, nameIndex := 401, descriptorIndex := 91, attributes := #[] }, { accessFlags := 24, nameIndex := 403, descriptorIndex := 91, attributes := #[] }, { accessFlags := 24, nameIndex := 404, descriptorIndex := 84, attributes := #[] }, { accessFlags := 24, nameIndex := 405, descriptorIndex := 91, attributes := #[] }, { accessFlags := 24, nameIndex := 407, descriptorIndex := 91, attributes := #[] }, { accessFlags := 24, nameIndex := 409, descriptorIndex := 91, attributes := #[] }, { accessFlags := 128, nameIndex := 107, descriptorIndex := 108, attributes := #[] }, { accessFlags := 128, nameIndex := 123, descriptorIndex := 242, attributes := #[] }, { accessFlags := 128, nameIndex := 104, descriptorIndex := 91, attributes := #[] }, { accessFlags := 128, nameIndex := 204, descriptorIndex := 91, attributes := #[] }, { accessFlags := 0, nameIndex := 90, descriptorIndex := 91, attributes := #[] }, { accessFlags := 16, nameIndex := 83, descriptorIndex := 84, attributes := #[] }])
  fields := #[{ name := "serialVersionUID", type := .long, accessFlags := 26, slot := 0, constantValue := 0 }, { name := "DEFAULT_INITIAL_CAPACITY", type := .int, accessFlags := 24, slot := 1, constantValue := 0 }, { name := "MAXIMUM_CAPACITY", type := .int, accessFlags := 24, slot := 2, constantValue := 0 }, { name := "DEFAULT_LOAD_FACTOR", type := .float, accessFlags := 24, slot := 3, constantValue := 0 }, { name := "TREEIFY_THRESHOLD", type := .int, accessFlags := 24, slot := 4, constantValue := 0 }, { name := "UNTREEIFY_THRESHOLD", type := .int, accessFlags := 24, slot := 5, constantValue := 0 }, { name := "MIN_TREEIFY_CAPACITY", type := .int, accessFlags := 24, slot := 6, constantValue := 0 }, { name := "table", type := (.array (.object "java/util/HashMap$Node")), accessFlags := 128, slot := 2, constantValue := 0 }, { name := "entrySet", type := (.object "java/util/Set"), accessFlags := 128, slot := 3, constantValue := 0 }, { name := "size", type := .int, accessFlags := 128, slot := 4, constantValue := 0 }, { name := "modCount", type := .int, accessFlags := 128, slot := 5, constantValue := 0 }, { name := "threshold", type := .int, accessFlags := 0, slot := 6, constantValue := 0 }, { name := "loadFactor", type := .float, accessFlags := 16, slot := 7, constantValue := 0 }]
  methods := #[k44m0, k44m1, k44m2, k44m3, k44m4, k44m5, k44m6, k44m7, k44m8]
  instanceTypes := #[(.object "java/util/Set"), (.object "java/util/Collection"), (.array (.object "java/util/HashMap$Node")), (.object "java/util/Set"), .int, .int, .int, .float]
  staticTypes := #[.long, .int, .int, .float, .int, .int, .int]
  resolved := Array.replicate 629 none
  statics := none }

def pool45 : Array CpInfo := pool [(2, .class_ 4), (1, u "java/lang/Object"), (0, u "<init>"), (0, u "()V"), (17, .class_ 26), (1, u "jdk/internal/util/Preconditions"), (6, u "checkIndex"), (21, .class_ 56), (0, u "jdk/internal/util/Preconditions$4"), (57, .class_ 115), (0, u "jdk/internal/util/Preconditions$1"), (7, u "SIOOBE_FORMATTER"), (0, u "Ljava/util/function/BiFunction;"), (0, .class_ 126), (0, u "jdk/internal/util/Preconditions$2"), (3, u "AIOOBE_FORMATTER"), (0, .class_ 132), (0, u "jdk/internal/util/Preconditions$3"), (3, u "IOOBE_FORMATTER"), (41, u "(IILjava/util/function/BiFunction;)I")] 15

def k45m0 : Method := { name := "<init>", desc := "()V", sig := { parameters := [], returnType := none }, accessFlags := 1, code := none }
def k45c1 : Code := { maxStack := 3, maxLocals := 3, code := jdk_41_method_11_code, exceptionTable := #[], attributes := #[] }
def k45m1 : Method := { name := "checkIndex", desc := "(IILjava/util/function/BiFunction;)I", sig := { parameters := [.int, .int, (.object "java/util/function/BiFunction")], returnType := some .int }, accessFlags := 9, code := some k45c1 }
def k45 : Class := { plain "jdk/internal/util/Preconditions" (some 0) with
  accessFlags := 33
  interfaces := #[]
  cf := some (fileOf pool45 24 #[.nestMembers #[55, 131, 125, 114]] #[{ accessFlags := 1, nameIndex := 5, descriptorIndex := 6, attributes := #[] }, { accessFlags := 9, nameIndex := 33, descriptorIndex := 178, attributes := #[] }] 33 2 #[] #[{ accessFlags := 25, nameIndex := 123, descriptorIndex := 124, attributes := #[] }, { accessFlags := 25, nameIndex := 130, descriptorIndex := 124, attributes := #[] }, { accessFlags := 25, nameIndex := 136, descriptorIndex := 124, attributes := #[] }])
  fields := #[{ name := "SIOOBE_FORMATTER", type := (.object "java/util/function/BiFunction"), accessFlags := 25, slot := 0, constantValue := 0 }, { name := "AIOOBE_FORMATTER", type := (.object "java/util/function/BiFunction"), accessFlags := 25, slot := 1, constantValue := 0 }, { name := "IOOBE_FORMATTER", type := (.object "java/util/function/BiFunction"), accessFlags := 25, slot := 2, constantValue := 0 }]
  methods := #[k45m0, k45m1]
  instanceTypes := #[]
  staticTypes := #[(.object "java/util/function/BiFunction"), (.object "java/util/function/BiFunction"), (.object "java/util/function/BiFunction")]
  resolved := Array.replicate 194 none
  statics := some 4 }

def pool46 : Array CpInfo := pool [(23, .class_ 25), (1, u "java/util/Map$Entry"), (6, .class_ 34), (1, u "java/util/Map"), (34, .class_ 70), (0, u "java/lang/Object")] 107

def k46 : Class := { plain "java/util/Map$Entry" (some 0) with
  accessFlags := 1537
  interfaces := #[]
  cf := some (fileOf pool46 23 #[.nestHost 32] #[] 1537 69 #[] #[])
  fields := #[]
  methods := #[]
  instanceTypes := #[]
  staticTypes := #[]
  resolved := Array.replicate 178 none
  statics := none }

def pool47 : Array CpInfo := pool [(1, .methodref 2 3), (0, .class_ 4), (0, .nameAndType 5 6), (0, u "java/lang/Object"), (0, u "<init>"), (0, u "()V"), (0, .fieldref 8 9), (0, .class_ 10), (0, .nameAndType 11 12), (0, u "java/util/HashMap$Node"), (0, u "hash"), (0, u "I"), (0, .fieldref 8 14), (0, .nameAndType 15 16), (0, u "key"), (0, u "Ljava/lang/Object;"), (0, .fieldref 8 18), (0, .nameAndType 19 16), (0, u "value"), (0, .fieldref 8 21), (0, .nameAndType 22 23), (0, u "next"), (0, u "Ljava/util/HashMap$Node;"), (22, .class_ 47), (0, u "java/util/Map$Entry"), (15, u "(ILjava/lang/Object;Ljava/lang/Object;Ljava/util/HashMap$Node;)V"), (24, .class_ 89), (0, u "java/util/HashMap")] 5

def k47c0 : Code := { maxStack := 2, maxLocals := 5, code := jdk_70_method_1_code, exceptionTable := #[], attributes := #[] }
def k47m0 : Method := { name := "<init>", desc := "(ILjava/lang/Object;Ljava/lang/Object;Ljava/util/HashMap$Node;)V", sig := { parameters := [.int, (.object "java/lang/Object"), (.object "java/lang/Object"), (.object "java/util/HashMap$Node")], returnType := none }, accessFlags := 0, code := some k47c0 }
def k47 : Class := { plain "java/util/HashMap$Node" (some 0) with
  accessFlags := 32
  interfaces := #[46]
  cf := some (fileOf pool47 8 #[.nestHost 88] #[{ accessFlags := 0, nameIndex := 5, descriptorIndex := 63, attributes := #[] }] 32 2 #[46] #[{ accessFlags := 16, nameIndex := 11, descriptorIndex := 12, attributes := #[] }, { accessFlags := 16, nameIndex := 15, descriptorIndex := 16, attributes := #[] }, { accessFlags := 0, nameIndex := 19, descriptorIndex := 16, attributes := #[] }, { accessFlags := 0, nameIndex := 22, descriptorIndex := 23, attributes := #[] }])
  fields := #[{ name := "hash", type := .int, accessFlags := 16, slot := 0, constantValue := 0 }, { name := "key", type := (.object "java/lang/Object"), accessFlags := 16, slot := 1, constantValue := 0 }, { name := "value", type := (.object "java/lang/Object"), accessFlags := 0, slot := 2, constantValue := 0 }, { name := "next", type := (.object "java/util/HashMap$Node"), accessFlags := 0, slot := 3, constantValue := 0 }]
  methods := #[k47m0]
  instanceTypes := #[.int, (.object "java/lang/Object"), (.object "java/lang/Object"), (.object "java/util/HashMap$Node")]
  staticTypes := #[]
  resolved := Array.replicate 95 none
  statics := none }

def pool48 : Array CpInfo := pool [(1, .methodref 2 3), (0, .class_ 4), (0, .nameAndType 5 6), (0, u "java/lang/Record"), (0, u "<init>"), (0, u "()V"), (0, .string 8), (0, u "name"), (0, .methodref 10 11), (0, .class_ 12), (0, .nameAndType 13 14), (0, u "java/util/Objects"), (0, u "requireNonNull"), (0, u "(Ljava/lang/Object;Ljava/lang/String;)Ljava/lang/Object;"), (0, .fieldref 16 17), (0, .class_ 18), (0, .nameAndType 8 19), (0, u "com/example/dique/dique/query/TableRef"), (0, u "Ljava/lang/String;"), (0, .fieldref 16 21), (0, .nameAndType 22 19), (0, u "alias"), (0, .fieldref 16 24), (0, .nameAndType 25 26), (0, u "dimension"), (0, u "Lcom/example/dique/dique/model/Dimension;"), (8, u "(Ljava/lang/String;Ljava/lang/String;Lcom/example/dique/dique/model/Dimension;)V"), (34, u "isFact"), (0, u "()Z")] 30

def k48c0 : Code := { maxStack := 2, maxLocals := 4, code := prog_81_method_1_code, exceptionTable := #[], attributes := #[] }
def k48m0 : Method := { name := "<init>", desc := "(Ljava/lang/String;Ljava/lang/String;Lcom/example/dique/dique/model/Dimension;)V", sig := { parameters := [(.object "java/lang/String"), (.object "java/lang/String"), (.object "com/example/dique/dique/model/Dimension")], returnType := none }, accessFlags := 1, code := some k48c0 }
def k48c1 : Code := { maxStack := 1, maxLocals := 1, code := prog_81_method_3_code, exceptionTable := #[], attributes := #[] }
def k48m1 : Method := { name := "isFact", desc := "()Z", sig := { parameters := [], returnType := some .boolean }, accessFlags := 1, code := some k48c1 }
def k48 : Class := { plain "com/example/dique/dique/query/TableRef" (some 19) with
  accessFlags := 49
  interfaces := #[]
  cf := some (fileOf pool48 16 #[] #[{ accessFlags := 1, nameIndex := 5, descriptorIndex := 35, attributes := #[] }, { accessFlags := 1, nameIndex := 70, descriptorIndex := 71, attributes := #[] }] 49 2 #[] #[{ accessFlags := 18, nameIndex := 8, descriptorIndex := 19, attributes := #[] }, { accessFlags := 18, nameIndex := 22, descriptorIndex := 19, attributes := #[] }, { accessFlags := 18, nameIndex := 25, descriptorIndex := 26, attributes := #[] }])
  fields := #[{ name := "name", type := (.object "java/lang/String"), accessFlags := 18, slot := 0, constantValue := 0 }, { name := "alias", type := (.object "java/lang/String"), accessFlags := 18, slot := 1, constantValue := 0 }, { name := "dimension", type := (.object "com/example/dique/dique/model/Dimension"), accessFlags := 18, slot := 2, constantValue := 0 }]
  methods := #[k48m0, k48m1]
  instanceTypes := #[(.object "java/lang/String"), (.object "java/lang/String"), (.object "com/example/dique/dique/model/Dimension")]
  staticTypes := #[]
  resolved := Array.replicate 102 none
  statics := none }

def pool49 : Array CpInfo := pool [(1, u "java/lang/Class"), (0, .class_ 1), (0, u "java/lang/Object"), (0, .class_ 3)] 3

def k49 : Class := { plain "java/lang/Class" (some 0) with
  accessFlags := 49
  interfaces := #[]
  cf := some (fileOf pool49 2 #[] #[] 49 4 #[] #[])
  fields := #[]
  methods := #[]
  instanceTypes := #[]
  staticTypes := #[]
  resolved := Array.replicate 8 none
  statics := none }

def k50 : Class := { plain "byte" none with kind := .primitive 'B', accessFlags := 0x411 }
def k51 : Class := { plain "[B" (some 0) with kind := .array 50 .byte, interfaces := #[16, 2], accessFlags := 1041 }

def k52 : Class := { plain "char" none with kind := .primitive 'C', accessFlags := 0x411 }
def k53 : Class := { plain "[C" (some 0) with kind := .array 52 .char, interfaces := #[16, 2], accessFlags := 1041 }

def k54 : Class := { plain "int" none with kind := .primitive 'I', accessFlags := 0x411 }
def k55 : Class := { plain "[I" (some 0) with kind := .array 54 .int, interfaces := #[16, 2], accessFlags := 1041 }

def k56 : Class := { plain "[Ljava/lang/Object;" (some 0) with kind := .array 0 (.object "java/lang/Object"), interfaces := #[16, 2], accessFlags := 1041, mirror := some 5 }

def k57 : Class := { plain "[Ljava/util/HashMap$Node;" (some 0) with kind := .array 47 (.object "java/util/HashMap$Node"), interfaces := #[16, 2], accessFlags := 1041 }

def heap : Heap := #[{ cls := 7, slots := #[.long 0, .int 1, .null, .int 0, .null, .int 0, .int 0], vm := .statics 7 },
  { cls := 17, slots := #[.long 0, .int 0, .ref 6, .ref 7], vm := .statics 17 },
  { cls := 25, slots := #[.null, .null, .ref 8, .ref 9, .null], vm := .statics 25 },
  { cls := 26, slots := #[.long 0, .int 0, .null, .ref 10, .ref 11, .null, .null, .null, .int 0, .int 1], vm := .statics 26 },
  { cls := 45, slots := #[.null, .null, .null], vm := .statics 45 },
  { cls := 49, slots := #[], vm := .mirror 56 },
  { cls := 56, slots := #[], vm := .none },
  { cls := 56, slots := #[], vm := .none },
  { cls := 25, slots := #[], vm := .none },
  { cls := 55, slots := #[.int 1207963663, .int 1207963663, .int 1207963663, .int 1207963663, .int 1207963663, .int 1207963663, .int 1207963663, .int 1207963663, .int 1207963663, .int 1476411407, .int 1342193679, .int 1476411407, .int 1610629135, .int 1342193679, .int 1207963663, .int 1207963663, .int 1207963663, .int 1207963663, .int 1207963663, .int 1207963663, .int 1207963663, .int 1207963663, .int 1207963663, .int 1207963663, .int 1207963663, .int 1207963663, .int 1207963663, .int 1207963663, .int 1342193679, .int 1342193679, .int 1342193679, .int 1476411407, .int 1610629132, .int 1744830488, .int 1744830488, .int 671088664, .int 671113242, .int 671088664, .int 1744830488, .int 1744830488, .int (-402653163), .int (-402653162), .int 1744830488, .int 536870937, .int 939524120, .int 536870932, .int 939524120, .int 939524120, .int 402667017, .int 402667017, .int 402667017, .int 402667017, .int 402667017, .int 402667017, .int 402667017, .int 402667017, .int 402667017, .int 402667017, .int 939524120, .int 1744830488, .int (-402653159), .int 1744830489, .int (-402653159), .int 1744830488, .int 1744830488, .int 8552417, .int 8552417, .int 8552417, .int 8552417, .int 8552417, .int 8552417, .int 8552417, .int 8552417, .int 8552417, .int 8552417, .int 8552417, .int 8552417, .int 8552417, .int 8552417, .int 8552417, .int 8552417, .int 8552417, .int 8552417, .int 8552417, .int 8552417, .int 8552417, .int 8552417, .int 8552417, .int 8552417, .int 8552417, .int 8552417, .int (-402653163), .int 1744830488, .int (-402653162), .int 1744830491, .int 1744850967, .int 1744830491, .int 8486882, .int 8486882, .int 8486882, .int 8486882, .int 8486882, .int 8486882, .int 8486882, .int 8486882, .int 8486882, .int 8486882, .int 8486882, .int 8486882, .int 8486882, .int 8486882, .int 8486882, .int 8486882, .int 8486882, .int 8486882, .int 8486882, .int 8486882, .int 8486882, .int 8486882, .int 8486882, .int 8486882, .int 8486882, .int 8486882, .int (-402653163), .int 1744830489, .int (-402653162), .int 1744830489, .int 1207963663, .int 1207963663, .int 1207963663, .int 1207963663, .int 1207963663, .int 1207963663, .int 1342181391, .int 1207963663, .int 1207963663, .int 1207963663, .int 1207963663, .int 1207963663, .int 1207963663, .int 1207963663, .int 1207963663, .int 1207963663, .int 1207963663, .int 1207963663, .int 1207963663, .int 1207963663, .int 1207963663, .int 1207963663, .int 1207963663, .int 1207963663, .int 1207963663, .int 1207963663, .int 1207963663, .int 1207963663, .int 1207963663, .int 1207963663, .int 1207963663, .int 1207963663, .int 1207963663, .int 939524108, .int 1744830488, .int 671113242, .int 671113242, .int 671113242, .int 671113242, .int 1744830492, .int 1744830488, .int 1744830491, .int 1744830492, .int 28677, .int (-402653155), .int 1744830489, .int 1207963664, .int 1744830492, .int 1744830491, .int 671088668, .int 671088665, .int 402654731, .int 402654731, .int 1744830491, .int 134049794, .int 1744830488, .int 1744830488, .int 1744830491, .int 402654475, .int 28677, .int (-402653154), .int 1744832523, .int 1744832523, .int 1744832523, .int 1744830488, .int 8548353, .int 8548353, .int 8548353, .int 8548353, .int 8548353, .int 8548353, .int 8548353, .int 8548353, .int 8548353, .int 8548353, .int 8548353, .int 8548353, .int 8548353, .int 8548353, .int 8548353, .int 8548353, .int 8548353, .int 8548353, .int 8548353, .int 8548353, .int 8548353, .int 8548353, .int 8548353, .int 1744830489, .int 8548353, .int 8548353, .int 8548353, .int 8548353, .int 8548353, .int 8548353, .int 8548353, .int 134049794, .int 8482818, .int 8482818, .int 8482818, .int 8482818, .int 8482818, .int 8482818, .int 8482818, .int 8482818, .int 8482818, .int 8482818, .int 8482818, .int 8482818, .int 8482818, .int 8482818, .int 8482818, .int 8482818, .int 8482818, .int 8482818, .int 8482818, .int 8482818, .int 8482818, .int 8482818, .int 8482818, .int 1744830489, .int 8482818, .int 8482818, .int 8482818, .int 8482818, .int 8482818, .int 8482818, .int 8482818, .int 102592514], vm := .none },
  { cls := 0, slots := #[], vm := .none },
  { cls := 30, slots := #[.ref 6, .int 0], vm := .none }]
def classes : Array Class := #[k0, k1, k2, k3, k4, k5, k6, k7, k8, k9, k10, k11, k12, k13, k14, k15, k16, k17, k18, k19, k20, k21, k22, k23, k24, k25, k26, k27, k28, k29, k30, k31, k32, k33, k34, k35, k36, k37, k38, k39, k40, k41, k42, k43, k44, k45, k46, k47, k48, k49, k50, k51, k52, k53, k54, k55, k56, k57]
def interned : List (Array UInt16 × Addr) := []
def slotsUsed : Nat := 287
def theMethod : MethodId := ⟨1, 2⟩
def args0 : Array Value := #[.int 5, .int 6, .int 7, .int 0]
def aboutOver (below : List Frame) : State where
  vm := { classes := classes, interned := interned.toArray }
  heap := heap
  slotsUsed := slotsUsed
  threads := #[{ frames := .invoking theMethod args0 :: below }]
def below0 : List Frame := [.native { method := ⟨0, 0⟩, args := #[] }]
def about1 : State := aboutOver below0
def p0 : Program := .bare "" "" ""
def e0 : Env := launch0.env 0 0 0
theorem w_frames : about1.frames = Frame.invoking theMethod args0 :: below0 := rfl
theorem w_args : argsFit about1.vm theMethod args0 = true := by decide +kernel
theorem w_heap : heapFits about1 = true := by decide +kernel
theorem w_runnable : about1.curStatus? = some .runnable := by decide +kernel
theorem w_alone : about1.alone = true := by decide +kernel
theorem w_named : about1.methodNamed? x = some theMethod := by decide +kernel
theorem w_hears : about1.hears theMethod below0 = true := by decide +kernel
theorem w_ripe : about1.ripe theMethod args0 below0 = true := by decide +kernel
theorem w_running : about1.status = .running := rfl
theorem w_room : about1.hasRoom e0.platform room_1 = true :=
  launch0.hasRoom_least _ room_1 (by decide +kernel) (by decide +kernel) (by decide +kernel) (by decide +kernel) (by decide +kernel) (by decide +kernel)
theorem allAtoms_all (ts : List Jvm.Cond) (a : Array Jvm.Value) (st : Jvm.State) : (allAtoms ts).before a st = ts.all (fun c => c.before a st) := by
  induction ts with
  | nil => rfl
  | cons c t ih =>
    show (Jvm.Cond.and c (allAtoms t)).before a st = _
    rw [Jvm.Cond.before_and, ih, List.all_cons]
def words1 : List Jvm.Cond := Jvm.Cond.code x code maxLocals ret :: tables_1
theorem code_word {y : MethodName} {bytes : ByteArray} {mx : Nat} {rt : Option FieldType} {a : Array Value} {s : State} {m : MethodId} {meth : Method} {c : Code} (h1 : s.methodNamed? y = some m) (h2 : s.vm.method? m = some meth) (h3 : meth.code = some c) (h4 : c.code = bytes)
    (h5 : (c.maxLocals == mx && c.exceptionTable.isEmpty && decide (c.maxStack ≤ mostOperands) && decide (meth.sig.returnType = rt) && !meth.locks && decide (parseMethodDescriptor y.desc = some meth.sig)) = true) : (Jvm.Cond.code y bytes mx rt).before a s = true := by
  simp only [Bool.and_eq_true, beq_iff_eq, Bool.not_eq_true', decide_eq_true_eq] at h5
  obtain ⟨⟨⟨⟨⟨g1, g2⟩, g3⟩, g4⟩, g5⟩, g6⟩ := h5
  simp [Cond.before, Cond.holds, Cond.value, h1, h2, h3, h4, g1, g2, g3, g4, g5, g6]
def isCode : Jvm.Cond → Bool
  | .code _ _ _ _ => true
  | _ => false
theorem all_split {L : List Jvm.Cond} {P : Jvm.Cond → Bool} (h1 : L.all (fun c => isCode c || P c) = true) (h2 : ∀ c ∈ L.filter isCode, P c = true) : L.all P = true := by
  refine List.all_eq_true.mpr fun c hc => ?_
  have h := List.all_eq_true.mp h1 c hc
  rcases Bool.eq_false_or_eq_true (isCode c) with hi | hi
  · exact h2 c (List.mem_filter.mpr ⟨hc, hi⟩)
  · simpa [hi] using h
abbrev CW (y : MethodName) (b : ByteArray) (n : Nat) (r : Option FieldType) : Prop := (Jvm.Cond.code y b n r).before args0 about1 = true
theorem w_c0 : CW x code maxLocals ret := code_word (m := ⟨1, 2⟩) (meth := k1m2) (c := k1c2) (by decide +kernel) rfl rfl rfl (by decide +kernel)
theorem w_c1 : CW ⟨"java/lang/String", "<init>", "([C)V"⟩ jdk_42_method_3_code 2 none := code_word (m := ⟨7, 1⟩) (meth := k7m1) (c := k7c1) (by decide +kernel) rfl rfl rfl (by decide +kernel)
theorem w_c2 : CW ⟨"java/lang/String", "<init>", "([CIILjava/lang/Void;)V"⟩ jdk_42_method_149_code 6 none := code_word (m := ⟨7, 13⟩) (meth := k7m13) (c := k7c13) (by decide +kernel) rfl rfl rfl (by decide +kernel)
theorem w_c3 : CW ⟨"java/lang/Object", "<init>", "()V"⟩ object_method_1_code 1 none := code_word (m := ⟨0, 0⟩) (meth := k0m0) (c := k0c0) (by decide +kernel) rfl rfl rfl (by decide +kernel)
theorem w_c4 : CW ⟨"java/lang/StringUTF16", "compress", "([CII)[B"⟩ jdk_52_method_16_code 6 (some (.array .byte)) := code_word (m := ⟨8, 2⟩) (meth := k8m2) (c := k8c2) (by decide +kernel) rfl rfl rfl (by decide +kernel)
theorem w_c5 : CW ⟨"java/lang/StringUTF16", "compress", "([CI[BII)I"⟩ jdk_52_method_21_code 7 (some .int) := code_word (m := ⟨8, 3⟩) (meth := k8m3) (c := k8c3) (by decide +kernel) rfl rfl rfl (by decide +kernel)
theorem w_c6 : CW ⟨"java/lang/StringUTF16", "coderFromArrayLen", "([BI)B"⟩ jdk_52_method_15_code 2 (some .byte) := code_word (m := ⟨8, 1⟩) (meth := k8m1) (c := k8c1) (by decide +kernel) rfl rfl rfl (by decide +kernel)
theorem w_c7 : CW ⟨"com/example/dique/dique/query/TableRefIsFactPinLaw", "dimension", "()Lcom/example/dique/dique/model/Dimension;"⟩ method_2_code 4 (some (.object "com/example/dique/dique/model/Dimension")) := code_word (m := ⟨1, 1⟩) (meth := k1m1) (c := k1c1) (by decide +kernel) rfl rfl rfl (by decide +kernel)
theorem w_c8 : CW ⟨"java/util/ArrayList", "<init>", "()V"⟩ jdk_38_method_2_code 1 none := code_word (m := ⟨17, 0⟩) (meth := k17m0) (c := k17c0) (by decide +kernel) rfl rfl rfl (by decide +kernel)
theorem w_c9 : CW ⟨"java/util/AbstractList", "<init>", "()V"⟩ jdk_39_method_1_code 1 none := code_word (m := ⟨14, 0⟩) (meth := k14m0) (c := k14c0) (by decide +kernel) rfl rfl rfl (by decide +kernel)
theorem w_c10 : CW ⟨"java/util/AbstractCollection", "<init>", "()V"⟩ jdk_22_method_1_code 1 none := code_word (m := ⟨11, 0⟩) (meth := k11m0) (c := k11c0) (by decide +kernel) rfl rfl rfl (by decide +kernel)
theorem w_c11 : CW ⟨"java/util/ArrayList", "add", "(Ljava/lang/Object;)Z"⟩ jdk_38_method_25_code 2 (some .boolean) := code_word (m := ⟨17, 6⟩) (meth := k17m6) (c := k17c6) (by decide +kernel) rfl rfl rfl (by decide +kernel)
theorem w_c12 : CW ⟨"java/util/ArrayList", "add", "(Ljava/lang/Object;[Ljava/lang/Object;I)V"⟩ jdk_38_method_24_code 4 none := code_word (m := ⟨17, 5⟩) (meth := k17m5) (c := k17c5) (by decide +kernel) rfl rfl rfl (by decide +kernel)
theorem w_c13 : CW ⟨"java/util/ArrayList", "grow", "()[Ljava/lang/Object;"⟩ jdk_38_method_7_code 1 (some (.array (.object "java/lang/Object"))) := code_word (m := ⟨17, 2⟩) (meth := k17m2) (c := k17c2) (by decide +kernel) rfl rfl rfl (by decide +kernel)
theorem w_c14 : CW ⟨"java/util/ArrayList", "grow", "(I)[Ljava/lang/Object;"⟩ jdk_38_method_6_code 4 (some (.array (.object "java/lang/Object"))) := code_word (m := ⟨17, 1⟩) (meth := k17m1) (c := k17c1) (by decide +kernel) rfl rfl rfl (by decide +kernel)
theorem w_c15 : CW ⟨"java/lang/Math", "max", "(II)I"⟩ jdk_29_method_65_code 2 (some .int) := code_word (m := ⟨18, 1⟩) (meth := k18m1) (c := k18c1) (by decide +kernel) rfl rfl rfl (by decide +kernel)
theorem w_c16 : CW ⟨"com/example/dique/dique/model/Level", "<init>", "(Ljava/lang/String;Ljava/util/List;)V"⟩ prog_14_method_1_code 5 none := code_word (m := ⟨20, 0⟩) (meth := k20m0) (c := k20c0) (by decide +kernel) rfl rfl rfl (by decide +kernel)
theorem w_c17 : CW ⟨"java/lang/Record", "<init>", "()V"⟩ jdk_30_method_1_code 1 none := code_word (m := ⟨19, 0⟩) (meth := k19m0) (c := k19c0) (by decide +kernel) rfl rfl rfl (by decide +kernel)
theorem w_c18 : CW ⟨"com/example/dique/dique/model/Names", "requirePart", "(Ljava/lang/String;Ljava/lang/String;)V"⟩ prog_17_method_4_code 2 none := code_word (m := ⟨21, 3⟩) (meth := k21m3) (c := k21c3) (by decide +kernel) rfl rfl rfl (by decide +kernel)
theorem w_c19 : CW ⟨"com/example/dique/dique/util/Identifiers", "require", "(Ljava/lang/String;Ljava/lang/String;)V"⟩ prog_91_method_5_code 2 none := code_word (m := ⟨22, 3⟩) (meth := k22m3) (c := k22c3) (by decide +kernel) rfl rfl rfl (by decide +kernel)
theorem w_c20 : CW ⟨"java/lang/String", "isBlank", "()Z"⟩ jdk_42_method_117_code 1 (some .boolean) := code_word (m := ⟨7, 10⟩) (meth := k7m10) (c := k7c10) (by decide +kernel) rfl rfl rfl (by decide +kernel)
theorem w_c21 : CW ⟨"java/lang/String", "indexOfNonWhitespace", "()I"⟩ jdk_42_method_120_code 1 (some .int) := code_word (m := ⟨7, 11⟩) (meth := k7m11) (c := k7c11) (by decide +kernel) rfl rfl rfl (by decide +kernel)
theorem w_c22 : CW ⟨"java/lang/String", "isLatin1", "()Z"⟩ jdk_42_method_154_code 1 (some .boolean) := code_word (m := ⟨7, 16⟩) (meth := k7m16) (c := k7c16) (by decide +kernel) rfl rfl rfl (by decide +kernel)
theorem w_c23 : CW ⟨"java/lang/StringLatin1", "indexOfNonWhitespace", "([B)I"⟩ jdk_43_method_37_code 4 (some .int) := code_word (m := ⟨23, 7⟩) (meth := k23m7) (c := k23c7) (by decide +kernel) rfl rfl rfl (by decide +kernel)
theorem w_c24 : CW ⟨"java/lang/StringLatin1", "getChar", "([BI)C"⟩ jdk_43_method_44_code 2 (some .char) := code_word (m := ⟨23, 10⟩) (meth := k23m10) (c := k23c10) (by decide +kernel) rfl rfl rfl (by decide +kernel)
theorem w_c25 : CW ⟨"java/lang/CharacterDataLatin1", "isWhitespace", "(I)Z"⟩ jdk_116_method_26_code 3 (some .boolean) := code_word (m := ⟨25, 1⟩) (meth := k25m1) (c := k25c1) (by decide +kernel) rfl rfl rfl (by decide +kernel)
theorem w_c26 : CW ⟨"java/lang/CharacterDataLatin1", "getProperties", "(I)I"⟩ jdk_116_method_1_code 4 (some .int) := code_word (m := ⟨25, 0⟩) (meth := k25m0) (c := k25c0) (by decide +kernel) rfl rfl rfl (by decide +kernel)
theorem w_c27 : CW ⟨"java/lang/String", "length", "()I"⟩ jdk_42_method_54_code 1 (some .int) := code_word (m := ⟨7, 3⟩) (meth := k7m3) (c := k7c3) (by decide +kernel) rfl rfl rfl (by decide +kernel)
theorem w_c28 : CW ⟨"java/lang/String", "coder", "()B"⟩ jdk_42_method_152_code 1 (some .byte) := code_word (m := ⟨7, 15⟩) (meth := k7m15) (c := k7c15) (by decide +kernel) rfl rfl rfl (by decide +kernel)
theorem w_c29 : CW ⟨"java/lang/String", "strip", "()Ljava/lang/String;"⟩ jdk_42_method_114_code 2 (some (.object "java/lang/String")) := code_word (m := ⟨7, 9⟩) (meth := k7m9) (c := k7c9) (by decide +kernel) rfl rfl rfl (by decide +kernel)
theorem w_c30 : CW ⟨"java/lang/StringLatin1", "strip", "([B)Ljava/lang/String;"⟩ jdk_43_method_39_code 4 (some (.object "java/lang/String")) := code_word (m := ⟨23, 9⟩) (meth := k23m9) (c := k23c9) (by decide +kernel) rfl rfl rfl (by decide +kernel)
theorem w_c31 : CW ⟨"java/lang/StringLatin1", "lastIndexOfNonWhitespace", "([B)I"⟩ jdk_43_method_38_code 4 (some .int) := code_word (m := ⟨23, 8⟩) (meth := k23m8) (c := k23c8) (by decide +kernel) rfl rfl rfl (by decide +kernel)
theorem w_c32 : CW ⟨"java/lang/String", "equals", "(Ljava/lang/Object;)Z"⟩ jdk_42_method_66_code 3 (some .boolean) := code_word (m := ⟨7, 5⟩) (meth := k7m5) (c := k7c5) (by decide +kernel) rfl rfl rfl (by decide +kernel)
theorem w_c33 : CW ⟨"java/lang/String", "indexOf", "(I)I"⟩ jdk_42_method_79_code 2 (some .int) := code_word (m := ⟨7, 7⟩) (meth := k7m7) (c := k7c7) (by decide +kernel) rfl rfl rfl (by decide +kernel)
theorem w_c34 : CW ⟨"java/lang/String", "indexOf", "(II)I"⟩ jdk_42_method_80_code 3 (some .int) := code_word (m := ⟨7, 8⟩) (meth := k7m8) (c := k7c8) (by decide +kernel) rfl rfl rfl (by decide +kernel)
theorem w_c35 : CW ⟨"java/lang/StringLatin1", "indexOf", "([BIII)I"⟩ jdk_43_method_22_code 4 (some .int) := code_word (m := ⟨23, 5⟩) (meth := k23m5) (c := k23c5) (by decide +kernel) rfl rfl rfl (by decide +kernel)
theorem w_c36 : CW ⟨"java/lang/StringLatin1", "canEncode", "(I)Z"⟩ jdk_43_method_4_code 1 (some .boolean) := code_word (m := ⟨23, 3⟩) (meth := k23m3) (c := k23c3) (by decide +kernel) rfl rfl rfl (by decide +kernel)
theorem w_c37 : CW ⟨"java/lang/Math", "min", "(II)I"⟩ jdk_29_method_69_code 2 (some .int) := code_word (m := ⟨18, 2⟩) (meth := k18m2) (c := k18c2) (by decide +kernel) rfl rfl rfl (by decide +kernel)
theorem w_c38 : CW ⟨"java/lang/StringLatin1", "indexOfChar", "([BIII)I"⟩ jdk_43_method_23_code 6 (some .int) := code_word (m := ⟨23, 6⟩) (meth := k23m6) (c := k23c6) (by decide +kernel) rfl rfl rfl (by decide +kernel)
theorem w_c39 : CW ⟨"java/util/List", "copyOf", "(Ljava/util/Collection;)Ljava/util/List;"⟩ jdk_40_method_48_code 1 (some (.object "java/util/List")) := code_word (m := ⟨13, 5⟩) (meth := k13m5) (c := k13c5) (by decide +kernel) rfl rfl rfl (by decide +kernel)
theorem w_c40 : CW ⟨"java/util/ImmutableCollections", "listCopy", "(Ljava/util/Collection;)Ljava/util/List;"⟩ jdk_56_method_3_code 2 (some (.object "java/util/List")) := code_word (m := ⟨26, 1⟩) (meth := k26m1) (c := k26c1) (by decide +kernel) rfl rfl rfl (by decide +kernel)
theorem w_c41 : CW ⟨"java/util/ArrayList", "isEmpty", "()Z"⟩ jdk_38_method_9_code 1 (some .boolean) := code_word (m := ⟨17, 3⟩) (meth := k17m3) (c := k17c3) (by decide +kernel) rfl rfl rfl (by decide +kernel)
theorem w_c42 : CW ⟨"java/util/ArrayList", "toArray", "()[Ljava/lang/Object;"⟩ jdk_38_method_16_code 1 (some (.array (.object "java/lang/Object"))) := code_word (m := ⟨17, 4⟩) (meth := k17m4) (c := k17c4) (by decide +kernel) rfl rfl rfl (by decide +kernel)
theorem w_c43 : CW ⟨"java/util/Arrays", "copyOf", "([Ljava/lang/Object;I)[Ljava/lang/Object;"⟩ jdk_65_method_119_code 2 (some (.array (.object "java/lang/Object"))) := code_word (m := ⟨31, 1⟩) (meth := k31m1) (c := k31c1) (by decide +kernel) rfl rfl rfl (by decide +kernel)
theorem w_c44 : CW ⟨"java/util/Arrays", "copyOf", "([Ljava/lang/Object;ILjava/lang/Class;)[Ljava/lang/Object;"⟩ jdk_65_method_120_code 4 (some (.array (.object "java/lang/Object"))) := code_word (m := ⟨31, 2⟩) (meth := k31m2) (c := k31c2) (by decide +kernel) rfl rfl rfl (by decide +kernel)
theorem w_c45 : CW ⟨"java/util/List", "of", "([Ljava/lang/Object;)Ljava/util/List;"⟩ jdk_40_method_47_code 2 (some (.object "java/util/List")) := code_word (m := ⟨13, 4⟩) (meth := k13m4) (c := k13c4) (by decide +kernel) rfl rfl rfl (by decide +kernel)
theorem w_c46 : CW ⟨"java/util/ImmutableCollections$List12", "<init>", "(Ljava/lang/Object;)V"⟩ jdk_44_method_1_code 2 none := code_word (m := ⟨29, 0⟩) (meth := k29m0) (c := k29c0) (by decide +kernel) rfl rfl rfl (by decide +kernel)
theorem w_c47 : CW ⟨"java/util/ImmutableCollections$AbstractImmutableList", "<init>", "()V"⟩ jdk_46_method_1_code 1 none := code_word (m := ⟨28, 0⟩) (meth := k28m0) (c := k28c0) (by decide +kernel) rfl rfl rfl (by decide +kernel)
theorem w_c48 : CW ⟨"java/util/ImmutableCollections$AbstractImmutableCollection", "<init>", "()V"⟩ jdk_47_method_1_code 1 none := code_word (m := ⟨27, 0⟩) (meth := k27m0) (c := k27c0) (by decide +kernel) rfl rfl rfl (by decide +kernel)
theorem w_c49 : CW ⟨"java/util/Objects", "requireNonNull", "(Ljava/lang/Object;)Ljava/lang/Object;"⟩ jdk_31_method_10_code 1 (some (.object "java/lang/Object")) := code_word (m := ⟨33, 1⟩) (meth := k33m1) (c := k33c1) (by decide +kernel) rfl rfl rfl (by decide +kernel)
theorem w_c50 : CW ⟨"java/util/ImmutableCollections$List12", "isEmpty", "()Z"⟩ jdk_44_method_4_code 1 (some .boolean) := code_word (m := ⟨29, 2⟩) (meth := k29m2) (c := k29c2) (by decide +kernel) rfl rfl rfl (by decide +kernel)
theorem w_c51 : CW ⟨"java/util/ImmutableCollections$AbstractImmutableList", "iterator", "()Ljava/util/Iterator;"⟩ jdk_46_method_10_code 1 (some (.object "java/util/Iterator")) := code_word (m := ⟨28, 1⟩) (meth := k28m1) (c := k28c1) (by decide +kernel) rfl rfl rfl (by decide +kernel)
theorem w_c52 : CW ⟨"java/util/ImmutableCollections$List12", "size", "()I"⟩ jdk_44_method_3_code 1 (some .int) := code_word (m := ⟨29, 1⟩) (meth := k29m1) (c := k29c1) (by decide +kernel) rfl rfl rfl (by decide +kernel)
theorem w_c53 : CW ⟨"java/util/ImmutableCollections$ListItr", "<init>", "(Ljava/util/List;I)V"⟩ jdk_53_method_1_code 3 none := code_word (m := ⟨36, 0⟩) (meth := k36m0) (c := k36c0) (by decide +kernel) rfl rfl rfl (by decide +kernel)
theorem w_c54 : CW ⟨"java/util/ImmutableCollections$ListItr", "hasNext", "()Z"⟩ jdk_53_method_3_code 1 (some .boolean) := code_word (m := ⟨36, 1⟩) (meth := k36m1) (c := k36c1) (by decide +kernel) rfl rfl rfl (by decide +kernel)
theorem w_c55 : CW ⟨"java/util/ImmutableCollections$List12", "get", "(I)Ljava/lang/Object;"⟩ jdk_44_method_5_code 2 (some (.object "java/lang/Object")) := code_word (m := ⟨29, 3⟩) (meth := k29m3) (c := k29c3) (by decide +kernel) rfl rfl rfl (by decide +kernel)
theorem w_c56 : CW ⟨"java/lang/StringBuilder", "<init>", "()V"⟩ jdk_67_method_1_code 1 none := code_word (m := ⟨39, 0⟩) (meth := k39m0) (c := k39c0) (by decide +kernel) rfl rfl rfl (by decide +kernel)
theorem w_c57 : CW ⟨"java/lang/AbstractStringBuilder", "<init>", "(I)V"⟩ jdk_68_method_2_code 2 none := code_word (m := ⟨38, 1⟩) (meth := k38m1) (c := k38c1) (by decide +kernel) rfl rfl rfl (by decide +kernel)
theorem w_c58 : CW ⟨"java/lang/StringBuilder", "append", "(Ljava/lang/String;)Ljava/lang/StringBuilder;"⟩ jdk_67_method_7_code 2 (some (.object "java/lang/StringBuilder")) := code_word (m := ⟨39, 2⟩) (meth := k39m2) (c := k39c2) (by decide +kernel) rfl rfl rfl (by decide +kernel)
theorem w_c59 : CW ⟨"java/lang/AbstractStringBuilder", "append", "(Ljava/lang/String;)Ljava/lang/AbstractStringBuilder;"⟩ jdk_68_method_22_code 3 (some (.object "java/lang/AbstractStringBuilder")) := code_word (m := ⟨38, 5⟩) (meth := k38m5) (c := k38c5) (by decide +kernel) rfl rfl rfl (by decide +kernel)
theorem w_c60 : CW ⟨"java/lang/AbstractStringBuilder", "ensureCapacityInternal", "(I)V"⟩ jdk_68_method_9_code 3 none := code_word (m := ⟨38, 3⟩) (meth := k38m3) (c := k38c3) (by decide +kernel) rfl rfl rfl (by decide +kernel)
theorem w_c61 : CW ⟨"java/lang/AbstractStringBuilder", "newCapacity", "(I)I"⟩ jdk_68_method_10_code 6 (some .int) := code_word (m := ⟨38, 4⟩) (meth := k38m4) (c := k38c4) (by decide +kernel) rfl rfl rfl (by decide +kernel)
theorem w_c62 : CW ⟨"jdk/internal/util/ArraysSupport", "newLength", "(III)I"⟩ jdk_48_method_27_code 4 (some .int) := code_word (m := ⟨40, 1⟩) (meth := k40m1) (c := k40c1) (by decide +kernel) rfl rfl rfl (by decide +kernel)
theorem w_c63 : CW ⟨"java/util/Arrays", "copyOf", "([BI)[B"⟩ jdk_65_method_121_code 3 (some (.array .byte)) := code_word (m := ⟨31, 3⟩) (meth := k31m3) (c := k31c3) (by decide +kernel) rfl rfl rfl (by decide +kernel)
theorem w_c64 : CW ⟨"java/lang/AbstractStringBuilder", "putStringAt", "(ILjava/lang/String;)V"⟩ jdk_68_method_73_code 3 none := code_word (m := ⟨38, 10⟩) (meth := k38m10) (c := k38c10) (by decide +kernel) rfl rfl rfl (by decide +kernel)
theorem w_c65 : CW ⟨"java/lang/AbstractStringBuilder", "inflateIfNeededFor", "(Ljava/lang/String;)V"⟩ jdk_68_method_71_code 2 none := code_word (m := ⟨38, 9⟩) (meth := k38m9) (c := k38c9) (by decide +kernel) rfl rfl rfl (by decide +kernel)
theorem w_c66 : CW ⟨"java/lang/String", "getBytes", "([BIB)V"⟩ jdk_42_method_147_code 4 none := code_word (m := ⟨7, 12⟩) (meth := k7m12) (c := k7c12) (by decide +kernel) rfl rfl rfl (by decide +kernel)
theorem w_c67 : CW ⟨"java/lang/StringBuilder", "toString", "()Ljava/lang/String;"⟩ jdk_67_method_42_code 1 (some (.object "java/lang/String")) := code_word (m := ⟨39, 4⟩) (meth := k39m4) (c := k39c4) (by decide +kernel) rfl rfl rfl (by decide +kernel)
theorem w_c68 : CW ⟨"java/lang/String", "<init>", "(Ljava/lang/StringBuilder;)V"⟩ jdk_42_method_53_code 2 none := code_word (m := ⟨7, 2⟩) (meth := k7m2) (c := k7c2) (by decide +kernel) rfl rfl rfl (by decide +kernel)
theorem w_c69 : CW ⟨"java/lang/String", "<init>", "(Ljava/lang/AbstractStringBuilder;Ljava/lang/Void;)V"⟩ jdk_42_method_150_code 5 none := code_word (m := ⟨7, 14⟩) (meth := k7m14) (c := k7c14) (by decide +kernel) rfl rfl rfl (by decide +kernel)
theorem w_c70 : CW ⟨"java/lang/AbstractStringBuilder", "getValue", "()[B"⟩ jdk_68_method_64_code 1 (some (.array .byte)) := code_word (m := ⟨38, 7⟩) (meth := k38m7) (c := k38c7) (by decide +kernel) rfl rfl rfl (by decide +kernel)
theorem w_c71 : CW ⟨"java/lang/StringBuilder", "length", "()I"⟩ jdk_67_method_93_code 1 (some .int) := code_word (m := ⟨39, 5⟩) (meth := k39m5) (c := k39c5) (by decide +kernel) rfl rfl rfl (by decide +kernel)
theorem w_c72 : CW ⟨"java/lang/AbstractStringBuilder", "length", "()I"⟩ jdk_68_method_6_code 1 (some .int) := code_word (m := ⟨38, 2⟩) (meth := k38m2) (c := k38c2) (by decide +kernel) rfl rfl rfl (by decide +kernel)
theorem w_c73 : CW ⟨"java/lang/AbstractStringBuilder", "isLatin1", "()Z"⟩ jdk_68_method_68_code 1 (some .boolean) := code_word (m := ⟨38, 8⟩) (meth := k38m8) (c := k38c8) (by decide +kernel) rfl rfl rfl (by decide +kernel)
theorem w_c74 : CW ⟨"java/util/Arrays", "copyOfRange", "([BII)[B"⟩ jdk_65_method_132_code 3 (some (.array .byte)) := code_word (m := ⟨31, 5⟩) (meth := k31m5) (c := k31c5) (by decide +kernel) rfl rfl rfl (by decide +kernel)
theorem w_c75 : CW ⟨"java/util/Arrays", "copyOfRangeByte", "([BII)[B"⟩ jdk_65_method_133_code 5 (some (.array .byte)) := code_word (m := ⟨31, 6⟩) (meth := k31m6) (c := k31c6) (by decide +kernel) rfl rfl rfl (by decide +kernel)
theorem w_c76 : CW ⟨"java/util/Arrays", "checkLength", "(II)V"⟩ jdk_65_method_131_code 2 none := code_word (m := ⟨31, 4⟩) (meth := k31m4) (c := k31c4) (by decide +kernel) rfl rfl rfl (by decide +kernel)
theorem w_c77 : CW ⟨"com/example/dique/dique/model/Dimension", "<init>", "(Ljava/lang/String;Ljava/lang/String;Ljava/lang/String;Ljava/lang/String;Ljava/util/List;Ljava/util/List;)V"⟩ prog_12_method_1_code 13 none := code_word (m := ⟨41, 0⟩) (meth := k41m0) (c := k41c0) (by decide +kernel) rfl rfl rfl (by decide +kernel)
theorem w_c78 : CW ⟨"java/util/List", "of", "()Ljava/util/List;"⟩ jdk_40_method_36_code 0 (some (.object "java/util/List")) := code_word (m := ⟨13, 3⟩) (meth := k13m3) (c := k13c3) (by decide +kernel) rfl rfl rfl (by decide +kernel)
theorem w_c79 : CW ⟨"com/example/dique/dique/model/Names", "<init>", "(Ljava/lang/String;)V"⟩ prog_17_method_1_code 2 none := code_word (m := ⟨21, 0⟩) (meth := k21m0) (c := k21c0) (by decide +kernel) rfl rfl rfl (by decide +kernel)
theorem w_c80 : CW ⟨"java/util/HashMap", "<init>", "()V"⟩ jdk_69_method_7_code 1 none := code_word (m := ⟨44, 1⟩) (meth := k44m1) (c := k44c1) (by decide +kernel) rfl rfl rfl (by decide +kernel)
theorem w_c81 : CW ⟨"java/util/AbstractMap", "<init>", "()V"⟩ jdk_71_method_1_code 1 none := code_word (m := ⟨43, 0⟩) (meth := k43m0) (c := k43c0) (by decide +kernel) rfl rfl rfl (by decide +kernel)
theorem w_c82 : CW ⟨"com/example/dique/dique/model/Level", "name", "()Ljava/lang/String;"⟩ prog_14_method_5_code 1 (some (.object "java/lang/String")) := code_word (m := ⟨20, 1⟩) (meth := k20m1) (c := k20c1) (by decide +kernel) rfl rfl rfl (by decide +kernel)
theorem w_c83 : CW ⟨"com/example/dique/dique/model/Names", "claim", "(Ljava/lang/String;Ljava/lang/String;)V"⟩ prog_17_method_2_code 5 none := code_word (m := ⟨21, 1⟩) (meth := k21m1) (c := k21c1) (by decide +kernel) rfl rfl rfl (by decide +kernel)
theorem w_c84 : CW ⟨"com/example/dique/dique/util/Identifiers", "fold", "(Ljava/lang/String;)Ljava/lang/String;"⟩ prog_91_method_2_code 3 (some (.object "java/lang/String")) := code_word (m := ⟨22, 1⟩) (meth := k22m1) (c := k22c1) (by decide +kernel) rfl rfl rfl (by decide +kernel)
theorem w_c85 : CW ⟨"java/lang/StringBuilder", "<init>", "(I)V"⟩ jdk_67_method_2_code 2 none := code_word (m := ⟨39, 1⟩) (meth := k39m1) (c := k39c1) (by decide +kernel) rfl rfl rfl (by decide +kernel)
theorem w_c86 : CW ⟨"java/lang/String", "charAt", "(I)C"⟩ jdk_42_method_56_code 2 (some .char) := code_word (m := ⟨7, 4⟩) (meth := k7m4) (c := k7c4) (by decide +kernel) rfl rfl rfl (by decide +kernel)
theorem w_c87 : CW ⟨"java/lang/StringLatin1", "charAt", "([BI)C"⟩ jdk_43_method_2_code 2 (some .char) := code_word (m := ⟨23, 1⟩) (meth := k23m1) (c := k23c1) (by decide +kernel) rfl rfl rfl (by decide +kernel)
theorem w_c88 : CW ⟨"java/lang/String", "checkIndex", "(II)V"⟩ jdk_42_method_155_code 2 none := code_word (m := ⟨7, 17⟩) (meth := k7m17) (c := k7c17) (by decide +kernel) rfl rfl rfl (by decide +kernel)
theorem w_c89 : CW ⟨"jdk/internal/util/Preconditions", "checkIndex", "(IILjava/util/function/BiFunction;)I"⟩ jdk_41_method_11_code 3 (some .int) := code_word (m := ⟨45, 1⟩) (meth := k45m1) (c := k45c1) (by decide +kernel) rfl rfl rfl (by decide +kernel)
theorem w_c90 : CW ⟨"com/example/dique/dique/util/Identifiers", "fold", "(C)C"⟩ prog_91_method_4_code 1 (some .char) := code_word (m := ⟨22, 2⟩) (meth := k22m2) (c := k22c2) (by decide +kernel) rfl rfl rfl (by decide +kernel)
theorem w_c91 : CW ⟨"java/lang/StringBuilder", "append", "(C)Ljava/lang/StringBuilder;"⟩ jdk_67_method_14_code 2 (some (.object "java/lang/StringBuilder")) := code_word (m := ⟨39, 3⟩) (meth := k39m3) (c := k39c3) (by decide +kernel) rfl rfl rfl (by decide +kernel)
theorem w_c92 : CW ⟨"java/lang/AbstractStringBuilder", "append", "(C)Ljava/lang/AbstractStringBuilder;"⟩ jdk_68_method_31_code 2 (some (.object "java/lang/AbstractStringBuilder")) := code_word (m := ⟨38, 6⟩) (meth := k38m6) (c := k38c6) (by decide +kernel) rfl rfl rfl (by decide +kernel)
theorem w_c93 : CW ⟨"java/lang/StringLatin1", "canEncode", "(C)Z"⟩ jdk_43_method_3_code 1 (some .boolean) := code_word (m := ⟨23, 2⟩) (meth := k23m2) (c := k23c2) (by decide +kernel) rfl rfl rfl (by decide +kernel)
theorem w_c94 : CW ⟨"java/util/HashMap", "putIfAbsent", "(Ljava/lang/Object;Ljava/lang/Object;)Ljava/lang/Object;"⟩ jdk_69_method_31_code 3 (some (.object "java/lang/Object")) := code_word (m := ⟨44, 6⟩) (meth := k44m6) (c := k44c6) (by decide +kernel) rfl rfl rfl (by decide +kernel)
theorem w_c95 : CW ⟨"java/util/HashMap", "hash", "(Ljava/lang/Object;)I"⟩ jdk_69_method_1_code 2 (some .int) := code_word (m := ⟨44, 0⟩) (meth := k44m0) (c := k44c0) (by decide +kernel) rfl rfl rfl (by decide +kernel)
theorem w_c96 : CW ⟨"java/lang/String", "hashCode", "()I"⟩ jdk_42_method_78_code 2 (some .int) := code_word (m := ⟨7, 6⟩) (meth := k7m6) (c := k7c6) (by decide +kernel) rfl rfl rfl (by decide +kernel)
theorem w_c97 : CW ⟨"java/lang/StringLatin1", "hashCode", "([B)I"⟩ jdk_43_method_21_code 1 (some .int) := code_word (m := ⟨23, 4⟩) (meth := k23m4) (c := k23c4) (by decide +kernel) rfl rfl rfl (by decide +kernel)
theorem w_c98 : CW ⟨"java/util/HashMap", "putVal", "(ILjava/lang/Object;Ljava/lang/Object;ZZ)Ljava/lang/Object;"⟩ jdk_69_method_16_code 13 (some (.object "java/lang/Object")) := code_word (m := ⟨44, 4⟩) (meth := k44m4) (c := k44c4) (by decide +kernel) rfl rfl rfl (by decide +kernel)
theorem w_c99 : CW ⟨"java/util/HashMap", "resize", "()[Ljava/util/HashMap$Node;"⟩ jdk_69_method_17_code 14 (some (.array (.object "java/util/HashMap$Node"))) := code_word (m := ⟨44, 5⟩) (meth := k44m5) (c := k44c5) (by decide +kernel) rfl rfl rfl (by decide +kernel)
theorem w_c100 : CW ⟨"java/util/HashMap", "newNode", "(ILjava/lang/Object;Ljava/lang/Object;Ljava/util/HashMap$Node;)Ljava/util/HashMap$Node;"⟩ jdk_69_method_46_code 5 (some (.object "java/util/HashMap$Node")) := code_word (m := ⟨44, 7⟩) (meth := k44m7) (c := k44c7) (by decide +kernel) rfl rfl rfl (by decide +kernel)
theorem w_c101 : CW ⟨"java/util/HashMap$Node", "<init>", "(ILjava/lang/Object;Ljava/lang/Object;Ljava/util/HashMap$Node;)V"⟩ jdk_70_method_1_code 5 none := code_word (m := ⟨47, 0⟩) (meth := k47m0) (c := k47c0) (by decide +kernel) rfl rfl rfl (by decide +kernel)
theorem w_c102 : CW ⟨"java/util/HashMap", "afterNodeInsertion", "(Z)V"⟩ jdk_69_method_52_code 2 none := code_word (m := ⟨44, 8⟩) (meth := k44m8) (c := k44c8) (by decide +kernel) rfl rfl rfl (by decide +kernel)
theorem w_c103 : CW ⟨"com/example/dique/dique/model/Level", "columns", "()Ljava/util/List;"⟩ prog_14_method_6_code 1 (some (.object "java/util/List")) := code_word (m := ⟨20, 2⟩) (meth := k20m2) (c := k20c2) (by decide +kernel) rfl rfl rfl (by decide +kernel)
theorem w_c104 : CW ⟨"com/example/dique/dique/model/Dimension", "owner", "(Ljava/lang/String;Lcom/example/dique/dique/model/Level;)Ljava/lang/String;"⟩ prog_12_method_7_code 2 (some (.object "java/lang/String")) := code_word (m := ⟨41, 1⟩) (meth := k41m1) (c := k41c1) (by decide +kernel) rfl rfl rfl (by decide +kernel)
theorem w_c105 : CW ⟨"java/util/ImmutableCollections$ListN", "size", "()I"⟩ jdk_45_method_3_code 1 (some .int) := code_word (m := ⟨30, 0⟩) (meth := k30m0) (c := k30c0) (by decide +kernel) rfl rfl rfl (by decide +kernel)
theorem w_c106 : CW ⟨"com/example/dique/dique/model/Names", "ownerOf", "(Ljava/lang/String;)Ljava/lang/String;"⟩ prog_17_method_3_code 2 (some (.object "java/lang/String")) := code_word (m := ⟨21, 2⟩) (meth := k21m2) (c := k21c2) (by decide +kernel) rfl rfl rfl (by decide +kernel)
theorem w_c107 : CW ⟨"java/util/HashMap", "get", "(Ljava/lang/Object;)Ljava/lang/Object;"⟩ jdk_69_method_12_code 3 (some (.object "java/lang/Object")) := code_word (m := ⟨44, 2⟩) (meth := k44m2) (c := k44c2) (by decide +kernel) rfl rfl rfl (by decide +kernel)
theorem w_c108 : CW ⟨"java/util/HashMap", "getNode", "(Ljava/lang/Object;)Ljava/util/HashMap$Node;"⟩ jdk_69_method_13_code 8 (some (.object "java/util/HashMap$Node")) := code_word (m := ⟨44, 3⟩) (meth := k44m3) (c := k44c3) (by decide +kernel) rfl rfl rfl (by decide +kernel)
theorem w_c109 : CW ⟨"com/example/dique/dique/query/TableRef", "<init>", "(Ljava/lang/String;Ljava/lang/String;Lcom/example/dique/dique/model/Dimension;)V"⟩ prog_81_method_1_code 4 none := code_word (m := ⟨48, 0⟩) (meth := k48m0) (c := k48c0) (by decide +kernel) rfl rfl rfl (by decide +kernel)
theorem w_c110 : CW ⟨"java/util/Objects", "requireNonNull", "(Ljava/lang/Object;Ljava/lang/String;)Ljava/lang/Object;"⟩ jdk_31_method_11_code 2 (some (.object "java/lang/Object")) := code_word (m := ⟨33, 2⟩) (meth := k33m2) (c := k33c2) (by decide +kernel) rfl rfl rfl (by decide +kernel)
theorem w_c111 : CW ⟨"com/example/dique/dique/query/TableRef", "isFact", "()Z"⟩ prog_81_method_3_code 1 (some .boolean) := code_word (m := ⟨48, 1⟩) (meth := k48m1) (c := k48c1) (by decide +kernel) rfl rfl rfl (by decide +kernel)
def codes1 : List Jvm.Cond := [.code x code maxLocals ret, .code ⟨"java/lang/String", "<init>", "([C)V"⟩ jdk_42_method_3_code 2 none, .code ⟨"java/lang/String", "<init>", "([CIILjava/lang/Void;)V"⟩ jdk_42_method_149_code 6 none, .code ⟨"java/lang/Object", "<init>", "()V"⟩ object_method_1_code 1 none, .code ⟨"java/lang/StringUTF16", "compress", "([CII)[B"⟩ jdk_52_method_16_code 6 (some (.array .byte)), .code ⟨"java/lang/StringUTF16", "compress", "([CI[BII)I"⟩ jdk_52_method_21_code 7 (some .int), .code ⟨"java/lang/StringUTF16", "coderFromArrayLen", "([BI)B"⟩ jdk_52_method_15_code 2 (some .byte), .code ⟨"com/example/dique/dique/query/TableRefIsFactPinLaw", "dimension", "()Lcom/example/dique/dique/model/Dimension;"⟩ method_2_code 4 (some (.object "com/example/dique/dique/model/Dimension")), .code ⟨"java/util/ArrayList", "<init>", "()V"⟩ jdk_38_method_2_code 1 none, .code ⟨"java/util/AbstractList", "<init>", "()V"⟩ jdk_39_method_1_code 1 none, .code ⟨"java/util/AbstractCollection", "<init>", "()V"⟩ jdk_22_method_1_code 1 none, .code ⟨"java/util/ArrayList", "add", "(Ljava/lang/Object;)Z"⟩ jdk_38_method_25_code 2 (some .boolean), .code ⟨"java/util/ArrayList", "add", "(Ljava/lang/Object;[Ljava/lang/Object;I)V"⟩ jdk_38_method_24_code 4 none, .code ⟨"java/util/ArrayList", "grow", "()[Ljava/lang/Object;"⟩ jdk_38_method_7_code 1 (some (.array (.object "java/lang/Object"))), .code ⟨"java/util/ArrayList", "grow", "(I)[Ljava/lang/Object;"⟩ jdk_38_method_6_code 4 (some (.array (.object "java/lang/Object"))), .code ⟨"java/lang/Math", "max", "(II)I"⟩ jdk_29_method_65_code 2 (some .int), .code ⟨"com/example/dique/dique/model/Level", "<init>", "(Ljava/lang/String;Ljava/util/List;)V"⟩ prog_14_method_1_code 5 none, .code ⟨"java/lang/Record", "<init>", "()V"⟩ jdk_30_method_1_code 1 none, .code ⟨"com/example/dique/dique/model/Names", "requirePart", "(Ljava/lang/String;Ljava/lang/String;)V"⟩ prog_17_method_4_code 2 none, .code ⟨"com/example/dique/dique/util/Identifiers", "require", "(Ljava/lang/String;Ljava/lang/String;)V"⟩ prog_91_method_5_code 2 none, .code ⟨"java/lang/String", "isBlank", "()Z"⟩ jdk_42_method_117_code 1 (some .boolean), .code ⟨"java/lang/String", "indexOfNonWhitespace", "()I"⟩ jdk_42_method_120_code 1 (some .int), .code ⟨"java/lang/String", "isLatin1", "()Z"⟩ jdk_42_method_154_code 1 (some .boolean), .code ⟨"java/lang/StringLatin1", "indexOfNonWhitespace", "([B)I"⟩ jdk_43_method_37_code 4 (some .int), .code ⟨"java/lang/StringLatin1", "getChar", "([BI)C"⟩ jdk_43_method_44_code 2 (some .char), .code ⟨"java/lang/CharacterDataLatin1", "isWhitespace", "(I)Z"⟩ jdk_116_method_26_code 3 (some .boolean), .code ⟨"java/lang/CharacterDataLatin1", "getProperties", "(I)I"⟩ jdk_116_method_1_code 4 (some .int), .code ⟨"java/lang/String", "length", "()I"⟩ jdk_42_method_54_code 1 (some .int), .code ⟨"java/lang/String", "coder", "()B"⟩ jdk_42_method_152_code 1 (some .byte), .code ⟨"java/lang/String", "strip", "()Ljava/lang/String;"⟩ jdk_42_method_114_code 2 (some (.object "java/lang/String")), .code ⟨"java/lang/StringLatin1", "strip", "([B)Ljava/lang/String;"⟩ jdk_43_method_39_code 4 (some (.object "java/lang/String")), .code ⟨"java/lang/StringLatin1", "lastIndexOfNonWhitespace", "([B)I"⟩ jdk_43_method_38_code 4 (some .int), .code ⟨"java/lang/String", "equals", "(Ljava/lang/Object;)Z"⟩ jdk_42_method_66_code 3 (some .boolean), .code ⟨"java/lang/String", "indexOf", "(I)I"⟩ jdk_42_method_79_code 2 (some .int), .code ⟨"java/lang/String", "indexOf", "(II)I"⟩ jdk_42_method_80_code 3 (some .int), .code ⟨"java/lang/StringLatin1", "indexOf", "([BIII)I"⟩ jdk_43_method_22_code 4 (some .int), .code ⟨"java/lang/StringLatin1", "canEncode", "(I)Z"⟩ jdk_43_method_4_code 1 (some .boolean), .code ⟨"java/lang/Math", "min", "(II)I"⟩ jdk_29_method_69_code 2 (some .int), .code ⟨"java/lang/StringLatin1", "indexOfChar", "([BIII)I"⟩ jdk_43_method_23_code 6 (some .int), .code ⟨"java/util/List", "copyOf", "(Ljava/util/Collection;)Ljava/util/List;"⟩ jdk_40_method_48_code 1 (some (.object "java/util/List")), .code ⟨"java/util/ImmutableCollections", "listCopy", "(Ljava/util/Collection;)Ljava/util/List;"⟩ jdk_56_method_3_code 2 (some (.object "java/util/List")), .code ⟨"java/util/ArrayList", "isEmpty", "()Z"⟩ jdk_38_method_9_code 1 (some .boolean), .code ⟨"java/util/ArrayList", "toArray", "()[Ljava/lang/Object;"⟩ jdk_38_method_16_code 1 (some (.array (.object "java/lang/Object"))), .code ⟨"java/util/Arrays", "copyOf", "([Ljava/lang/Object;I)[Ljava/lang/Object;"⟩ jdk_65_method_119_code 2 (some (.array (.object "java/lang/Object"))), .code ⟨"java/util/Arrays", "copyOf", "([Ljava/lang/Object;ILjava/lang/Class;)[Ljava/lang/Object;"⟩ jdk_65_method_120_code 4 (some (.array (.object "java/lang/Object"))), .code ⟨"java/util/List", "of", "([Ljava/lang/Object;)Ljava/util/List;"⟩ jdk_40_method_47_code 2 (some (.object "java/util/List")), .code ⟨"java/util/ImmutableCollections$List12", "<init>", "(Ljava/lang/Object;)V"⟩ jdk_44_method_1_code 2 none, .code ⟨"java/util/ImmutableCollections$AbstractImmutableList", "<init>", "()V"⟩ jdk_46_method_1_code 1 none, .code ⟨"java/util/ImmutableCollections$AbstractImmutableCollection", "<init>", "()V"⟩ jdk_47_method_1_code 1 none, .code ⟨"java/util/Objects", "requireNonNull", "(Ljava/lang/Object;)Ljava/lang/Object;"⟩ jdk_31_method_10_code 1 (some (.object "java/lang/Object")), .code ⟨"java/util/ImmutableCollections$List12", "isEmpty", "()Z"⟩ jdk_44_method_4_code 1 (some .boolean), .code ⟨"java/util/ImmutableCollections$AbstractImmutableList", "iterator", "()Ljava/util/Iterator;"⟩ jdk_46_method_10_code 1 (some (.object "java/util/Iterator")), .code ⟨"java/util/ImmutableCollections$List12", "size", "()I"⟩ jdk_44_method_3_code 1 (some .int), .code ⟨"java/util/ImmutableCollections$ListItr", "<init>", "(Ljava/util/List;I)V"⟩ jdk_53_method_1_code 3 none, .code ⟨"java/util/ImmutableCollections$ListItr", "hasNext", "()Z"⟩ jdk_53_method_3_code 1 (some .boolean), .code ⟨"java/util/ImmutableCollections$List12", "get", "(I)Ljava/lang/Object;"⟩ jdk_44_method_5_code 2 (some (.object "java/lang/Object")), .code ⟨"java/lang/StringBuilder", "<init>", "()V"⟩ jdk_67_method_1_code 1 none, .code ⟨"java/lang/AbstractStringBuilder", "<init>", "(I)V"⟩ jdk_68_method_2_code 2 none, .code ⟨"java/lang/StringBuilder", "append", "(Ljava/lang/String;)Ljava/lang/StringBuilder;"⟩ jdk_67_method_7_code 2 (some (.object "java/lang/StringBuilder")), .code ⟨"java/lang/AbstractStringBuilder", "append", "(Ljava/lang/String;)Ljava/lang/AbstractStringBuilder;"⟩ jdk_68_method_22_code 3 (some (.object "java/lang/AbstractStringBuilder")), .code ⟨"java/lang/AbstractStringBuilder", "ensureCapacityInternal", "(I)V"⟩ jdk_68_method_9_code 3 none, .code ⟨"java/lang/AbstractStringBuilder", "newCapacity", "(I)I"⟩ jdk_68_method_10_code 6 (some .int), .code ⟨"jdk/internal/util/ArraysSupport", "newLength", "(III)I"⟩ jdk_48_method_27_code 4 (some .int), .code ⟨"java/util/Arrays", "copyOf", "([BI)[B"⟩ jdk_65_method_121_code 3 (some (.array .byte)), .code ⟨"java/lang/AbstractStringBuilder", "putStringAt", "(ILjava/lang/String;)V"⟩ jdk_68_method_73_code 3 none, .code ⟨"java/lang/AbstractStringBuilder", "inflateIfNeededFor", "(Ljava/lang/String;)V"⟩ jdk_68_method_71_code 2 none, .code ⟨"java/lang/String", "getBytes", "([BIB)V"⟩ jdk_42_method_147_code 4 none, .code ⟨"java/lang/StringBuilder", "toString", "()Ljava/lang/String;"⟩ jdk_67_method_42_code 1 (some (.object "java/lang/String")), .code ⟨"java/lang/String", "<init>", "(Ljava/lang/StringBuilder;)V"⟩ jdk_42_method_53_code 2 none, .code ⟨"java/lang/String", "<init>", "(Ljava/lang/AbstractStringBuilder;Ljava/lang/Void;)V"⟩ jdk_42_method_150_code 5 none, .code ⟨"java/lang/AbstractStringBuilder", "getValue", "()[B"⟩ jdk_68_method_64_code 1 (some (.array .byte)), .code ⟨"java/lang/StringBuilder", "length", "()I"⟩ jdk_67_method_93_code 1 (some .int), .code ⟨"java/lang/AbstractStringBuilder", "length", "()I"⟩ jdk_68_method_6_code 1 (some .int), .code ⟨"java/lang/AbstractStringBuilder", "isLatin1", "()Z"⟩ jdk_68_method_68_code 1 (some .boolean), .code ⟨"java/util/Arrays", "copyOfRange", "([BII)[B"⟩ jdk_65_method_132_code 3 (some (.array .byte)), .code ⟨"java/util/Arrays", "copyOfRangeByte", "([BII)[B"⟩ jdk_65_method_133_code 5 (some (.array .byte)), .code ⟨"java/util/Arrays", "checkLength", "(II)V"⟩ jdk_65_method_131_code 2 none, .code ⟨"com/example/dique/dique/model/Dimension", "<init>", "(Ljava/lang/String;Ljava/lang/String;Ljava/lang/String;Ljava/lang/String;Ljava/util/List;Ljava/util/List;)V"⟩ prog_12_method_1_code 13 none, .code ⟨"java/util/List", "of", "()Ljava/util/List;"⟩ jdk_40_method_36_code 0 (some (.object "java/util/List")), .code ⟨"com/example/dique/dique/model/Names", "<init>", "(Ljava/lang/String;)V"⟩ prog_17_method_1_code 2 none, .code ⟨"java/util/HashMap", "<init>", "()V"⟩ jdk_69_method_7_code 1 none, .code ⟨"java/util/AbstractMap", "<init>", "()V"⟩ jdk_71_method_1_code 1 none, .code ⟨"com/example/dique/dique/model/Level", "name", "()Ljava/lang/String;"⟩ prog_14_method_5_code 1 (some (.object "java/lang/String")), .code ⟨"com/example/dique/dique/model/Names", "claim", "(Ljava/lang/String;Ljava/lang/String;)V"⟩ prog_17_method_2_code 5 none, .code ⟨"com/example/dique/dique/util/Identifiers", "fold", "(Ljava/lang/String;)Ljava/lang/String;"⟩ prog_91_method_2_code 3 (some (.object "java/lang/String")), .code ⟨"java/lang/StringBuilder", "<init>", "(I)V"⟩ jdk_67_method_2_code 2 none, .code ⟨"java/lang/String", "charAt", "(I)C"⟩ jdk_42_method_56_code 2 (some .char), .code ⟨"java/lang/StringLatin1", "charAt", "([BI)C"⟩ jdk_43_method_2_code 2 (some .char), .code ⟨"java/lang/String", "checkIndex", "(II)V"⟩ jdk_42_method_155_code 2 none, .code ⟨"jdk/internal/util/Preconditions", "checkIndex", "(IILjava/util/function/BiFunction;)I"⟩ jdk_41_method_11_code 3 (some .int), .code ⟨"com/example/dique/dique/util/Identifiers", "fold", "(C)C"⟩ prog_91_method_4_code 1 (some .char), .code ⟨"java/lang/StringBuilder", "append", "(C)Ljava/lang/StringBuilder;"⟩ jdk_67_method_14_code 2 (some (.object "java/lang/StringBuilder")), .code ⟨"java/lang/AbstractStringBuilder", "append", "(C)Ljava/lang/AbstractStringBuilder;"⟩ jdk_68_method_31_code 2 (some (.object "java/lang/AbstractStringBuilder")), .code ⟨"java/lang/StringLatin1", "canEncode", "(C)Z"⟩ jdk_43_method_3_code 1 (some .boolean), .code ⟨"java/util/HashMap", "putIfAbsent", "(Ljava/lang/Object;Ljava/lang/Object;)Ljava/lang/Object;"⟩ jdk_69_method_31_code 3 (some (.object "java/lang/Object")), .code ⟨"java/util/HashMap", "hash", "(Ljava/lang/Object;)I"⟩ jdk_69_method_1_code 2 (some .int), .code ⟨"java/lang/String", "hashCode", "()I"⟩ jdk_42_method_78_code 2 (some .int), .code ⟨"java/lang/StringLatin1", "hashCode", "([B)I"⟩ jdk_43_method_21_code 1 (some .int), .code ⟨"java/util/HashMap", "putVal", "(ILjava/lang/Object;Ljava/lang/Object;ZZ)Ljava/lang/Object;"⟩ jdk_69_method_16_code 13 (some (.object "java/lang/Object")), .code ⟨"java/util/HashMap", "resize", "()[Ljava/util/HashMap$Node;"⟩ jdk_69_method_17_code 14 (some (.array (.object "java/util/HashMap$Node"))), .code ⟨"java/util/HashMap", "newNode", "(ILjava/lang/Object;Ljava/lang/Object;Ljava/util/HashMap$Node;)Ljava/util/HashMap$Node;"⟩ jdk_69_method_46_code 5 (some (.object "java/util/HashMap$Node")), .code ⟨"java/util/HashMap$Node", "<init>", "(ILjava/lang/Object;Ljava/lang/Object;Ljava/util/HashMap$Node;)V"⟩ jdk_70_method_1_code 5 none, .code ⟨"java/util/HashMap", "afterNodeInsertion", "(Z)V"⟩ jdk_69_method_52_code 2 none, .code ⟨"com/example/dique/dique/model/Level", "columns", "()Ljava/util/List;"⟩ prog_14_method_6_code 1 (some (.object "java/util/List")), .code ⟨"com/example/dique/dique/model/Dimension", "owner", "(Ljava/lang/String;Lcom/example/dique/dique/model/Level;)Ljava/lang/String;"⟩ prog_12_method_7_code 2 (some (.object "java/lang/String")), .code ⟨"java/util/ImmutableCollections$ListN", "size", "()I"⟩ jdk_45_method_3_code 1 (some .int), .code ⟨"com/example/dique/dique/model/Names", "ownerOf", "(Ljava/lang/String;)Ljava/lang/String;"⟩ prog_17_method_3_code 2 (some (.object "java/lang/String")), .code ⟨"java/util/HashMap", "get", "(Ljava/lang/Object;)Ljava/lang/Object;"⟩ jdk_69_method_12_code 3 (some (.object "java/lang/Object")), .code ⟨"java/util/HashMap", "getNode", "(Ljava/lang/Object;)Ljava/util/HashMap$Node;"⟩ jdk_69_method_13_code 8 (some (.object "java/util/HashMap$Node")), .code ⟨"com/example/dique/dique/query/TableRef", "<init>", "(Ljava/lang/String;Ljava/lang/String;Lcom/example/dique/dique/model/Dimension;)V"⟩ prog_81_method_1_code 4 none, .code ⟨"java/util/Objects", "requireNonNull", "(Ljava/lang/Object;Ljava/lang/String;)Ljava/lang/Object;"⟩ jdk_31_method_11_code 2 (some (.object "java/lang/Object")), .code ⟨"com/example/dique/dique/query/TableRef", "isFact", "()Z"⟩ prog_81_method_3_code 1 (some .boolean)]
theorem codes_eq : words1.filter isCode = codes1 := rfl
theorem w_codes : ∀ c ∈ words1.filter isCode, c.before args0 about1 = true := by
  rw [codes_eq]
  intro c hc
  simp only [codes1, List.mem_cons, List.not_mem_nil, or_false] at hc
  rcases hc with rfl | rfl | rfl | rfl | rfl | rfl | rfl | rfl | rfl | rfl | rfl | rfl | rfl | rfl | rfl | rfl | rfl | rfl | rfl | rfl | rfl | rfl | rfl | rfl | rfl | rfl | rfl | rfl | rfl | rfl | rfl | rfl | rfl | rfl | rfl | rfl | rfl | rfl | rfl | rfl | rfl | rfl | rfl | rfl | rfl | rfl | rfl | rfl | rfl | rfl | rfl | rfl | rfl | rfl | rfl | rfl | rfl | rfl | rfl | rfl | rfl | rfl | rfl | rfl | rfl | rfl | rfl | rfl | rfl | rfl | rfl | rfl | rfl | rfl | rfl | rfl | rfl | rfl | rfl | rfl | rfl | rfl | rfl | rfl | rfl | rfl | rfl | rfl | rfl | rfl | rfl | rfl | rfl | rfl | rfl | rfl | rfl | rfl | rfl | rfl | rfl | rfl | rfl | rfl | rfl | rfl | rfl | rfl | rfl | rfl | rfl | rfl
  · exact w_c0
  · exact w_c1
  · exact w_c2
  · exact w_c3
  · exact w_c4
  · exact w_c5
  · exact w_c6
  · exact w_c7
  · exact w_c8
  · exact w_c9
  · exact w_c10
  · exact w_c11
  · exact w_c12
  · exact w_c13
  · exact w_c14
  · exact w_c15
  · exact w_c16
  · exact w_c17
  · exact w_c18
  · exact w_c19
  · exact w_c20
  · exact w_c21
  · exact w_c22
  · exact w_c23
  · exact w_c24
  · exact w_c25
  · exact w_c26
  · exact w_c27
  · exact w_c28
  · exact w_c29
  · exact w_c30
  · exact w_c31
  · exact w_c32
  · exact w_c33
  · exact w_c34
  · exact w_c35
  · exact w_c36
  · exact w_c37
  · exact w_c38
  · exact w_c39
  · exact w_c40
  · exact w_c41
  · exact w_c42
  · exact w_c43
  · exact w_c44
  · exact w_c45
  · exact w_c46
  · exact w_c47
  · exact w_c48
  · exact w_c49
  · exact w_c50
  · exact w_c51
  · exact w_c52
  · exact w_c53
  · exact w_c54
  · exact w_c55
  · exact w_c56
  · exact w_c57
  · exact w_c58
  · exact w_c59
  · exact w_c60
  · exact w_c61
  · exact w_c62
  · exact w_c63
  · exact w_c64
  · exact w_c65
  · exact w_c66
  · exact w_c67
  · exact w_c68
  · exact w_c69
  · exact w_c70
  · exact w_c71
  · exact w_c72
  · exact w_c73
  · exact w_c74
  · exact w_c75
  · exact w_c76
  · exact w_c77
  · exact w_c78
  · exact w_c79
  · exact w_c80
  · exact w_c81
  · exact w_c82
  · exact w_c83
  · exact w_c84
  · exact w_c85
  · exact w_c86
  · exact w_c87
  · exact w_c88
  · exact w_c89
  · exact w_c90
  · exact w_c91
  · exact w_c92
  · exact w_c93
  · exact w_c94
  · exact w_c95
  · exact w_c96
  · exact w_c97
  · exact w_c98
  · exact w_c99
  · exact w_c100
  · exact w_c101
  · exact w_c102
  · exact w_c103
  · exact w_c104
  · exact w_c105
  · exact w_c106
  · exact w_c107
  · exact w_c108
  · exact w_c109
  · exact w_c110
  · exact w_c111
theorem w_t1 : (words1.take 24).all (fun c => isCode c || c.before args0 about1) = true := by decide +kernel
theorem w_t2 : ((words1.drop 24).take 24).all (fun c => isCode c || c.before args0 about1) = true := by decide +kernel
theorem w_t3 : (((words1.drop 24).drop 24).take 24).all (fun c => isCode c || c.before args0 about1) = true := by decide +kernel
theorem w_t4 : ((((words1.drop 24).drop 24).drop 24).take 24).all (fun c => isCode c || c.before args0 about1) = true := by decide +kernel
theorem w_t5 : (((((words1.drop 24).drop 24).drop 24).drop 24).take 24).all (fun c => isCode c || c.before args0 about1) = true := by decide +kernel
theorem w_t6 : ((((((words1.drop 24).drop 24).drop 24).drop 24).drop 24).take 24).all (fun c => isCode c || c.before args0 about1) = true := by decide +kernel
theorem w_t7 : (((((((words1.drop 24).drop 24).drop 24).drop 24).drop 24).drop 24).take 24).all (fun c => isCode c || c.before args0 about1) = true := by decide +kernel
theorem w_t8 : ((((((((words1.drop 24).drop 24).drop 24).drop 24).drop 24).drop 24).drop 24).take 24).all (fun c => isCode c || c.before args0 about1) = true := by decide +kernel
theorem w_t9 : (((((((((words1.drop 24).drop 24).drop 24).drop 24).drop 24).drop 24).drop 24).drop 24).take 24).all (fun c => isCode c || c.before args0 about1) = true := by decide +kernel
theorem w_t10 : ((((((((((words1.drop 24).drop 24).drop 24).drop 24).drop 24).drop 24).drop 24).drop 24).drop 24).take 24).all (fun c => isCode c || c.before args0 about1) = true := by decide +kernel
theorem w_t11 : (((((((((((words1.drop 24).drop 24).drop 24).drop 24).drop 24).drop 24).drop 24).drop 24).drop 24).drop 24).take 24).all (fun c => isCode c || c.before args0 about1) = true := by decide +kernel
theorem w_t12 : ((((((((((((words1.drop 24).drop 24).drop 24).drop 24).drop 24).drop 24).drop 24).drop 24).drop 24).drop 24).drop 24).take 24).all (fun c => isCode c || c.before args0 about1) = true := by decide +kernel
theorem w_t13 : (((((((((((((words1.drop 24).drop 24).drop 24).drop 24).drop 24).drop 24).drop 24).drop 24).drop 24).drop 24).drop 24).drop 24).take 24).all (fun c => isCode c || c.before args0 about1) = true := by decide +kernel
theorem w_t14 : ((((((((((((((words1.drop 24).drop 24).drop 24).drop 24).drop 24).drop 24).drop 24).drop 24).drop 24).drop 24).drop 24).drop 24).drop 24).take 24).all (fun c => isCode c || c.before args0 about1) = true := by decide +kernel
theorem w_t15 : (((((((((((((((words1.drop 24).drop 24).drop 24).drop 24).drop 24).drop 24).drop 24).drop 24).drop 24).drop 24).drop 24).drop 24).drop 24).drop 24).take 24).all (fun c => isCode c || c.before args0 about1) = true := by decide +kernel
theorem w_t16 : ((((((((((((((((words1.drop 24).drop 24).drop 24).drop 24).drop 24).drop 24).drop 24).drop 24).drop 24).drop 24).drop 24).drop 24).drop 24).drop 24).drop 24).take 24).all (fun c => isCode c || c.before args0 about1) = true := by decide +kernel
theorem w_t17 : (((((((((((((((((words1.drop 24).drop 24).drop 24).drop 24).drop 24).drop 24).drop 24).drop 24).drop 24).drop 24).drop 24).drop 24).drop 24).drop 24).drop 24).drop 24).take 24).all (fun c => isCode c || c.before args0 about1) = true := by decide +kernel
theorem w_t18 : ((((((((((((((((((words1.drop 24).drop 24).drop 24).drop 24).drop 24).drop 24).drop 24).drop 24).drop 24).drop 24).drop 24).drop 24).drop 24).drop 24).drop 24).drop 24).drop 24).take 24).all (fun c => isCode c || c.before args0 about1) = true := by decide +kernel
theorem w_t19 : (((((((((((((((((((words1.drop 24).drop 24).drop 24).drop 24).drop 24).drop 24).drop 24).drop 24).drop 24).drop 24).drop 24).drop 24).drop 24).drop 24).drop 24).drop 24).drop 24).drop 24).take 24).all (fun c => isCode c || c.before args0 about1) = true := by decide +kernel
theorem w_t20 : ((((((((((((((((((((words1.drop 24).drop 24).drop 24).drop 24).drop 24).drop 24).drop 24).drop 24).drop 24).drop 24).drop 24).drop 24).drop 24).drop 24).drop 24).drop 24).drop 24).drop 24).drop 24).take 24).all (fun c => isCode c || c.before args0 about1) = true := by decide +kernel
theorem w_t21 : (((((((((((((((((((((words1.drop 24).drop 24).drop 24).drop 24).drop 24).drop 24).drop 24).drop 24).drop 24).drop 24).drop 24).drop 24).drop 24).drop 24).drop 24).drop 24).drop 24).drop 24).drop 24).drop 24).take 24).all (fun c => isCode c || c.before args0 about1) = true := by decide +kernel
theorem w_t22 : ((((((((((((((((((((((words1.drop 24).drop 24).drop 24).drop 24).drop 24).drop 24).drop 24).drop 24).drop 24).drop 24).drop 24).drop 24).drop 24).drop 24).drop 24).drop 24).drop 24).drop 24).drop 24).drop 24).drop 24).take 24).all (fun c => isCode c || c.before args0 about1) = true := by decide +kernel
theorem w_t23 : (((((((((((((((((((((((words1.drop 24).drop 24).drop 24).drop 24).drop 24).drop 24).drop 24).drop 24).drop 24).drop 24).drop 24).drop 24).drop 24).drop 24).drop 24).drop 24).drop 24).drop 24).drop 24).drop 24).drop 24).drop 24).take 24).all (fun c => isCode c || c.before args0 about1) = true := by decide +kernel
theorem w_t24 : ((((((((((((((((((((((((words1.drop 24).drop 24).drop 24).drop 24).drop 24).drop 24).drop 24).drop 24).drop 24).drop 24).drop 24).drop 24).drop 24).drop 24).drop 24).drop 24).drop 24).drop 24).drop 24).drop 24).drop 24).drop 24).drop 24).take 24).all (fun c => isCode c || c.before args0 about1) = true := by decide +kernel
theorem w_t25 : (((((((((((((((((((((((((words1.drop 24).drop 24).drop 24).drop 24).drop 24).drop 24).drop 24).drop 24).drop 24).drop 24).drop 24).drop 24).drop 24).drop 24).drop 24).drop 24).drop 24).drop 24).drop 24).drop 24).drop 24).drop 24).drop 24).drop 24).take 24).all (fun c => isCode c || c.before args0 about1) = true := by decide +kernel
theorem w_t26 : ((((((((((((((((((((((((((words1.drop 24).drop 24).drop 24).drop 24).drop 24).drop 24).drop 24).drop 24).drop 24).drop 24).drop 24).drop 24).drop 24).drop 24).drop 24).drop 24).drop 24).drop 24).drop 24).drop 24).drop 24).drop 24).drop 24).drop 24).drop 24).take 24).all (fun c => isCode c || c.before args0 about1) = true := by decide +kernel
theorem w_t27 : (((((((((((((((((((((((((((words1.drop 24).drop 24).drop 24).drop 24).drop 24).drop 24).drop 24).drop 24).drop 24).drop 24).drop 24).drop 24).drop 24).drop 24).drop 24).drop 24).drop 24).drop 24).drop 24).drop 24).drop 24).drop 24).drop 24).drop 24).drop 24).drop 24).take 24).all (fun c => isCode c || c.before args0 about1) = true := by decide +kernel
theorem w_t28 : ((((((((((((((((((((((((((((words1.drop 24).drop 24).drop 24).drop 24).drop 24).drop 24).drop 24).drop 24).drop 24).drop 24).drop 24).drop 24).drop 24).drop 24).drop 24).drop 24).drop 24).drop 24).drop 24).drop 24).drop 24).drop 24).drop 24).drop 24).drop 24).drop 24).drop 24).take 24).all (fun c => isCode c || c.before args0 about1) = true := by decide +kernel
theorem w_t29 : (((((((((((((((((((((((((((((words1.drop 24).drop 24).drop 24).drop 24).drop 24).drop 24).drop 24).drop 24).drop 24).drop 24).drop 24).drop 24).drop 24).drop 24).drop 24).drop 24).drop 24).drop 24).drop 24).drop 24).drop 24).drop 24).drop 24).drop 24).drop 24).drop 24).drop 24).drop 24).take 24).all (fun c => isCode c || c.before args0 about1) = true := by decide +kernel
theorem w_t30 : ((((((((((((((((((((((((((((((words1.drop 24).drop 24).drop 24).drop 24).drop 24).drop 24).drop 24).drop 24).drop 24).drop 24).drop 24).drop 24).drop 24).drop 24).drop 24).drop 24).drop 24).drop 24).drop 24).drop 24).drop 24).drop 24).drop 24).drop 24).drop 24).drop 24).drop 24).drop 24).drop 24).take 24).all (fun c => isCode c || c.before args0 about1) = true := by decide +kernel
theorem w_t31 : ((((((((((((((((((((((((((((((words1.drop 24).drop 24).drop 24).drop 24).drop 24).drop 24).drop 24).drop 24).drop 24).drop 24).drop 24).drop 24).drop 24).drop 24).drop 24).drop 24).drop 24).drop 24).drop 24).drop 24).drop 24).drop 24).drop 24).drop 24).drop 24).drop 24).drop 24).drop 24).drop 24).drop 24).all (fun c => isCode c || c.before args0 about1) = true := by decide +kernel
theorem w_tables : (allAtoms (Jvm.Cond.code x code maxLocals ret :: tables_1)).before args0 about1 = true := by
  rw [allAtoms_all]
  show words1.all (fun c => c.before args0 about1) = true
  refine all_split ?_ w_codes
  rw [← List.take_append_drop 24 words1, List.all_append, w_t1, ← List.take_append_drop 24 (words1.drop 24), List.all_append, w_t2, ← List.take_append_drop 24 ((words1.drop 24).drop 24), List.all_append, w_t3, ← List.take_append_drop 24 (((words1.drop 24).drop 24).drop 24), List.all_append, w_t4, ← List.take_append_drop 24 ((((words1.drop 24).drop 24).drop 24).drop 24), List.all_append, w_t5, ← List.take_append_drop 24 (((((words1.drop 24).drop 24).drop 24).drop 24).drop 24), List.all_append, w_t6, ← List.take_append_drop 24 ((((((words1.drop 24).drop 24).drop 24).drop 24).drop 24).drop 24), List.all_append, w_t7, ← List.take_append_drop 24 (((((((words1.drop 24).drop 24).drop 24).drop 24).drop 24).drop 24).drop 24), List.all_append, w_t8, ← List.take_append_drop 24 ((((((((words1.drop 24).drop 24).drop 24).drop 24).drop 24).drop 24).drop 24).drop 24), List.all_append, w_t9, ← List.take_append_drop 24 (((((((((words1.drop 24).drop 24).drop 24).drop 24).drop 24).drop 24).drop 24).drop 24).drop 24), List.all_append, w_t10, ← List.take_append_drop 24 ((((((((((words1.drop 24).drop 24).drop 24).drop 24).drop 24).drop 24).drop 24).drop 24).drop 24).drop 24), List.all_append, w_t11, ← List.take_append_drop 24 (((((((((((words1.drop 24).drop 24).drop 24).drop 24).drop 24).drop 24).drop 24).drop 24).drop 24).drop 24).drop 24), List.all_append, w_t12, ← List.take_append_drop 24 ((((((((((((words1.drop 24).drop 24).drop 24).drop 24).drop 24).drop 24).drop 24).drop 24).drop 24).drop 24).drop 24).drop 24), List.all_append, w_t13, ← List.take_append_drop 24 (((((((((((((words1.drop 24).drop 24).drop 24).drop 24).drop 24).drop 24).drop 24).drop 24).drop 24).drop 24).drop 24).drop 24).drop 24), List.all_append, w_t14, ← List.take_append_drop 24 ((((((((((((((words1.drop 24).drop 24).drop 24).drop 24).drop 24).drop 24).drop 24).drop 24).drop 24).drop 24).drop 24).drop 24).drop 24).drop 24), List.all_append, w_t15, ← List.take_append_drop 24 (((((((((((((((words1.drop 24).drop 24).drop 24).drop 24).drop 24).drop 24).drop 24).drop 24).drop 24).drop 24).drop 24).drop 24).drop 24).drop 24).drop 24), List.all_append, w_t16, ← List.take_append_drop 24 ((((((((((((((((words1.drop 24).drop 24).drop 24).drop 24).drop 24).drop 24).drop 24).drop 24).drop 24).drop 24).drop 24).drop 24).drop 24).drop 24).drop 24).drop 24), List.all_append, w_t17, ← List.take_append_drop 24 (((((((((((((((((words1.drop 24).drop 24).drop 24).drop 24).drop 24).drop 24).drop 24).drop 24).drop 24).drop 24).drop 24).drop 24).drop 24).drop 24).drop 24).drop 24).drop 24), List.all_append, w_t18, ← List.take_append_drop 24 ((((((((((((((((((words1.drop 24).drop 24).drop 24).drop 24).drop 24).drop 24).drop 24).drop 24).drop 24).drop 24).drop 24).drop 24).drop 24).drop 24).drop 24).drop 24).drop 24).drop 24), List.all_append, w_t19, ← List.take_append_drop 24 (((((((((((((((((((words1.drop 24).drop 24).drop 24).drop 24).drop 24).drop 24).drop 24).drop 24).drop 24).drop 24).drop 24).drop 24).drop 24).drop 24).drop 24).drop 24).drop 24).drop 24).drop 24), List.all_append, w_t20, ← List.take_append_drop 24 ((((((((((((((((((((words1.drop 24).drop 24).drop 24).drop 24).drop 24).drop 24).drop 24).drop 24).drop 24).drop 24).drop 24).drop 24).drop 24).drop 24).drop 24).drop 24).drop 24).drop 24).drop 24).drop 24), List.all_append, w_t21, ← List.take_append_drop 24 (((((((((((((((((((((words1.drop 24).drop 24).drop 24).drop 24).drop 24).drop 24).drop 24).drop 24).drop 24).drop 24).drop 24).drop 24).drop 24).drop 24).drop 24).drop 24).drop 24).drop 24).drop 24).drop 24).drop 24), List.all_append, w_t22, ← List.take_append_drop 24 ((((((((((((((((((((((words1.drop 24).drop 24).drop 24).drop 24).drop 24).drop 24).drop 24).drop 24).drop 24).drop 24).drop 24).drop 24).drop 24).drop 24).drop 24).drop 24).drop 24).drop 24).drop 24).drop 24).drop 24).drop 24), List.all_append, w_t23, ← List.take_append_drop 24 (((((((((((((((((((((((words1.drop 24).drop 24).drop 24).drop 24).drop 24).drop 24).drop 24).drop 24).drop 24).drop 24).drop 24).drop 24).drop 24).drop 24).drop 24).drop 24).drop 24).drop 24).drop 24).drop 24).drop 24).drop 24).drop 24), List.all_append, w_t24, ← List.take_append_drop 24 ((((((((((((((((((((((((words1.drop 24).drop 24).drop 24).drop 24).drop 24).drop 24).drop 24).drop 24).drop 24).drop 24).drop 24).drop 24).drop 24).drop 24).drop 24).drop 24).drop 24).drop 24).drop 24).drop 24).drop 24).drop 24).drop 24).drop 24), List.all_append, w_t25, ← List.take_append_drop 24 (((((((((((((((((((((((((words1.drop 24).drop 24).drop 24).drop 24).drop 24).drop 24).drop 24).drop 24).drop 24).drop 24).drop 24).drop 24).drop 24).drop 24).drop 24).drop 24).drop 24).drop 24).drop 24).drop 24).drop 24).drop 24).drop 24).drop 24).drop 24), List.all_append, w_t26, ← List.take_append_drop 24 ((((((((((((((((((((((((((words1.drop 24).drop 24).drop 24).drop 24).drop 24).drop 24).drop 24).drop 24).drop 24).drop 24).drop 24).drop 24).drop 24).drop 24).drop 24).drop 24).drop 24).drop 24).drop 24).drop 24).drop 24).drop 24).drop 24).drop 24).drop 24).drop 24), List.all_append, w_t27, ← List.take_append_drop 24 (((((((((((((((((((((((((((words1.drop 24).drop 24).drop 24).drop 24).drop 24).drop 24).drop 24).drop 24).drop 24).drop 24).drop 24).drop 24).drop 24).drop 24).drop 24).drop 24).drop 24).drop 24).drop 24).drop 24).drop 24).drop 24).drop 24).drop 24).drop 24).drop 24).drop 24), List.all_append, w_t28, ← List.take_append_drop 24 ((((((((((((((((((((((((((((words1.drop 24).drop 24).drop 24).drop 24).drop 24).drop 24).drop 24).drop 24).drop 24).drop 24).drop 24).drop 24).drop 24).drop 24).drop 24).drop 24).drop 24).drop 24).drop 24).drop 24).drop 24).drop 24).drop 24).drop 24).drop 24).drop 24).drop 24).drop 24), List.all_append, w_t29, ← List.take_append_drop 24 (((((((((((((((((((((((((((((words1.drop 24).drop 24).drop 24).drop 24).drop 24).drop 24).drop 24).drop 24).drop 24).drop 24).drop 24).drop 24).drop 24).drop 24).drop 24).drop 24).drop 24).drop 24).drop 24).drop 24).drop 24).drop 24).drop 24).drop 24).drop 24).drop 24).drop 24).drop 24).drop 24), List.all_append, w_t30, w_t31]
  rfl
theorem w_rest : rest_1_c.before args0 about1 = true := by decide +kernel
theorem w_case : (Jvm.Cond.and given_1 narrow_1).before args0 about1 = true := by decide +kernel
theorem w_consts : constsHeld consts_1 about1 := Jvm.Lit.constsHeldB_iff.mp (by decide +kernel)
theorem w_applies : (headSpec (Jvm.Cond.code x code maxLocals ret :: tables_1) room_1).applies x e0.platform about1 = true :=
  (Spec.applies_iff w_frames).mpr ⟨w_running, w_runnable, w_alone, w_named, w_hears, w_ripe, w_room, w_tables⟩
theorem atStart : AtStart classFile x code maxLocals ret World_1 tables_1 room_1 Calls_1 rest_1 Pre_1 launch0 p0 e0 about1 theMethod args0 below0 :=
  ⟨lists_1, trivial, launch0.admits_env _ _ _, launch0.least_env, fairChoices_fair.cas, fairChoices_fair.clock, w_frames, w_args, w_heap, w_applies, ⟨⟨56, k56, 5, by decide +kernel, rfl, rfl, _, rfl, rfl⟩, ⟨w_consts, trivial⟩⟩, w_rest, w_case⟩
end start1
theorem witness_1 : WitnessClaimed_1 := ⟨start1.p0, start1.e0, start1.about1, start1.theMethod, start1.args0, start1.below0, start1.atStart⟩
end Jvm.Pilot.@@N@@
